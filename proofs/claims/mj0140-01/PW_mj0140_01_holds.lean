import PyProof.Rows.All
import Wide.All
import OpenK.AllK
import Wide.FinOn
import PySem.Challenge.RW_mj0140_01
set_option Elab.async false
section
open PySem PySem.W PyProof.Rows PySem.Calls
set_option Elab.async false
namespace Mine
theorem ne_lt {a d : Nat} {o : Obj} {l : List (Addr × Obj)} (h : ∀ p ∈ l, p.1 < d) (m : (a, o) ∈ l) : a ≠ d := Nat.ne_of_lt (h _ m)
theorem ne_gt {a d : Nat} {o : Obj} {l : List (Addr × Obj)} (h : ∀ p ∈ l, p.1 < d) (m : (a, o) ∈ l) : d ≠ a := Nat.ne_of_gt (h _ m)
theorem lt_mem {a d : Nat} {o : Obj} {l : List (Addr × Obj)} (h : ∀ p ∈ l, p.1 < d) (m : (a, o) ∈ l) : a < d := h _ m
theorem room1 {u k c n : Nat} (h : u + k < c) (e : n ≤ k) : u + n < c := Nat.lt_of_le_of_lt (Nat.add_le_add_left e u) h
theorem room2 {u k c a b : Nat} (h : u + k < c) (e : a + b ≤ k) : u + a + b < c := Nat.add_assoc u a b ▸ room1 h e
theorem room3 {u k c a b d : Nat} (h : u + k < c) (e : a + b + d ≤ k) : u + a + b + d < c := (Nat.add_assoc u a b).symm ▸ room2 (a := a + b) h e
theorem room0 {u k c : Nat} (h : u + k < c) : u < c := Nat.lt_of_le_of_lt (Nat.le_add_right u k) h
end Mine
end
section
open PySem PySem.W PyProof.Rows PySem.Calls
set_option Elab.async false
set_option maxRecDepth 100000
namespace Mine
/-- a text of given signs -/
noncomputable abbrev S (l : List Nat) : Str := ⟨l.toArray⟩
theorem S_toList (x : Str) : S x.cps.toList = x := by cases x; rfl
@[simp] theorem S_cps (l : List Nat) : (S l).cps.toList = l := rfl
theorem len_toList (x : Str) : x.cps.toList.length = x.length := by simp [Str.length]
noncomputable def isFig (c : Nat) : Bool := 48 ≤ c && c ≤ 57
noncomputable def figs (x : Str) : Str := Txt.join (Str.ofString "") (List.filter (fun a => !(Builtin.Str.occurrences (Str.ofString "0123456789") a 0 (Str.ofString "0123456789").length 1).isEmpty) (signs x))
theorem inDigits (c : Nat) : (!(Builtin.Str.occurrences (Str.ofString "0123456789") ⟨#[c]⟩ 0 (Str.ofString "0123456789").length 1).isEmpty) = isFig c := by
  rw [StrLaws.found_one]
  have e : (Str.ofString "0123456789").cps.toList = [48, 49, 50, 51, 52, 53, 54, 55, 56, 57] := by decide +kernel
  rw [e]
  by_cases h : c < 58
  · exact (by decide +kernel : ∀ c < 58, decide (c ∈ [48, 49, 50, 51, 52, 53, 54, 55, 56, 57]) = isFig c) c h
  · have h1 : ¬ c ∈ [48, 49, 50, 51, 52, 53, 54, 55, 56, 57] := fun m => h ((by decide : ∀ x ∈ [48, 49, 50, 51, 52, 53, 54, 55, 56, 57], x < 58) c m)
    have h2 : ¬ c ≤ 57 := fun q => h (Nat.lt_succ_of_le q)
    unfold isFig
    rw [decide_eq_false h1, decide_eq_false h2, Bool.and_false]
theorem figs_eq (x : Str) : figs x = S (x.cps.toList.filter isFig) := by
  unfold figs signs
  rw [List.filter_map]
  have e : ((fun a : Str => !(Builtin.Str.occurrences (Str.ofString "0123456789") a 0 (Str.ofString "0123456789").length 1).isEmpty) ∘ fun n => (⟨#[n]⟩ : Str)) = isFig := funext fun c => inDigits c
  rw [e]
  generalize x.cps.toList.filter isFig = l
  have h := join_nil_signs (S l)
  have hj : ∀ l : List Str, Txt.join (Str.ofString "") l = Str.join ⟨#[]⟩ l := fun l => StrLaws.glued_eq_join _ _
  rw [hj]
  exact h
theorem figs_len (x : Str) : (figs x).length ≤ x.length := by
  rw [figs_eq, ← len_toList, ← len_toList, S_cps]
  exact List.length_filter_le _ _
end Mine
namespace Mine
noncomputable def strip0 : List Nat → List Nat
  | 48 :: c :: r => strip0 (c :: r)
  | l => l
noncomputable def numberL (l : List Nat) : List Nat := if 45 ∈ l ∧ strip0 (l.filter isFig) ≠ [48] then 45 :: strip0 (l.filter isFig) else strip0 (l.filter isFig)
end Mine
end
section
open PySem PySem.W PyProof.Rows PySem.Calls
set_option Elab.async false
set_option maxRecDepth 100000
namespace Mine
theorem item_nat {x : Str} {i : Nat} (h : i < x.length) : Txt.item x (i : Int) = S [x.cps.toList.getD i 0] := by
  have hi : i < x.cps.size := h
  refine (item_meets (n := x.cps.toList.getD i 0) (Int.natCast_nonneg i) ?_).trans rfl
  simp [List.getD_eq_getElem?_getD, hi]
theorem slice_ss {x : Str} {i j : Nat} (h1 : i ≤ j) (h2 : j ≤ x.length) : Txt.slice x (some (i : Int)) (some (j : Int)) = S ((x.cps.toList.drop i).take (j - i)) := by
  have h := beq_iff_eq.mp (slice_closes (x := x) (i := (i : Int)) (j := (j : Int)) ⟨by (first | lia | omega), by (first | lia | omega), by rw [len_toList]; (first | lia | omega)⟩)
  rw [h]
  have e : ((j : Int) - (i : Int)).toNat = j - i := by (first | lia | omega)
  rw [e]; rfl
theorem slice_sn {x : Str} {i : Nat} (h : i ≤ x.length) : Txt.slice x (some (i : Int)) none = S (x.cps.toList.drop i) := by
  rw [slice_from_eq (b := (x.length : Int)) (by (first | lia | omega)) (by (first | lia | omega)) rfl]
  have e : ((x.length : Int) - (i : Int)).toNat = x.length - i := by (first | lia | omega)
  rw [e]
  congr 2
  show List.take (x.length - i) (List.drop i x.cps.toList) = _
  rw [List.take_of_length_le]
  rw [List.length_drop, len_toList]; (first | lia | omega)
theorem str_eq {x y : Str} (h : x.cps.toList = y.cps.toList) : x = y := by
  rw [← S_toList x, ← S_toList y, h]
theorem lit_minus : (Str.ofString "-").cps.toList = [45] := by decide +kernel
theorem lit_nought : (Str.ofString "0").cps.toList = [48] := by decide +kernel
theorem append_toList (x y : Str) : (x ++ y).cps.toList = x.cps.toList ++ y.cps.toList := by
  show (x.cps ++ y.cps).toList = _
  rw [Array.toList_append]
theorem strip0_cons (c : Nat) (r : List Nat) : strip0 (48 :: c :: r) = strip0 (c :: r) := by rw [strip0]
theorem strip0_ne {c : Nat} {r : List Nat} (h : c ≠ 48) : strip0 (c :: r) = c :: r := by
  unfold strip0; split
  · rename_i e; cases e; exact absurd rfl h
  · rfl
theorem strip0_short {l : List Nat} (h : l.length ≤ 1) : strip0 l = l := by
  match l, h with
  | [], _ => rfl
  | [_], _ => unfold strip0; split; (rename_i e; cases e); rfl
/-- a turn of _law_number's while -/
theorem num_turn {g : Str} (h : (1 : Int) < (g.length : Int)) (h0 : (Txt.item g 0 == Str.ofString "0") = true) :
    (Txt.slice g (some 1) none).length < g.length ∧ strip0 (Txt.slice g (some 1) none).cps.toList = strip0 g.cps.toList := by
  have e1 : Txt.slice g (some 1) none = S (g.cps.toList.drop 1) := slice_sn (i := 1) (by (first | lia | omega))
  have e0 : Txt.item g 0 = S [g.cps.toList.getD 0 0] := item_nat (i := 0) (by (first | lia | omega))
  have h48 := congrArg (fun x : Str => x.cps.toList) ((e0.symm).trans (beq_iff_eq.mp h0))
  simp only [lit_nought] at h48
  have hl := len_toList g
  rw [e1]
  rw [← len_toList, S_cps]
  match hq : g.cps.toList with
  | [] => rw [hq] at hl; simp at hl; (first | lia | omega)
  | [_] => rw [hq] at hl; simp at hl; (first | lia | omega)
  | c :: d :: r =>
    rw [hq] at h48 hl
    have hc : c = 48 := by simpa using h48
    subst hc
    refine ⟨?_, ?_⟩
    · simp only [List.drop_succ_cons, List.drop_zero, List.length_cons] at hl ⊢; (first | lia | omega)
    · simp only [List.drop_succ_cons, List.drop_zero]; rw [strip0_cons]
theorem num_stop {g : Str} (h : ¬ (1 : Int) < (g.length : Int)) : strip0 g.cps.toList = g.cps.toList := strip0_short (by rw [len_toList]; (first | lia | omega))
theorem num_stop' {g : Str} (h : (1 : Int) < (g.length : Int)) (h0 : (Txt.item g 0 == Str.ofString "0") = false) : strip0 g.cps.toList = g.cps.toList := by
  have e0 : Txt.item g 0 = S [g.cps.toList.getD 0 0] := item_nat (i := 0) (by (first | lia | omega))
  have hl := len_toList g
  have h48 : ¬ (S [g.cps.toList.getD 0 0]).cps.toList = (Str.ofString "0").cps.toList := fun e => by
    rw [e0, str_eq e] at h0
    simp at h0
  rw [lit_nought, S_cps] at h48
  match hq : g.cps.toList with
  | [] => rfl
  | c :: r =>
    rw [hq] at h48
    exact strip0_ne (fun e => h48 (by simp [e]))
theorem occ_minus (x : Str) : (Builtin.Str.occurrences x (Str.ofString "-") 0 x.length 1).isEmpty = !decide (45 ∈ x.cps.toList) := by
  have h := StrLaws.found_one x 45
  have e : Str.ofString "-" = ⟨#[45]⟩ := str_eq lit_minus
  rw [e, ← h, Bool.not_not]
theorem num_A {x g : Str} (hg : strip0 g.cps.toList = strip0 (figs x).cps.toList) (hs : strip0 g.cps.toList = g.cps.toList) (ho : (Builtin.Str.occurrences x (Str.ofString "-") 0 x.length 1).isEmpty = true) : S (numberL x.cps.toList) = g := by
  rw [occ_minus] at ho
  have ho' : ¬ 45 ∈ x.cps.toList := by simpa using ho
  rw [figs_eq, S_cps] at hg
  refine str_eq ?_
  rw [S_cps, numberL, if_neg (fun h => ho' h.1), ← hg, hs]
theorem num_B {x g : Str} (hg : strip0 g.cps.toList = strip0 (figs x).cps.toList) (hs : strip0 g.cps.toList = g.cps.toList) (ho : (Builtin.Str.occurrences x (Str.ofString "-") 0 x.length 1).isEmpty = false)
    (hn : (g != Str.ofString "0") = true) : S (numberL x.cps.toList) = Str.ofString "-" ++ g := by
  rw [occ_minus] at ho
  have ho' : 45 ∈ x.cps.toList := by simpa using ho
  rw [figs_eq, S_cps] at hg
  have hn' : g.cps.toList ≠ [48] := fun e => by
    have : g = Str.ofString "0" := str_eq (e.trans lit_nought.symm)
    rw [this] at hn; simp at hn
  refine str_eq ?_
  rw [S_cps, numberL, ← hg, hs, if_pos ⟨ho', hn'⟩, append_toList, lit_minus]
  rfl
theorem num_C {x g : Str} (hg : strip0 g.cps.toList = strip0 (figs x).cps.toList) (hs : strip0 g.cps.toList = g.cps.toList) (hn : (g != Str.ofString "0") = false) : S (numberL x.cps.toList) = g := by
  rw [figs_eq, S_cps] at hg
  have e : g = Str.ofString "0" := by simpa using hn
  refine str_eq ?_
  rw [S_cps, numberL, ← hg, hs, e, lit_nought, if_neg (fun h => h.2 rfl)]
end Mine
namespace Mine
/-- a map of a frame told by three names -/
theorem shape3 {β : Type} {x y z : Str} {a b c : β} (m : Str → Option β) (h1 : m x = some a) (h2 : m y = some b) (h3 : m z = some c) :
    m = fun u => if u = x then some a else if u = y then some b else if u = z then some c else m u := by
  funext u
  by_cases e1 : u = x
  · subst e1; rw [if_pos rfl, h1]
  · rw [if_neg e1]
    by_cases e2 : u = y
    · subst e2; rw [if_pos rfl, h2]
    · rw [if_neg e2]
      by_cases e3 : u = z
      · subst e3; rw [if_pos rfl, h3]
      · rw [if_neg e3]
end Mine
end
section
open PySem PySem.W PyProof.Rows
set_option Elab.async false
set_option maxRecDepth 100000
set_option maxHeartbeats 8000000
namespace Mine
open_top hd for PySem.Challenge.rw_mj0140_01
end Mine
end
section
open PySem PySem.W PyProof.Rows PySem.Calls
set_option Elab.async false
set_option maxRecDepth 100000
namespace Mine
noncomputable abbrev PP : Program := PySem.Challenge.rw_mj0140_01.row.prog
noncomputable abbrev VV : Program := hd.view_39
noncomputable abbrev LL : List Str := looseW hd.view_39 [Str.ofString "_norm_version", Str.ofString "EXACT_TOKEN_TYPES"]

/-- a def entered with the whole heap as its ground: what it leaves is the heap that stood, and more -/
theorem code_pure {prog : Program} {w : World} {A A₀ : Around} {s : Shared} {K : Frag} {L : Addr} {h₀ base : Heap} {m mg mb : Str → Option Value} {p : Program} {loose : List Str} {mean : ExcName → Option Value}
    {env : Env} {outer : List Env} {R : Result → Shared → Prop} {name qual : Str} {params : Arguments} {body : List Stmt} {scope : Scope} {dV kV doc pm cdv ct oc : Value} {an od : Option Addr} {osl : Array (Option Value)} {f : Addr} {args : Args} {binds : List (Str × Value)}
    (B : Below A₀ base outer h₀) (F : Fr h₀ L s.heap m) (X₀ : K.In h₀) (T : Top p loose mean mg mb h₀) (hA : A.frames = some (env :: outer)) (hf : env.frame = some L) (hke : env.scope.kind = .function)
    (ho : K.lookup f = some ⟨oc, od, .func (fnOf name qual params body scope dV kV doc pm an cdv ct), osl⟩) (hcd : codeIn K cdv qual = true) (hroom : A.depth < recursionLimit)
    (hbind : BindsTo s (fnOf name qual params body scope dV kV doc pm an cdv ct) args binds) (hloc : ∀ y ∈ binds, scope.names.lookup y.1 = some .local)
    (h : ∀ L' h₁, Fr s.heap L' h₁ (fun y => binds.reverse.lookup y) → News s.heap L' h₁ [] → Below A base (env :: outer) s.heap → K.In s.heap → Top p loose mean mg mb s.heap →
      wpAny (model prog w) (A.deeper (envOf qual scope L' f cdv)) (execs body (envOf qual scope L' f cdv))
        (fun fl s' => R (.ok (.ret (match fl with | .ret v => v | _ => .none))) s')
        (fun e s' => wpAny (model prog w) (A.deeper (envOf qual scope L' f cdv)) (leaving (envOf qual scope L' f cdv) e) (fun _ s'' => R (.error e) s'') (fun e' s'' => R (.error e') s'') s')
        { s with heap := h₁, toks := s.toks + binds.length })
    (hco : scope.isCoroutine = false) (hgen : scope.isGenerator = false) (hk : scope.kind = .function)
    (hcell : ∀ x ∈ scope.names, x.2 ≠ .cell) : codeAny (model prog w) A (.call (.ref f) args) R s := by
  have X := X₀.keeps F.keep
  have B₁ := pushX B F hf hke
  refine codeAny_call_def (fd := fnOf name qual params body scope dV kV doc pm an cdv ct) (body := body) (binds := binds) hroom (X _ _ ho) rfl (T.nolimit.keeps F.keep) (codeRec_of X hcd) rfl hbind hcell hloc (fun h₁ hns hk₁ => ?_) hco hgen hk
  exact h _ h₁ ⟨hns, hk₁, Nat.le_refl _⟩ News.nil ⟨hA, B₁.stays, B₁.frames⟩ X (T.keeps F.keep)

/-- what every call of a def of the text finds -/
structure Ctx0 (w : World) (A₀ : Around) (base h₀ : Heap) (outer : List Env) (L : Addr) (m mg mb : Str → Option Value) (mean : ExcName → Option Value) (s : Shared) : Prop where
  B : Below A₀ base outer h₀
  F : Fr h₀ L s.heap m
  X : (hd.heap_39 w.params).In h₀
  T : Top VV LL mean mg mb h₀

end Mine
namespace Mine
/-- a goal laid by: the walk stops at it -/
structure Stop (P : Prop) : Prop where
  out : P
theorem stop {P : Prop} (h : Stop P) : P := h.out
/-- join of a made list of texts -/
theorem join_made {prog : Program} {w : World} {A : Around} {E : Value → Shared → Prop} {s : Shared} {x : Str} {t : Tok} {Q : Value → Shared → Prop} {D : Addr} {items : List Value} {zs : List Str}
    (hl : s.heap.IsList D items.toArray) (hc : CarriedAll items (zs.map PyData.str)) (hok : (zs.map (·.length)).sum + zs.length * x.length ≤ 16777216)
    (h : ∀ t' k, Q (.str (Txt.join x zs) t') { s with toks := k }) : wpAny (model prog w) A (call (.builtin "str.join") [.str x t, .ref D]) Q E s :=
  join_list hl (StrsAre.of_carried hc) hok h
end Mine
namespace Mine
theorem upd_upd {α β : Type} [DecidableEq α] (x : α) (a b : β) (m : α → β) : (fun y => if y = x then a else if y = x then b else m y) = fun y => if y = x then a else m y := by
  funext y; split <;> rfl
end Mine
end
section
open PySem PySem.W PyProof.Rows PySem.Calls
set_option Elab.async false
set_option maxRecDepth 100000
namespace Mine
/-- the answer of _law_rule -/
noncomputable def ruleF (part kind : Int) : List Int :=
  if part = 256 then [257, 258] else
  if part = 257 then [259, 260, 2, 261, 259] else
  if part = 258 ∧ kind = 23 then [23, 257, 258] else
  if part = 259 ∧ kind = 5 then [5, 259] else
  if part = 260 ∧ (kind = 14 ∨ kind = 15) then [kind] else
  if part = 261 ∧ kind = 1 then [1, 2, 261] else []
theorem ints_nil' {ns : List Int} (h : ns = []) : IntsAre [] ns := by subst h; exact .nil
theorem ints_of {vs : List Value} {ns ns' : List Int} (h : IntsAre vs ns') (e : ns = ns') : IntsAre vs ns := by subst e; exact h
end Mine
namespace Mine
theorem any_t {k : Int} (h : (([14, 15] : List Int).any fun x => x == k) = true) : k = 14 ∨ k = 15 := by
  simp only [List.any_cons, List.any_nil, Bool.or_false, Bool.or_eq_true, beq_iff_eq] at h; omega
theorem any_f {k : Int} (h : (([14, 15] : List Int).any fun x => x == k) = false) : k ≠ 14 ∧ k ≠ 15 := by
  simp only [List.any_cons, List.any_nil, Bool.or_false, Bool.or_eq_false_iff, beq_eq_false_iff_ne] at h; omega
section
variable {part kind : Int}
theorem rf0 (h : part = 256 + (0 + ((0 : Nat) : Int))) : ruleF part kind = [257, 258] := by subst h; simp [ruleF]
theorem rf1 (h : part = 256 + (0 + ((0 + 1 : Nat) : Int))) : ruleF part kind = [259, 260, 2, 261, 259] := by subst h; simp [ruleF]
theorem rf2 (h : part = 256 + (0 + ((0 + 1 + 1 : Nat) : Int))) (k : kind = 23) : ruleF part kind = [23, 257, 258] := by subst h; subst k; simp [ruleF]
theorem rf2n (h : part = 256 + (0 + ((0 + 1 + 1 : Nat) : Int))) (k : kind ≠ 23) : ruleF part kind = [] := by subst h; simp [ruleF, k]
theorem rf3 (h : part = 256 + (0 + ((0 + 1 + 1 + 1 : Nat) : Int))) (k : kind = 5) : ruleF part kind = [5, 259] := by subst h; subst k; simp [ruleF]
theorem rf3n (h : part = 256 + (0 + ((0 + 1 + 1 + 1 : Nat) : Int))) (k : kind ≠ 5) : ruleF part kind = [] := by subst h; simp [ruleF, k]
theorem rf4 (h : part = 256 + (0 + ((0 + 1 + 1 + 1 + 1 : Nat) : Int))) (k : (([14, 15] : List Int).any fun x => x == kind) = true) : ruleF part kind = [kind] := by subst h; have := any_t k; simp [ruleF, this]
theorem rf4n (h : part = 256 + (0 + ((0 + 1 + 1 + 1 + 1 : Nat) : Int))) (k : (([14, 15] : List Int).any fun x => x == kind) = false) : ruleF part kind = [] := by subst h; have := any_f k; simp [ruleF, this.1, this.2]
theorem rf5 (h : part = 256 + (0 + ((0 + 1 + 1 + 1 + 1 + 1 : Nat) : Int))) (k : kind = 1) : ruleF part kind = [1, 2, 261] := by subst h; subst k; simp [ruleF]
theorem rf5n (h : part = 256 + (0 + ((0 + 1 + 1 + 1 + 1 + 1 : Nat) : Int))) (k : kind ≠ 1) : ruleF part kind = [] := by subst h; simp [ruleF, k]
theorem rfn (h0 : part ≠ 256 + (0 + ((0 : Nat) : Int))) (h1 : part ≠ 256 + (0 + ((0 + 1 : Nat) : Int))) (h2 : part ≠ 256 + (0 + ((0 + 1 + 1 : Nat) : Int))) (h3 : part ≠ 256 + (0 + ((0 + 1 + 1 + 1 : Nat) : Int))) (h4 : part ≠ 256 + (0 + ((0 + 1 + 1 + 1 + 1 : Nat) : Int))) (h5 : part ≠ 256 + (0 + ((0 + 1 + 1 + 1 + 1 + 1 : Nat) : Int))) : ruleF part kind = [] := by
  have e0 : part ≠ 256 := h0
  have e1 : part ≠ 257 := h1
  have e2 : part ≠ 258 := h2
  have e3 : part ≠ 259 := h3
  have e4 : part ≠ 260 := h4
  have e5 : part ≠ 261 := h5
  simp [ruleF, e0, e1, e2, e3, e4, e5]
end
end Mine
end
section
open PySem PySem.W PyProof.Rows PySem.Calls
set_option Elab.async false
set_option maxRecDepth 100000
namespace Mine
/-- EXACT_TOKEN_TYPES as the top leaves it: the text, its mark, the kind, its mark -/
noncomputable def etab : List (String × Nat × Int × Nat) := [
  ("!", 310, 54, 304),
  ("!=", 312, 28, 252),
  ("%", 314, 24, 244),
  ("%=", 316, 40, 276),
  ("&", 318, 19, 234),
  ("&=", 320, 41, 278),
  ("(", 322, 7, 210),
  (")", 324, 8, 212),
  ("*", 326, 16, 228),
  ("**", 328, 35, 266),
  ("**=", 330, 46, 288),
  ("*=", 332, 38, 272),
  ("+", 334, 14, 224),
  ("+=", 336, 36, 268),
  (",", 338, 12, 220),
  ("-", 340, 15, 226),
  ("-=", 342, 37, 270),
  ("->", 344, 51, 298),
  (".", 346, 23, 242),
  ("...", 348, 52, 300),
  ("/", 350, 17, 230),
  ("//", 352, 47, 290),
  ("//=", 354, 48, 292),
  ("/=", 356, 39, 274),
  (":", 358, 11, 218),
  (":=", 360, 53, 302),
  (";", 362, 13, 222),
  ("<", 364, 20, 236),
  ("<<", 366, 33, 262),
  ("<<=", 368, 44, 284),
  ("<=", 370, 29, 254),
  ("=", 372, 22, 240),
  ("==", 374, 27, 250),
  (">", 376, 21, 238),
  (">=", 378, 30, 256),
  (">>", 379, 34, 264),
  (">>=", 380, 45, 286),
  ("@", 381, 49, 294),
  ("@=", 382, 50, 296),
  ("[", 383, 9, 214),
  ("]", 384, 10, 216),
  ("^", 385, 32, 260),
  ("^=", 386, 43, 282),
  ("{", 387, 25, 246),
  ("|", 388, 18, 232),
  ("|=", 389, 42, 280),
  ("}", 390, 26, 248),
  ("~", 391, 31, 258)]
noncomputable def emk (P : Params) (e : String × Nat × Int × Nat) : DictEntry := ⟨PyData.keyHash P (Str.ofString e.1), .str (Str.ofString e.1) e.2.1, .int e.2.2.1 e.2.2.2⟩
theorem look23 (P : Params) : (hd.heap_39 P).lookup 23 = some ⟨.type "dict", none, .dict (etab.map (emk P)).toArray 48, #[]⟩ := rfl
noncomputable def opFind (y : Str) : Option (String × Nat × Int × Nat) := etab.find? fun e => Str.ofString e.1 == y
noncomputable def opKind (y : Str) : Option Int := (opFind y).map (·.2.2.1)
theorem etab_find (P : Params) (y : Str) : findBy Value.isStrOf (etab.map (emk P)).toArray y = (opFind y).map fun e => Value.int e.2.2.1 e.2.2.2 := by
  unfold findBy opFind
  rw [List.find?_toArray, List.find?_map, Option.map_map]
  rfl
theorem keysLit_map (P : Params) : ∀ l : List (String × Nat × Int × Nat), KeysLit P (l.map (emk P))
  | [] => trivial
  | _ :: r => ⟨⟨_, _, rfl, rfl⟩, keysLit_map P r⟩
section
variable {prog : Program} {w : World} {A : Around} {E : Value → Shared → Prop} {s : Shared} {h₀ : Heap} {L : Addr} {m : Str → Option Value} {y : Str} {t : Tok} {Q : Value → Shared → Prop}
theorem tok_map (F : Fr h₀ L s.heap m) (X₀ : (hd.heap_39 w.params).In h₀) : s.heap.MapOf (strKind prog w) 23 (fun k => findBy Value.isStrOf (etab.map (emk w.params)).toArray k) :=
  mapOf_K (prog := prog) (X₀.keeps F.keep) (look23 w.params) (keysLit_map w.params etab)
theorem tok_in (F : Fr h₀ L s.heap m) (X₀ : (hd.heap_39 w.params).In h₀) (h : Q (.bool (opKind y).isSome) { s with toks := s.toks + 1 }) :
    wpAny (model prog w) A (compareOp .In (.str y t) (.ref 23)) Q E s := by
  refine wpAny_in_of (strKind_is prog w y t) (by decide) (tok_map F X₀) ?_
  rw [etab_find]
  unfold opKind at h
  cases hq : opFind y <;> rw [hq] at h <;> exact h
theorem tok_item {value slice : Expr} {k : Int} (F : Fr h₀ L s.heap m) (X₀ : (hd.heap_39 w.params).In h₀) (hk : opKind y = some k) (h : ∀ u, Q (.int k u) { s with toks := s.toks + 1 })
    (hs : subscripted slice false (.ref 23) (.str y t) = operate [.ref 23, .str y t] (getItem (.ref 23) (.str y t))) :
    wpAny (model prog w) A (subscriptTail value slice (.ref 23) (.str y t)) Q E s := by
  obtain ⟨e, he, rfl⟩ := Option.map_eq_some_iff.mp hk
  have hm := tok_map (prog := prog) F X₀
  refine tail_any hm.typeIs slot_dict_getitem.lookup (wpAny_getItem_of (v := Value.int e.2.2.1 e.2.2.2) (strKind_is prog w y t) hm ?_ (h _)) hs
  rw [etab_find, he]; rfl
end
end Mine
end
section
open PySem PySem.W PyProof.Rows PySem.Calls
set_option Elab.async false
set_option maxRecDepth 100000
namespace Mine
noncomputable def opStep (l : List Nat) (st : Int × Nat) (n : Nat) : Int × Nat := match opKind (S (l.take n)) with
  | some k => (k, (l.take n).length)
  | none => st
noncomputable def opTok (l : List Nat) : Int × Nat := opStep l (opStep l (opStep l (64, 1) 1) 2) 3
noncomputable def nextTok : List Nat → Int × Nat
  | [] => (64, 1)
  | c :: r => if isFig c then (2, 1 + (r.takeWhile isFig).length) else if c = 95 then (1, 1) else if c = 32 then (5, 1) else opTok (c :: r)
noncomputable def tokF : Nat → List Nat → List (Int × List Nat)
  | 0, _ => []
  | _ + 1, [] => []
  | n + 1, c :: r => ((nextTok (c :: r)).1, (c :: r).take (nextTok (c :: r)).2) :: tokF n ((c :: r).drop (nextTok (c :: r)).2)
noncomputable def tokensL (l : List Nat) : List (Int × List Nat) := tokF l.length l ++ [(0, [])]
noncomputable abbrev tokObj (k : Int) (t : Tok) (l : List Nat) (t' : Tok) (n : Nat) : Obj := { cls := .type "tuple", data := .seq #[.int k t, .str (S l) t'] n }
inductive TokIn (tl : List (Addr × Obj)) : List Value → List (Int × List Nat) → Prop
  | nil : TokIn tl [] []
  | cons {a : Addr} {k : Int} {t : Tok} {l : List Nat} {t' : Tok} {n : Nat} {vs : List Value} {ts : List (Int × List Nat)} : (a, tokObj k t l t' n) ∈ tl → TokIn tl vs ts → TokIn tl (.ref a :: vs) ((k, l) :: ts)
theorem TokIn.mono {tl tl' : List (Addr × Obj)} {vs : List Value} {ts : List (Int × List Nat)} (h : TokIn tl vs ts) (hs : ∀ p ∈ tl, p ∈ tl') : TokIn tl' vs ts := by
  induction h with
  | nil => exact .nil
  | cons hm _ ih => exact .cons (hs _ hm) ih
theorem TokIn.snoc {tl : List (Addr × Obj)} {vs : List Value} {ts : List (Int × List Nat)} {a : Addr} {k : Int} {t : Tok} {l : List Nat} {t' : Tok} {n : Nat} (h : TokIn tl vs ts) (hm : (a, tokObj k t l t' n) ∈ tl) : TokIn tl (vs ++ [.ref a]) (ts ++ [(k, l)]) := by
  induction h with
  | nil => exact .cons hm .nil
  | cons hm' _ ih => exact .cons hm' ih
theorem TokIn.length {tl : List (Addr × Obj)} {vs : List Value} {ts : List (Int × List Nat)} (h : TokIn tl vs ts) : vs.length = ts.length := by
  induction h with
  | nil => rfl
  | cons _ _ ih => simp [ih]
theorem opStep_pos {l : List Nat} {st : Int × Nat} {n : Nat} (hl : l ≠ []) (hn : 0 < n) (h : 0 < st.2) : 0 < (opStep l st n).2 := by
  unfold opStep
  split
  · have := List.length_pos_iff.mpr hl
    simp only [List.length_take]; omega
  · exact h
theorem opTok_pos {l : List Nat} (hl : l ≠ []) : 0 < (opTok l).2 := opStep_pos hl (by decide) (opStep_pos hl (by decide) (opStep_pos hl (by decide) (by decide)))
theorem nextTok_pos (c : Nat) (r : List Nat) : 0 < (nextTok (c :: r)).2 := by
  simp only [nextTok]
  split
  · dsimp only; omega
  · split
    · decide
    · split
      · decide
      · exact opTok_pos (List.cons_ne_nil _ _)
theorem opStep_le {l : List Nat} {st : Int × Nat} {n : Nat} (h : st.2 ≤ l.length) : (opStep l st n).2 ≤ l.length := by
  unfold opStep
  split
  · simp only [List.length_take]; omega
  · exact h
theorem takeWhile_len (p : Nat → Bool) : ∀ l : List Nat, (l.takeWhile p).length ≤ l.length := fun l => NumText.len_takeWhile p l
theorem nextTok_le (c : Nat) (r : List Nat) : (nextTok (c :: r)).2 ≤ (c :: r).length := by
  simp only [nextTok]
  split
  · have := takeWhile_len isFig r
    simp only [List.length_cons]; omega
  · split
    · simp only [List.length_cons]; omega
    · split
      · simp only [List.length_cons]; omega
      · exact opStep_le (opStep_le (opStep_le (by simp only [List.length_cons]; omega)))
theorem tokF_fuel : ∀ (n k : Nat) (l : List Nat), l.length ≤ n → l.length ≤ k → tokF n l = tokF k l := by
  intro n
  induction n with
  | zero => intro k l h _; have : l = [] := List.length_eq_zero_iff.mp (by omega); subst this; cases k <;> rfl
  | succ n ih =>
    intro k l h hk
    match l, k with
    | [], 0 => rfl
    | [], _ + 1 => rfl
    | c :: r, 0 => simp at hk
    | c :: r, k + 1 =>
      have hp := nextTok_pos c r
      simp only [List.length_cons] at h hk
      show _ :: tokF n _ = _ :: tokF k _
      rw [ih k _ (by rw [List.length_drop, List.length_cons]; omega) (by rw [List.length_drop, List.length_cons]; omega)]
theorem tokF_cons {l : List Nat} (h : l ≠ []) : tokF l.length l = ((nextTok l).1, l.take (nextTok l).2) :: tokF (l.drop (nextTok l).2).length (l.drop (nextTok l).2) := by
  match l, h with
  | c :: r, _ =>
    have hp := nextTok_pos c r
    show _ :: tokF r.length _ = _
    rw [tokF_fuel r.length _ _ (by rw [List.length_drop, List.length_cons]; omega) (Nat.le_refl _)]
end Mine
end
section
open PySem PySem.W PyProof.Rows PySem.Calls
set_option Elab.async false
set_option maxRecDepth 100000
namespace Mine
theorem slice_gen {x : Str} {i j : Nat} (h1 : i ≤ j) (h2 : i ≤ x.length) : Txt.slice x (some (i : Int)) (some (j : Int)) = S ((x.cps.toList.drop i).take (j - i)) := by
  by_cases h : j ≤ x.length
  · exact slice_ss h1 h
  · have e : Txt.slice x (some (i : Int)) (some (j : Int)) = Txt.slice x (some (i : Int)) (some (x.length : Int)) := by
      show StrLaws.sliceText x _ (some (j : Int)) = StrLaws.sliceText x _ (some (x.length : Int))
      unfold StrLaws.sliceText
      have a1 : ¬ ((j : Int) < 0) := Int.not_lt.mpr (Int.natCast_nonneg _)
      have a2 : ¬ ((x.length : Int) < 0) := Int.not_lt.mpr (Int.natCast_nonneg _)
      have e2 : max (0 : Int) (min (x.length : Int) (x.length : Int)) = x.length := by rw [Int.min_self]; exact Int.max_eq_right (Int.natCast_nonneg _)
      have e1 : max (0 : Int) (min (j : Int) (x.length : Int)) = x.length := by rw [Int.min_eq_right (Int.ofNat_le.mpr (Nat.le_of_not_le h))]; exact Int.max_eq_right (Int.natCast_nonneg _)
      have e : Builtin.Str.strSliceIndices (some (i : Int)) (some (j : Int)) 1 x.length = Builtin.Str.strSliceIndices (some (i : Int)) (some (x.length : Int)) 1 x.length := by
        simp [Builtin.Str.strSliceIndices, a1, a2, e1, e2]
      rw [e]
    rw [e, slice_ss h2 (Nat.le_refl _)]
    have q : (x.cps.toList.drop i).length = x.length - i := by rw [List.length_drop, len_toList]
    have q1 : (x.cps.toList.drop i).take (x.length - i) = x.cps.toList.drop i := List.take_of_length_le (Nat.le_of_eq q)
    have q2 : (x.cps.toList.drop i).take (j - i) = x.cps.toList.drop i := List.take_of_length_le (by rw [q]; exact Nat.sub_le_sub_right (Nat.le_of_not_le h) i)
    rw [q1, q2]
noncomputable def cAt (x : Str) (k : Nat) : Nat := x.cps.toList.getD k 0
theorem drop_cons {x : Str} {k : Nat} (h : k < x.length) : x.cps.toList.drop k = cAt x k :: x.cps.toList.drop (k + 1) := by
  have h' : k < x.cps.toList.length := by rw [len_toList]; exact h
  rw [List.drop_eq_getElem_cons h']
  unfold cAt
  rw [List.getD_eq_getElem?_getD, List.getElem?_eq_getElem h']; rfl
theorem item_fig {x : Str} {k : Nat} {b : Bool} (h : (k : Int) < (x.length : Int)) (ho : (Builtin.Str.occurrences (Str.ofString "0123456789") (Txt.item x (k : Int)) 0 (Str.ofString "0123456789").length 1).isEmpty = b) : isFig (cAt x k) = !b := by
  rw [item_nat (Int.ofNat_lt.mp h)] at ho
  rw [← inDigits, ← ho]; rfl
theorem item_is {x lit : Str} {k c : Nat} {b : Bool} (h : (k : Int) < (x.length : Int)) (hl : lit.cps.toList = [c]) (ho : (Txt.item x (k : Int) == lit) = b) : decide (cAt x k = c) = b := by
  rw [item_nat (Int.ofNat_lt.mp h)] at ho
  change (S [cAt x k] == lit) = b at ho
  rw [← ho]
  by_cases e : cAt x k = c
  · have : S [cAt x k] = lit := str_eq (by rw [hl, S_cps]; exact congrArg (fun z => [z]) e)
    rw [this]; simp [e]
  · have : ¬ S [cAt x k] = lit := fun q => e (by have := congrArg (fun z : Str => z.cps.toList) q; simp only [hl] at this; simpa using this)
    rw [decide_eq_false e, beq_eq_false_iff_ne.mpr this]
theorem lit_under : (Str.ofString "_").cps.toList = [95] := by decide +kernel
theorem lit_blank : (Str.ofString " ").cps.toList = [32] := by decide +kernel
theorem lit_dot : (Str.ofString ".").cps.toList = [46] := by decide +kernel
theorem lit_empty : Str.ofString "" = S [] := by decide +kernel

noncomputable def TokJ (x : Str) (t1 : Tok) (D : Addr) (n : Nat) (m₁ : Str → Option Value) (news₁ : List (Addr × Obj)) : Prop :=
  ∃ (k : Nat) (tk : Tok) (vs : List Value) (c : Nat) (tl : List (Addr × Obj)) (ts : List (Int × List Nat)) (mr : Str → Option Value),
    news₁ = (D, W.listOf vs.toArray c) :: tl ∧ m₁ = (fun y => if y = Str.ofString "k" then some (Value.int (k : Int) tk) else if y = Str.ofString "tokens" then some (Value.ref D) else if y = Str.ofString "text" then some (Value.str x t1) else mr y) ∧
    OwnOff tl [D] ∧ TokIn tl vs ts ∧ k ≤ x.length ∧ n = x.length - k ∧ vs.length ≤ k ∧
    ts ++ tokF (x.cps.toList.drop k).length (x.cps.toList.drop k) = tokF x.cps.toList.length x.cps.toList
theorem tokJ_start {x : Str} {t1 : Tok} {D : Addr} {t0 : Tok} (m₁ : Str → Option Value) (h1 : m₁ (Str.ofString "k") = some (.int 0 t0)) (h2 : m₁ (Str.ofString "tokens") = some (.ref D)) (h3 : m₁ (Str.ofString "text") = some (.str x t1)) :
    TokJ x t1 D x.length m₁ [(D, W.listOf #[] 0)] :=
  ⟨0, t0, [], 0, [], [], m₁, rfl, shape3 m₁ h1 h2 h3, fun _ hp => (nomatch hp), .nil, Nat.zero_le _, rfl, Nat.le_refl _, by simp⟩
section
variable {x : Str} {t1 : Tok} {D : Addr} {n k : Nat} {vs : List Value} {c : Nat} {tl : List (Addr × Obj)} {ts : List (Int × List Nat)} {h₀ : Heap} {L : Addr} {s : Shared} {Q : Flow → Shared → Prop}
theorem tok_end {kd : Int} {sz : Nat} {h' : Heap} {news' : List (Addr × Obj)} {m₂ : Str → Option Value} {tk : Nat} {D' : Addr} {t t' t'' : Tok} {nn : Nat} {y : Str}
    (hoff : OwnOff tl [D]) (htok : TokIn tl vs ts) (hk : (k : Int) < (x.length : Int)) (hn : n = x.length - k) (hvl : vs.length ≤ k)
    (hts : ts ++ tokF (x.cps.toList.drop k).length (x.cps.toList.drop k) = tokF x.cps.toList.length x.cps.toList)
    (hnext : nextTok (x.cps.toList.drop k) = (kd, sz)) (hy : y = S ((x.cps.toList.drop k).take sz))
    (F : Fr h₀ L h' m₂) (N : News h₀ L h' news') (hm1 : m₂ (Str.ofString "k") = some (.int ((k : Int) + (sz : Int)) t)) (hm2 : m₂ (Str.ofString "tokens") = some (.ref D)) (hm3 : m₂ (Str.ofString "text") = some (.str x t1))
    (h1 : (D, W.listOf (vs.toArray.push (.ref D')) (c + 1)) ∈ news') (h2 : (D', ({ cls := .type "tuple", data := .seq #[.int kd t', .str y t''] nn } : Obj)) ∈ news') (h3 : ∀ p ∈ tl, p ∈ news') (hne : D < D') :
    WhileStep2 h₀ L s (TokJ x t1 D) Q n .next { s with heap := h', toks := tk } := by
  subst hy
  have hk' : k < x.length := Int.ofNat_lt.mp hk
  have hd := drop_cons hk'
  have hne' : x.cps.toList.drop k ≠ [] := by rw [hd]; exact List.cons_ne_nil _ _
  have hlen : (x.cps.toList.drop k).length = x.length - k := by rw [List.length_drop, len_toList]
  have hle : sz ≤ x.length - k := by
    have := nextTok_le (cAt x k) (x.cps.toList.drop (k + 1))
    rw [← hd, hnext, hlen] at this; exact this
  have hpos : 0 < sz := by
    have := nextTok_pos (cAt x k) (x.cps.toList.drop (k + 1))
    rw [← hd, hnext] at this; exact this
  refine ⟨h', tk, m₂, (D, W.listOf (vs ++ [Value.ref D']).toArray (c + 1)) :: (D', tokObj kd t' ((x.cps.toList.drop k).take sz) t'' nn) :: tl, x.length - (k + sz), rfl, F, ?_, by rw [hn, Nat.sub_add_eq]; exact Nat.sub_lt (Nat.lt_of_lt_of_le hpos hle) hpos, k + sz, t, vs ++ [Value.ref D'], c + 1, _, ts ++ [(kd, (x.cps.toList.drop k).take sz)], m₂, rfl, shape3 m₂ hm1 hm2 hm3, ?_, ?_, by rw [Nat.add_comm]; exact Nat.add_le_of_le_sub (Nat.le_of_lt hk') hle, rfl, ?_, ?_⟩
  · intro p hp
    refine N p ?_
    rcases List.mem_cons.mp hp with rfl | hp
    · have e : (vs ++ [Value.ref D']).toArray = vs.toArray.push (.ref D') := by simp
      rw [e]; exact h1
    · rcases List.mem_cons.mp hp with rfl | hp
      · exact h2
      · exact h3 p hp
  · intro p hp b hb
    rcases List.mem_cons.mp hp with rfl | hp
    · rw [List.mem_singleton.mp hb]; exact Nat.ne_of_gt hne
    · exact hoff p hp b hb
  · exact TokIn.snoc (n := nn) (t := t') (t' := t'') (htok.mono fun p hp => List.mem_cons_of_mem _ hp) (List.mem_cons_self ..)
  · rw [List.length_append]; simp only [List.length_cons, List.length_nil]; exact Nat.add_le_add hvl hpos
  · rw [← hts, tokF_cons hne', hnext, List.append_assoc]
    simp only [List.drop_drop, List.cons_append, List.nil_append]
end
theorem nextTok_under {x : Str} {k : Nat} (h : (k : Int) < (x.length : Int)) (h1 : isFig (cAt x k) = false) (h2 : cAt x k = 95) : nextTok (x.cps.toList.drop k) = (1, 1) := by
  rw [drop_cons (Int.ofNat_lt.mp h)]; simp only [nextTok]; rw [h1, h2]; rfl
theorem nextTok_blank {x : Str} {k : Nat} (h : (k : Int) < (x.length : Int)) (h1 : isFig (cAt x k) = false) (h2 : cAt x k ≠ 95) (h3 : cAt x k = 32) : nextTok (x.cps.toList.drop k) = (5, 1) := by
  rw [drop_cons (Int.ofNat_lt.mp h)]; simp only [nextTok]; rw [h1, h3]; rfl
theorem nextTok_op {x : Str} {k : Nat} (h : (k : Int) < (x.length : Int)) (h1 : isFig (cAt x k) = false) (h2 : cAt x k ≠ 95) (h3 : cAt x k ≠ 32) : nextTok (x.cps.toList.drop k) = opTok (x.cps.toList.drop k) := by
  rw [drop_cons (Int.ofNat_lt.mp h)]; simp only [nextTok]; rw [h1, if_neg (by decide), if_neg h2, if_neg h3]
theorem takeWhile_run {p : Nat → Bool} : ∀ (l : List Nat) (n : Nat), n ≤ l.length → (∀ j, j < n → p (l.getD j 0) = true) → (n = l.length ∨ p (l.getD n 0) = false) → (l.takeWhile p).length = n
  | [], n, h, _, _ => by simp at h; subst h; rfl
  | c :: r, 0, _, _, h => by
    rcases h with h | h
    · simp at h
    · have : p c = false := by simpa using h
      simp [List.takeWhile, this]
  | c :: r, n + 1, hl, ha, h => by
    have hc : p c = true := by simpa using ha 0 (Nat.succ_pos n)
    have := takeWhile_run r n (by simpa using hl) (fun j hj => by simpa using ha (j + 1) (Nat.succ_lt_succ hj)) (by simpa using h)
    simp [List.takeWhile, hc, this]
theorem nextTok_num {x : Str} {k sz : Nat} (h : k + sz ≤ x.length) (h1 : 1 ≤ sz) (ha : ∀ j, j < sz → isFig (cAt x (k + j)) = true) (he : k + sz = x.length ∨ isFig (cAt x (k + sz)) = false) : nextTok (x.cps.toList.drop k) = (2, sz) := by
  cases sz with
  | zero => cases h1
  | succ q =>
    have e : q + (k + 1) = k + (q + 1) := Nat.add_left_comm q k 1
    have e' : ∀ j, k + 1 + j = k + (j + 1) := fun j => by rw [Nat.add_assoc, Nat.add_comm 1 j]
    rw [drop_cons (Nat.lt_of_lt_of_le (Nat.lt_add_of_pos_right (Nat.succ_pos q)) h)]
    simp only [nextTok]
    rw [if_pos (by simpa using ha 0 (Nat.succ_pos q))]
    have := takeWhile_run (p := isFig) (x.cps.toList.drop (k + 1)) q (by rw [List.length_drop, len_toList]; exact Nat.le_sub_of_add_le (e ▸ h))
      (fun j hj => by have := ha (j + 1) (Nat.succ_lt_succ hj); simp only [cAt, List.getD_eq_getElem?_getD, List.getElem?_drop] at this ⊢; rw [e' j]; exact this)
      (by
        rcases he with he | he
        · left; rw [List.length_drop, len_toList, ← he, ← e, Nat.add_sub_cancel]
        · right; simp only [cAt, List.getD_eq_getElem?_getD, List.getElem?_drop] at he ⊢; rw [e' q]; exact he)
    rw [this, Nat.add_comm]
end Mine
end
section
open PySem PySem.W PyProof.Rows PySem.Calls
set_option Elab.async false
set_option maxRecDepth 100000
namespace Mine
theorem shape5 {β : Type} {x y z x' y' : Str} {a b c d e : β} (m : Str → Option β) (h1 : m x = some a) (h2 : m y = some b) (h3 : m z = some c) (h4 : m x' = some d) (h5 : m y' = some e) :
    m = fun u => if u = x then some a else if u = y then some b else if u = z then some c else if u = x' then some d else if u = y' then some e else m u := by
  have q := shape3 m h3 h4 h5
  funext u
  by_cases e1 : u = x
  · subst e1; rw [if_pos rfl, h1]
  · rw [if_neg e1]
    by_cases e2 : u = y
    · subst e2; rw [if_pos rfl, h2]
    · rw [if_neg e2]; exact congrFun q u
/-- one name turned -/
theorem shape1 {β : Type} {x : Str} {a : β} (m : Str → Option β) (h1 : m x = some a) : m = fun u => if u = x then some a else m u := by
  funext u
  by_cases e1 : u = x
  · subst e1; rw [if_pos rfl, h1]
  · rw [if_neg e1]
noncomputable def opI (l : List Nat) : Nat → Int × Nat
  | 0 => (64, 1)
  | i + 1 => opStep l (opI l i) (i + 1)
theorem opI_three (l : List Nat) : opI l 3 = opTok l := rfl
theorem three_at {a b c : Tok} {i : Nat} {v : Value} (h : ([Value.int 1 a, Value.int 2 b, Value.int 3 c] : List Value)[i]? = some v) : i < 3 ∧ ∃ t, v = .int ((i : Int) + 1) t := by
  match i, h with
  | 0, h => simp at h; exact ⟨by (first | lia | omega), a, h.symm⟩
  | 1, h => simp at h; exact ⟨by (first | lia | omega), b, h.symm⟩
  | 2, h => simp at h; exact ⟨by (first | lia | omega), c, h.symm⟩
  | i + 3, h => simp at h
noncomputable def ForJ (x : Str) (t1 : Tok) (D : Addr) (k : Nat) (tk : Tok) (news₀ : List (Addr × Obj)) (i : Nat) (m : Str → Option Value) (nx : List (Addr × Obj)) : Prop :=
  nx = news₀ ∧ ∃ (kd : Int) (kt : Tok) (sz : Nat) (st : Tok) (mr : Str → Option Value), m = (fun y => if y = Str.ofString "kind" then some (Value.int kd kt) else if y = Str.ofString "size" then some (Value.int (sz : Int) st) else if y = Str.ofString "k" then some (Value.int (k : Int) tk) else if y = Str.ofString "tokens" then some (Value.ref D) else if y = Str.ofString "text" then some (Value.str x t1) else mr y) ∧
    opI (x.cps.toList.drop k) i = (kd, sz) ∧ sz ≤ 4000
theorem forJ_of {x : Str} {t1 : Tok} {D : Addr} {k : Nat} {tk : Tok} {news₀ : List (Addr × Obj)} {i : Nat} {kd : Int} {kt : Tok} {sz : Nat} {st : Tok} (m : Str → Option Value)
   (h1 : m (Str.ofString "kind") = some (.int kd kt)) (h2 : m (Str.ofString "size") = some (.int (sz : Int) st)) (h3 : m (Str.ofString "k") = some (.int (k : Int) tk)) (h4 : m (Str.ofString "tokens") = some (.ref D)) (h5 : m (Str.ofString "text") = some (.str x t1))
   (h : opI (x.cps.toList.drop k) i = (kd, sz)) (h' : sz ≤ 4000) : ForJ x t1 D k tk news₀ i m news₀ := ⟨rfl, kd, kt, sz, st, m, shape5 m h1 h2 h3 h4 h5, h, h'⟩
theorem slice_at {x : Str} {k i : Nat} (h : (k : Int) < (x.length : Int)) : Txt.slice x (some (k : Int)) (some ((k : Int) + ((i : Int) + 1))) = S ((x.cps.toList.drop k).take (i + 1)) := by
  have := slice_gen (x := x) (i := k) (j := k + (i + 1)) (by (first | lia | omega)) (by (first | lia | omega))
  rw [show k + (i + 1) - k = i + 1 by (first | lia | omega)] at this
  exact this
theorem opI_hit {x : Str} {k i : Nat} {kd : Int} {sz : Nat} (h : (k : Int) < (x.length : Int)) (h0 : opI (x.cps.toList.drop k) i = (kd, sz)) (hs : (opKind (Txt.slice x (some (k : Int)) (some ((k : Int) + ((i : Int) + 1))))).isSome = true) :
    opI (x.cps.toList.drop k) (i + 1) = ((opKind (Txt.slice x (some (k : Int)) (some ((k : Int) + ((i : Int) + 1))))).getD 64, (Txt.slice x (some (k : Int)) (some ((k : Int) + ((i : Int) + 1)))).length) := by
  rw [slice_at h] at hs ⊢
  obtain ⟨q, hq⟩ := Option.isSome_iff_exists.mp hs
  unfold opI opStep
  rw [hq]; rfl
theorem opI_miss {x : Str} {k i : Nat} {kd : Int} {sz : Nat} (h : (k : Int) < (x.length : Int)) (h0 : opI (x.cps.toList.drop k) i = (kd, sz)) (hs : (opKind (Txt.slice x (some (k : Int)) (some ((k : Int) + ((i : Int) + 1))))).isSome = false) :
    opI (x.cps.toList.drop k) (i + 1) = (kd, sz) := by
  rw [slice_at h] at hs
  unfold opI opStep
  rw [Option.isSome_eq_false_iff, Option.isNone_iff_eq_none] at hs
  rw [hs]; exact h0
section
variable {prog : Program} {w : World} {A : Around} {E : Value → Shared → Prop} {s : Shared} {h₀ : Heap} {L : Addr} {m : Str → Option Value} {y : Str} {t : Tok} {Q : Value → Shared → Prop}
theorem tok_item' {value slice : Expr} (F : Fr h₀ L s.heap m) (X₀ : (hd.heap_39 w.params).In h₀) (hk : (opKind y).isSome = true) (h : ∀ u, Q (.int ((opKind y).getD 64) u) { s with toks := s.toks + 1 })
    (hs : subscripted slice false (.ref 23) (.str y t) = operate [.ref 23, .str y t] (getItem (.ref 23) (.str y t))) :
    wpAny (model prog w) A (subscriptTail value slice (.ref 23) (.str y t)) Q E s := by
  obtain ⟨q, hq⟩ := Option.isSome_iff_exists.mp hk
  rw [hq] at h
  exact tok_item F X₀ hq h hs
end
/-- what the inner while keeps -/
noncomputable def NumJ (x : Str) (k : Nat) (news₀ : List (Addr × Obj)) (m₀ : Str → Option Value) (n : Nat) (m : Str → Option Value) (nx : List (Addr × Obj)) : Prop :=
  nx = news₀ ∧ ∃ (sz : Nat) (st : Tok), m = (fun y => if y = Str.ofString "size" then some (Value.int (sz : Int) st) else m₀ y) ∧ 1 ≤ sz ∧ k + sz ≤ x.length ∧ (∀ j, j < sz → isFig (cAt x (k + j)) = true) ∧ n = x.length - (k + sz)
theorem tok_tail {P : Heap → Addr → Obj → Prop} {l D : Addr} {o oD : Obj} {tl : List (Addr × Obj)} {h' : Heap} (h1 : P h' l o) (h2 : P h' D oD) (h3 : ∀ p ∈ tl, P h' p.1 p.2) : ∀ p ∈ (l, o) :: (D, oD) :: tl, P h' p.1 p.2 := by
  intro p hp
  rcases List.mem_cons.mp hp with rfl | hp
  · exact h1
  · rcases List.mem_cons.mp hp with rfl | hp
    · exact h2
    · exact h3 p hp
theorem slice_sz {x : Str} {k sz : Nat} (h : (k : Int) < (x.length : Int)) : Txt.slice x (some (k : Int)) (some ((k : Int) + (sz : Int))) = S ((x.cps.toList.drop k).take sz) := by
  have := slice_gen (x := x) (i := k) (j := k + sz) (by (first | lia | omega)) (by (first | lia | omega))
  rw [show k + sz - k = sz by (first | lia | omega)] at this
  exact this
noncomputable abbrev occD (y : Str) : Bool := (Builtin.Str.occurrences (Str.ofString "0123456789") y 0 (Str.ofString "0123456789").length 1).isEmpty
section
variable {x : Str} {k sz : Nat}
theorem tn_under (h : (k : Int) < (x.length : Int)) (o : occD (Txt.item x (k : Int)) = true) (u : (Txt.item x (k : Int) == Str.ofString "_") = true) : nextTok (x.cps.toList.drop k) = (1, 1) :=
  nextTok_under h (item_fig h o) (of_decide_eq_true (item_is h lit_under u))
theorem tn_blank (h : (k : Int) < (x.length : Int)) (o : occD (Txt.item x (k : Int)) = true) (u : (Txt.item x (k : Int) == Str.ofString "_") = false) (u' : (Txt.item x (k : Int) == Str.ofString " ") = true) : nextTok (x.cps.toList.drop k) = (5, 1) :=
  nextTok_blank h (item_fig h o) (of_decide_eq_false (item_is h lit_under u)) (of_decide_eq_true (item_is h lit_blank u'))
theorem tn_op {kd : Int} (h : (k : Int) < (x.length : Int)) (o : occD (Txt.item x (k : Int)) = true) (u : (Txt.item x (k : Int) == Str.ofString "_") = false) (u' : (Txt.item x (k : Int) == Str.ofString " ") = false)
    (hop : opI (x.cps.toList.drop k) 3 = (kd, sz)) : nextTok (x.cps.toList.drop k) = (kd, sz) :=
  (nextTok_op h (item_fig h o) (of_decide_eq_false (item_is h lit_under u)) (of_decide_eq_false (item_is h lit_blank u'))).trans hop
theorem item_fig2 {b : Bool} (h : (k : Int) + (sz : Int) < (x.length : Int)) (ho : occD (Txt.item x ((k : Int) + (sz : Int))) = b) : isFig (cAt x (k + sz)) = !b := item_fig (k := k + sz) h ho
theorem figs_start (h : (k : Int) < (x.length : Int)) (o : occD (Txt.item x (k : Int)) = false) : ∀ j, j < 1 → isFig (cAt x (k + j)) = true := by
  intro j hj
  have : j = 0 := by (first | lia | omega)
  subst this
  exact item_fig h o
theorem figs_more (hf : ∀ j, j < sz → isFig (cAt x (k + j)) = true) (h : (k : Int) + (sz : Int) < (x.length : Int)) (ho : occD (Txt.item x ((k : Int) + (sz : Int))) = false) : ∀ j, j < sz + 1 → isFig (cAt x (k + j)) = true := by
  intro j hj
  by_cases e : j = sz
  · subst e; exact item_fig2 h ho
  · exact hf j (by (first | lia | omega))
end
theorem tokIn_end {tl : List (Addr × Obj)} {vs : List Value} {ts : List (Int × List Nat)} {x : Str} {k : Nat} {D : Addr} {t t' : Tok} (htok : TokIn tl vs ts) (hk : k ≤ x.length) (hn : ¬ (k : Int) < (x.length : Int))
    (hts : ts ++ tokF (x.cps.toList.drop k).length (x.cps.toList.drop k) = tokF x.cps.toList.length x.cps.toList) :
    TokIn ((D, ({ cls := .type "tuple", data := .seq #[.int 0 t, .str (Str.ofString "") t'] 0 } : Obj)) :: tl) (vs ++ [.ref D]) (tokensL x.cps.toList) := by
  have e : x.cps.toList.drop k = [] := List.drop_eq_nil_of_le (by rw [len_toList]; (first | lia | omega))
  rw [e] at hts
  have : tokF ([] : List Nat).length [] = [] := rfl
  rw [this, List.append_nil] at hts
  unfold tokensL
  rw [← hts]
  refine TokIn.snoc (htok.mono fun p hp => List.mem_cons_of_mem _ hp) (k := 0) (t := t) (l := []) (t' := t') (n := 0) ?_
  rw [lit_empty]
  exact List.mem_cons_self ..
theorem news_sub {h₀ h : Heap} {L : Addr} {news news' : List (Addr × Obj)} (N : News h₀ L h news') (hs : ∀ p ∈ news, p ∈ news') : ∀ p ∈ news, h.get? p.1 = some p.2 ∧ h₀.get? p.1 = none := fun p hp => ⟨(N p (hs p hp)).1, (N p (hs p hp)).2.2⟩
theorem sub_skip {α : Type} {a b c d : α} {l : List α} : ∀ p ∈ a :: c :: l, p ∈ a :: b :: c :: d :: l := by
  intro p hp
  rcases List.mem_cons.mp hp with rfl | hp
  · exact List.mem_cons_self ..
  · refine List.mem_cons_of_mem _ (List.mem_cons_of_mem _ ?_)
    rcases List.mem_cons.mp hp with rfl | hp
    · exact List.mem_cons_self ..
    · exact List.mem_cons_of_mem _ (List.mem_cons_of_mem _ hp)
/-- a while whose word speaks of the frame and the ledger that it finds -/
theorem while_at {prog : Program} {w : World} {A : Around} {E : Value → Shared → Prop} {Q : Flow → Shared → Prop} {s : Shared} {env : Env} {h₀ : Heap} {L : Addr} {test : Expr} {body : List Stmt} {pos : Pos} {m : Str → Option Value} {news : List (Addr × Obj)}
    (J : List (Addr × Obj) → (Str → Option Value) → Nat → (Str → Option Value) → List (Addr × Obj) → Prop) {n₀ : Nat}
    (F : Fr h₀ L s.heap m) (N : News h₀ L s.heap news) (hJ : J news m n₀ m news)
    (turn : ∀ n m₁ news₁ h₁ tk₁, Fr h₀ L h₁ m₁ → News h₀ L h₁ news₁ → J news m n m₁ news₁ →
      wpAny (model prog w) A (isTrue test env (eval test env)) (fun b s₂ =>
        if b = true then wpAny (model prog w) A (execs body env) (WhileStep2 h₀ L s (J news m) Q n) E s₂ else Q .next s₂) E { s with heap := h₁, toks := tk₁ })
    (hE : PassesOwn (model prog w) A env E) :
    wpAny (model prog w) A (exec (.While test body [] pos) env) Q E s := While_inv2 (J news m) F N hJ turn hE
/-- a statement whose ways meet: J tells the state behind it -/
theorem execs_join {M : Model} {A : Around} {E : Value → Shared → Prop} {s : Shared} {st : Stmt} {rest : List Stmt} {env : Env} {Q : Flow → Shared → Prop} (J : Shared → Prop)
    (tail : ∀ s', J s' → wpAny M A (execs rest env) Q E s') (h : wpAny M A (exec st env) (fun f s' => match f with | .next => J s' | f => Q f s') E s) : wpAny M A (execs (st :: rest) env) Q E s :=
  wpAny_execs_cons (wpAny_mono h (fun f s' q => by cases f <;> first | exact tail s' q | exact q) fun _ _ q => q)
noncomputable def TokT (x : Str) (t1 : Tok) (D : Addr) (k : Nat) (tk : Tok) (o : Obj) (tl : List (Addr × Obj)) (h₀ : Heap) (L : Addr) (s s' : Shared) : Prop :=
  ∃ (kd : Int) (kt : Tok) (sz : Nat) (st : Tok) (mr : Str → Option Value) (h' : Heap) (tk' : Nat), s' = { s with heap := h', toks := tk' } ∧
    Fr h₀ L h' (fun y => if y = Str.ofString "kind" then some (Value.int kd kt) else if y = Str.ofString "size" then some (Value.int (sz : Int) st) else if y = Str.ofString "k" then some (Value.int (k : Int) tk) else if y = Str.ofString "tokens" then some (Value.ref D) else if y = Str.ofString "text" then some (Value.str x t1) else mr y) ∧
    News h₀ L h' ((D, o) :: tl) ∧ nextTok (x.cps.toList.drop k) = (kd, sz) ∧ sz ≤ 4000
theorem tokT_of {x : Str} {t1 : Tok} {D : Addr} {k : Nat} {tk : Tok} {o : Obj} {tl news' : List (Addr × Obj)} {h₀ : Heap} {L : Addr} {s : Shared} {kd : Int} {kt : Tok} {sz : Nat} {st : Tok} {m : Str → Option Value} {h' : Heap} {tk' : Nat}
   (F : Fr h₀ L h' m) (N : News h₀ L h' news') (h1 : m (Str.ofString "kind") = some (.int kd kt)) (h2 : m (Str.ofString "size") = some (.int (sz : Int) st)) (h3 : m (Str.ofString "k") = some (.int (k : Int) tk)) (h4 : m (Str.ofString "tokens") = some (.ref D)) (h5 : m (Str.ofString "text") = some (.str x t1))
   (hD : (D, o) ∈ news') (ht : ∀ p ∈ tl, p ∈ news') (hn : nextTok (x.cps.toList.drop k) = (kd, sz)) (hz : sz ≤ 4000) : TokT x t1 D k tk o tl h₀ L s { s with heap := h', toks := tk' } :=
  ⟨kd, kt, sz, st, m, h', tk', rfl, shape5 m h1 h2 h3 h4 h5 ▸ F, fun p hp => (List.mem_cons.mp hp).elim (fun e => e ▸ N _ hD) (fun q => N p (ht p q)), hn, hz⟩
/-! the words taken apart at once (a destructuring pattern writes the goal down anew at each part) -/
@[elab_as_elim] theorem TokJ.elim {x : Str} {t1 : Tok} {D : Addr} {n : Nat} {m : Str → Option Value} {news : List (Addr × Obj)} {C : (Str → Option Value) → List (Addr × Obj) → Prop} (h : TokJ x t1 D n m news)
    (c : ∀ (k : Nat) (tk : Tok) (vs : List Value) (c : Nat) (tl : List (Addr × Obj)) (ts : List (Int × List Nat)) (mr : Str → Option Value), OwnOff tl [D] → TokIn tl vs ts → k ≤ x.length → n = x.length - k → vs.length ≤ k →
      ts ++ tokF (x.cps.toList.drop k).length (x.cps.toList.drop k) = tokF x.cps.toList.length x.cps.toList → C (fun y => if y = Str.ofString "k" then some (Value.int (k : Int) tk) else if y = Str.ofString "tokens" then some (Value.ref D) else if y = Str.ofString "text" then some (Value.str x t1) else mr y) ((D, W.listOf vs.toArray c) :: tl)) : C m news := by
  obtain ⟨k, tk, vs, c', tl, ts, mr, rfl, rfl, a, b, d, e, f, g⟩ := h
  exact c k tk vs c' tl ts mr a b d e f g
@[elab_as_elim] theorem ForJ.elim {x : Str} {t1 : Tok} {D : Addr} {k : Nat} {tk : Tok} {news₀ nx : List (Addr × Obj)} {i : Nat} {m : Str → Option Value} {C : (Str → Option Value) → List (Addr × Obj) → Prop} (h : ForJ x t1 D k tk news₀ i m nx)
    (c : ∀ (kd : Int) (kt : Tok) (sz : Nat) (st : Tok) (mr : Str → Option Value), opI (x.cps.toList.drop k) i = (kd, sz) → sz ≤ 4000 → C (fun y => if y = Str.ofString "kind" then some (Value.int kd kt) else if y = Str.ofString "size" then some (Value.int (sz : Int) st) else if y = Str.ofString "k" then some (Value.int (k : Int) tk) else if y = Str.ofString "tokens" then some (Value.ref D) else if y = Str.ofString "text" then some (Value.str x t1) else mr y) news₀) : C m nx := by
  obtain ⟨rfl, kd, kt, sz, st, mr, rfl, a, b⟩ := h
  exact c kd kt sz st mr a b
@[elab_as_elim] theorem NumJ.elim {x : Str} {k n : Nat} {news₀ nx : List (Addr × Obj)} {m₀ m : Str → Option Value} {C : (Str → Option Value) → List (Addr × Obj) → Prop} (h : NumJ x k news₀ m₀ n m nx)
    (c : ∀ (sz : Nat) (st : Tok), 1 ≤ sz → k + sz ≤ x.length → (∀ j, j < sz → isFig (cAt x (k + j)) = true) → n = x.length - (k + sz) → C (fun y => if y = Str.ofString "size" then some (Value.int (sz : Int) st) else m₀ y) news₀) : C m nx := by
  obtain ⟨rfl, sz, st, rfl, a, b, d, e⟩ := h
  exact c sz st a b d e
@[elab_as_elim] theorem TokT.elim {x : Str} {t1 : Tok} {D : Addr} {k : Nat} {tk : Tok} {o : Obj} {tl : List (Addr × Obj)} {h₀ : Heap} {L : Addr} {s s' : Shared} {C : Shared → Prop} (h : TokT x t1 D k tk o tl h₀ L s s')
    (c : ∀ (kd : Int) (kt : Tok) (sz : Nat) (st : Tok) (mr : Str → Option Value) (h' : Heap) (tk' : Nat), Fr h₀ L h' (fun y => if y = Str.ofString "kind" then some (Value.int kd kt) else if y = Str.ofString "size" then some (Value.int (sz : Int) st) else if y = Str.ofString "k" then some (Value.int (k : Int) tk) else if y = Str.ofString "tokens" then some (Value.ref D) else if y = Str.ofString "text" then some (Value.str x t1) else mr y) → News h₀ L h' ((D, o) :: tl) → nextTok (x.cps.toList.drop k) = (kd, sz) → sz ≤ 4000 → C { s with heap := h', toks := tk' }) : C s' := by
  obtain ⟨kd, kt, sz, st, mr, h', tk', rfl, a, b, d, e⟩ := h
  exact c kd kt sz st mr h' tk' a b d e
@[elab_as_elim] theorem three_elim {a b c : Tok} {i : Nat} {v : Value} {C : Value → Prop} (h : ([Value.int 1 a, Value.int 2 b, Value.int 3 c] : List Value)[i]? = some v) (k : i < 3 → ∀ t, C (.int ((i : Int) + 1) t)) : C v := by
  obtain ⟨p, t, rfl⟩ := three_at h
  exact k p t
end Mine
end
local macro_rules | `(tactic| walk_at $s:str) => `(tactic| k_extra $s)
local macro_rules | `(tactic| k_ne) => `(tactic| k_extra "ne")
local macro_rules | `(tactic| k_lt $h:ident) => `(tactic| skip)
local macro_rules | `(tactic| ktr_room) => `(tactic| k_extra "room")
local macro_rules | `(tactic| ktr_units) => `(tactic| k_extra "units")
section
open PySem PySem.W PyProof.Rows PySem.Calls
set_option Elab.async false
set_option maxRecDepth 100000
set_option maxHeartbeats 8000000
namespace Mine
theorem tokens_walk (w : World) (dp un : Nat) (gd : Option (List Code)) (cn : Str) (cs : Scope) (a : Addr) (ccd : Value) (cl : List (Str × Addr)) (outer : List Env) (A₀ : Around) (base h₀ : Heap) (L : Addr) (m mg mb : Str → Option Value) (mean : ExcName → Option Value) (s : Shared) (Q E : Value → Shared → Prop)
   (x : Str) (t1 : Tok) (hx : x.length ≤ 4000)
   (B : Below A₀ base outer h₀) (F : Fr h₀ L s.heap m) (X : (hd.heap_39 w.params).In h₀) (T : Top VV LL mean mg mb h₀) (hk : cs.kind = .function)
   (hdp : dp + 8 < recursionLimit) (hun : un + 40 < cLine)
   (ret : ∀ (l : Addr) (h' : Heap) (tk' : Nat) (vs : List Value) (tl : List (Addr × Obj)), s.heap.StaysIn h' → (∀ p ∈ (l, W.listOf vs.toArray 0) :: tl, h'.get? p.1 = some p.2 ∧ s.heap.get? p.1 = none) → TokIn tl vs (tokensL x.cps.toList) → Q (.ref l) { s with heap := h', toks := tk' }) :
   wpAny (model PySem.Challenge.rw_mj0140_01.row.prog w) (ktrTop dp un gd cn cs L a ccd cl outer) (call (.ref 60) [.str x t1]) Q E s := by
  revert X; k_fill; intro X
  refine wpAny_call ?_
  k_with_none; (k_with "ne" => (refine neN ?_; (try dsimp only); first | assumption | exact Ne.symm (by assumption) | exact And.left (by assumption) | exact And.right (by assumption) | exact Ne.symm (And.left (by assumption)) | exact Ne.symm (And.right (by assumption)) | ((refine' ne_lt ?hne ?mne); (case hne => assumption); (case mne => ((repeat (first | exact List.Mem.head _ | refine List.Mem.tail _ ?_)); done))) | ((refine' ne_gt ?hne ?mne); (case hne => assumption); (case mne => ((repeat (first | exact List.Mem.head _ | refine List.Mem.tail _ ?_)); done))) | ((refine' ne_all ?hne ?mne); (case hne => assumption); (case mne => ((repeat (first | exact List.Mem.head _ | refine List.Mem.tail _ ?_)); done))) | ((refine' ne_lla ?hne ?mne); (case hne => assumption); (case mne => ((repeat (first | exact List.Mem.head _ | refine List.Mem.tail _ ?_)); done))) | exact And.left (And.right (by assumption)) | exact And.right (And.right (by assumption)) | exact And.left (And.right (And.right (by assumption))) | exact And.right (And.right (And.right (by assumption))) | exact And.left (And.right (And.right (And.right (by assumption)))) | exact And.right (And.right (And.right (And.right (by assumption)))) | exact And.left (And.right (And.right (And.right (And.right (by assumption))))) | exact And.right (And.right (And.right (And.right (And.right (by assumption))))) | exact And.left (And.right (And.right (And.right (And.right (And.right (by assumption)))))) | exact And.right (And.right (And.right (And.right (And.right (And.right (by assumption)))))) | exact And.left (And.right (And.right (And.right (And.right (And.right (And.right (by assumption))))))) | exact And.right (And.right (And.right (And.right (And.right (And.right (And.right (by assumption))))))) | exact And.left (And.right (And.right (And.right (And.right (And.right (And.right (And.right (by assumption)))))))) | exact And.right (And.right (And.right (And.right (And.right (And.right (And.right (And.right (by assumption)))))))) | exact And.left (And.right (And.right (And.right (And.right (And.right (And.right (And.right (And.right (by assumption))))))))) | exact And.right (And.right (And.right (And.right (And.right (And.right (And.right (And.right (And.right (by assumption))))))))) | exact And.left (And.right (And.right (And.right (And.right (And.right (And.right (And.right (And.right (And.right (by assumption)))))))))) | exact And.right (And.right (And.right (And.right (And.right (And.right (And.right (And.right (And.right (And.right (by assumption)))))))))) | exact Ne.symm (And.left (And.right (by assumption))) | exact Ne.symm (And.right (And.right (by assumption))) | exact Ne.symm (And.left (And.right (And.right (by assumption)))) | exact Ne.symm (And.right (And.right (And.right (by assumption)))) | exact Ne.symm (And.left (And.right (And.right (And.right (by assumption))))) | exact Ne.symm (And.right (And.right (And.right (And.right (by assumption))))) | exact Ne.symm (And.left (And.right (And.right (And.right (And.right (by assumption)))))) | exact Ne.symm (And.right (And.right (And.right (And.right (And.right (by assumption)))))) | exact Ne.symm (And.left (And.right (And.right (And.right (And.right (And.right (by assumption))))))) | exact Ne.symm (And.right (And.right (And.right (And.right (And.right (And.right (by assumption))))))) | exact Ne.symm (And.left (And.right (And.right (And.right (And.right (And.right (And.right (by assumption)))))))) | exact Ne.symm (And.right (And.right (And.right (And.right (And.right (And.right (And.right (by assumption)))))))) | exact Ne.symm (And.left (And.right (And.right (And.right (And.right (And.right (And.right (And.right (by assumption))))))))) | exact Ne.symm (And.right (And.right (And.right (And.right (And.right (And.right (And.right (And.right (by assumption))))))))) | exact Ne.symm (And.left (And.right (And.right (And.right (And.right (And.right (And.right (And.right (And.right (by assumption)))))))))) | exact Ne.symm (And.right (And.right (And.right (And.right (And.right (And.right (And.right (And.right (And.right (by assumption)))))))))) | exact Ne.symm (And.left (And.right (And.right (And.right (And.right (And.right (And.right (And.right (And.right (And.right (by assumption))))))))))) | exact Ne.symm (And.right (And.right (And.right (And.right (And.right (And.right (And.right (And.right (And.right (And.right (by assumption))))))))))) | ((repeat (rename ∀ _ ∈ _, _ => hk9; replace hk9 := allLt_of hk9; simp only [AllLt, and_true] at hk9)); omega))); (k_with "lt" => (refine ltN ?_; (try dsimp only); first | assumption | ((refine' lt_mem ?hlt ?mlt); (case hlt => assumption); (case mlt => ((repeat (first | exact List.Mem.head _ | refine List.Mem.tail _ ?_)); done))) | omega)); (k_with "room" => ((try simp only [depth_under_make, depth_under_kw, depth_in1, depth_deeper, depth_caller]); (try dsimp only [ktrTop]); first | exact room2 (by assumption) (by decide) | exact room1 (by assumption) (by decide) | exact room3 (by assumption) (by decide) | exact room0 (by assumption))); (k_with "units" => ((try simp only [units_in1, units_deeper, Around.mark_units, units_caller]); (try dsimp only [ktrTop]); first | exact room2 (by assumption) (by decide) | exact room1 (by assumption) (by decide) | exact room3 (by assumption) (by decide) | exact room0 (by assumption))); (k_with "exec While" => refine stop ?_); (k_with "exec While Compare" => refine stop ?_); (k_with "exec While Compare cons nil" => refine stop ?_); (k_with "compareOp In str ref" => (refine tok_in (by assumption) (by assumption) ?_)); (k_with "subscriptTail" => ((with_reducible show wpAny _ _ (subscriptTail _ _ (Value.ref 23) (Value.str _ _)) _ _ _); refine tok_item' (by assumption) (by assumption) (by assumption) ?_ (by with_unfolding_all rfl); intro u9kw)); (k_with "execs cons" => ((with_reducible show wpAny _ _ (execs (Stmt.If _ _ _ _ :: _ :: _) _) _ _ _); refine stop ?_)); w_top off; w_strict ( (k_dflt (refine' code_pure ?k1 ?k2 ?k3 ?k5 ?kA ?kF ?kK ?k6 ?k7 ?k8 ?k9 ?kB ?_ ?c2 ?c3 ?c4 ?c5; (case kA => exact rfl); (case kF => exact rfl); (case kK => assumption); (case k1 => k_asm); (case k2 => k_asm); (case k3 => k_asm); (case k5 => k_asm); (case k6 => k_is); (case k7 => k_is); (case k8 => ktr_room); (case k9 => exact BindsTo.of_eq rfl); (case c5 => decide); (case kB => exact locs rfl); (case c2 => exact rfl); (case c3 => exact rfl); (case c4 => exact rfl); k_whole; intro L' h' F' N' B' X' T'; (try dsimp only); (try k_fold))); (replace F' : Fr s.heap L' h' (fun y => List.lookup y [(Str.ofString "text", Value.str x t1)]) := F'); k_steps; (refine Stop.mk ?_); (rename Fr _ _ _ _ => F9); (rename News _ _ _ [(_, _)] => N9); (rename_i D9 _ _ _ _); (refine While_inv2 (TokJ x t1 D9) (n₀ := x.length) F9 N9 ?w1 ?w2); (case w1 => exact tokJ_start _ rfl rfl rfl); (case w2 => (intro n m₁ news₁ h₁ tk₁ F₁ N₁ hJ9; (revert F₁ N₁); (refine TokJ.elim hJ9 ?_); (clear hJ9); (intro k kt9 vs c tl ts mr hoff htok hk hn hvl hts F₁ N₁); (try k_fold); k_steps; (all_goals first | (exact ret _ _ _ _ _ (Fr.keep (by assumption)) (news_sub (by assumption) sub_skip) (tokIn_end htok hk (by assumption) hts)) | ((refine Stop.mk ?_); (refine execs_join (TokT x t1 D9 k kt9 (W.listOf vs.toArray c) tl s.heap L' s) ?tail ?head); (case tail => (intro s' hJ9; (refine TokT.elim hJ9 ?_); (clear hJ9); (intro kd kt sz st mr h tk F₁ N₁ hnx hsz);  (replace F₁ : Fr s.heap L' h _ := F₁); (replace N₁ : News s.heap L' h _ := N₁); (try k_fold); k_steps; exact tok_end hoff htok (by assumption) hn hvl hts hnx (slice_sz (by assumption)) (by assumption) (by assumption) rfl rfl rfl (by k_mem) (by k_mem) (by intro p hp; repeat (first | exact hp | refine List.Mem.tail _ ?_)) (by k_extra "lt"))); (case head => ((try k_fold); k_steps; (rotate_left 2); (rename Fr _ _ _ _ => F8); (rename News _ _ _ ((_, _) :: (D9, _) :: _) => N8); (refine kdl_iter (vs := [Value.int 1 _, Value.int 2 _, Value.int 3 _]) (ForJ x t1 D9 k kt9 _) rfl (List.Mem.head _) F8 N8 (forJ_of (sz := 1) _ rfl rfl rfl rfl rfl rfl (by decide)) ?turn ?done); (case turn => (intro i v m₁ nx h tk own hv hown hl₁ hJ9; (revert hown hl₁); (refine ForJ.elim hJ9 ?_); (clear hJ9); (refine three_elim hv ?_); (intro hi3 t3 kd kt sz st mr hop hsz hown hl₁ F₁ N₁); (simp only [List.cons_append] at N₁); (replace F₁ : Fr s.heap L' h _ := F₁); (replace N₁ : News s.heap L' h _ := N₁); (try k_fold); k_steps; (all_goals first | exact InvEndG.intro (by assumption) (by assumption) ⟨hl₁, forJ_of _ rfl rfl rfl rfl rfl (opI_hit (by assumption) hop (by assumption)) (by omega)⟩ hown (fun p hp => (List.mem_append (s := _ :: _ :: tl) (t := own)).mpr (Or.inl hp)) (fun p hp => (List.mem_append (s := _ :: _ :: tl) (t := own)).mpr (Or.inr hp)) | exact InvEndG.intro (by assumption) (by assumption) ⟨hl₁, forJ_of _ rfl rfl rfl rfl rfl (opI_miss (by assumption) hop (by assumption)) (by omega)⟩ hown (fun p hp => (List.mem_append (s := _ :: _ :: tl) (t := own)).mpr (Or.inl hp)) (fun p hp => (List.mem_append (s := _ :: _ :: tl) (t := own)).mpr (Or.inr hp))))); (case done => (intro m₁ nx h tk hJ9; (refine ForJ.elim hJ9 ?_); (clear hJ9); (intro kd kt sz st mr hop hsz F₁ N₁); (replace F₁ : Fr s.heap L' h _ := F₁); (replace N₁ : News s.heap L' h _ := N₁); (try k_fold); k_steps; exact tokT_of (by assumption) (by assumption) rfl rfl rfl rfl rfl (by k_mem) (by intro p hp; repeat (first | exact hp | refine List.Mem.tail _ ?_)) (tn_op (by assumption) (by assumption) (by assumption) (by assumption) hop) (hsz))); ((refine Stop.mk ?_); (rename Fr _ _ _ _ => F8); (rename News _ _ _ ((D9, _) :: _) => N8); (refine while_at (NumJ x k) (n₀ := x.length - (k + 1)) F8 N8 ?v1 ?v2 (by passes_own)); (case v1 => exact ⟨rfl, 1, _, shape1 _ rfl, by omega, by omega, figs_start (by assumption) (by assumption), rfl⟩); (case v2 => (intro n' m₁ nx h₁ tk₁ F₁ N₁ hJ9; (revert F₁ N₁); (refine NumJ.elim hJ9 ?_); (clear hJ9); (intro sz st h1 hle hfig hn' F₁ N₁); (try k_fold); k_steps; (all_goals first | exact ⟨_, _, _, _, x.length - (k + (sz + 1)), rfl, by assumption, by assumption, by omega, rfl, sz + 1, _, upd_upd _ _ _ _, by omega, by omega, figs_more hfig (by assumption) (by assumption), rfl⟩ | exact tokT_of (by assumption) (by assumption) rfl rfl rfl rfl rfl (by k_mem) (by intro p hp; repeat (first | exact hp | refine List.Mem.tail _ ?_)) (nextTok_num hle h1 hfig (Or.inl (by omega))) (by omega) | exact tokT_of (by assumption) (by assumption) rfl rfl rfl rfl rfl (by k_mem) (by intro p hp; repeat (first | exact hp | refine List.Mem.tail _ ?_)) (nextTok_num hle h1 hfig (Or.inr (item_fig2 (by assumption) (by assumption)))) (by omega))))); (all_goals first | exact tokT_of (sz := 1) (by assumption) (by assumption) rfl rfl rfl rfl rfl (by k_mem) (by intro p hp; repeat (first | exact hp | refine List.Mem.tail _ ?_)) (tn_under (by assumption) (by assumption) (by assumption)) (by decide) | exact tokT_of (sz := 1) (by assumption) (by assumption) rfl rfl rfl rfl rfl (by k_mem) (by intro p hp; repeat (first | exact hp | refine List.Mem.tail _ ?_)) (tn_blank (by assumption) (by assumption) (by assumption) (by assumption)) (by decide)))))))))
end Mine
end
section
open PySem PySem.W PyProof.Rows PySem.Calls
set_option Elab.async false
set_option maxRecDepth 100000
set_option maxHeartbeats 8000000
namespace Mine
theorem rfx {part : Int} (n n' : Nat) (h : part = 256 + (0 + (n : Int))) (h' : part = 256 + (0 + (n' : Int))) (e : (n == n') = false) : False := by
  have q : (n : Int) = n' := Int.add_left_cancel (Int.add_left_cancel (h.symm.trans h'))
  rw [Int.ofNat.inj q, beq_self_eq_true] at e
  cases e
theorem rule_walk (w : World) (dp un : Nat) (gd : Option (List Code)) (cn : Str) (cs : Scope) (a : Addr) (ccd : Value) (cl : List (Str × Addr)) (outer : List Env) (A₀ : Around) (base h₀ : Heap) (L : Addr) (m mg mb : Str → Option Value) (mean : ExcName → Option Value) (s : Shared) (Q E : Value → Shared → Prop)
   (part kind : Int) (t1 t2 : Tok)
   (B : Below A₀ base outer h₀) (F : Fr h₀ L s.heap m) (X : (hd.heap_39 w.params).In h₀) (T : Top VV LL mean mg mb h₀) (hk : cs.kind = .function)
   (hdp : dp + 2 < recursionLimit) (hun : un + 16 < cLine)
   (ret : ∀ (l : Addr) (h' : Heap) (tk' : Nat) (vs : List Value), s.heap.StaysIn h' → s.heap.get? l = none → h'.get? l = some (W.listOf vs.toArray 0) → IntsAre vs (ruleF part kind) → Q (.ref l) { s with heap := h', toks := tk' }) :
   wpAny (model PySem.Challenge.rw_mj0140_01.row.prog w) (ktrTop dp un gd cn cs L a ccd cl outer) (call (.ref 65) [.int part t1, .int kind t2]) Q E s := by
  revert X; k_fill; intro X
  obtain ⟨hp, gens, drawn, toks, os⟩ := s
  dsimp only at *
  refine wpAny_call ?_
  k_with_none; (k_with "ne" => (refine neN ?_; (try dsimp only); first | assumption | exact Ne.symm (by assumption) | exact And.left (by assumption) | exact And.right (by assumption) | exact Ne.symm (And.left (by assumption)) | exact Ne.symm (And.right (by assumption)) | ((refine' ne_lt ?hne ?mne); (case hne => assumption); (case mne => ((repeat (first | exact List.Mem.head _ | refine List.Mem.tail _ ?_)); done))) | ((refine' ne_gt ?hne ?mne); (case hne => assumption); (case mne => ((repeat (first | exact List.Mem.head _ | refine List.Mem.tail _ ?_)); done))) | ((refine' ne_all ?hne ?mne); (case hne => assumption); (case mne => ((repeat (first | exact List.Mem.head _ | refine List.Mem.tail _ ?_)); done))) | ((refine' ne_lla ?hne ?mne); (case hne => assumption); (case mne => ((repeat (first | exact List.Mem.head _ | refine List.Mem.tail _ ?_)); done))) | exact And.left (And.right (by assumption)) | exact And.right (And.right (by assumption)) | exact And.left (And.right (And.right (by assumption))) | exact And.right (And.right (And.right (by assumption))) | exact And.left (And.right (And.right (And.right (by assumption)))) | exact And.right (And.right (And.right (And.right (by assumption)))) | exact And.left (And.right (And.right (And.right (And.right (by assumption))))) | exact And.right (And.right (And.right (And.right (And.right (by assumption))))) | exact And.left (And.right (And.right (And.right (And.right (And.right (by assumption)))))) | exact And.right (And.right (And.right (And.right (And.right (And.right (by assumption)))))) | exact And.left (And.right (And.right (And.right (And.right (And.right (And.right (by assumption))))))) | exact And.right (And.right (And.right (And.right (And.right (And.right (And.right (by assumption))))))) | exact And.left (And.right (And.right (And.right (And.right (And.right (And.right (And.right (by assumption)))))))) | exact And.right (And.right (And.right (And.right (And.right (And.right (And.right (And.right (by assumption)))))))) | exact And.left (And.right (And.right (And.right (And.right (And.right (And.right (And.right (And.right (by assumption))))))))) | exact And.right (And.right (And.right (And.right (And.right (And.right (And.right (And.right (And.right (by assumption))))))))) | exact And.left (And.right (And.right (And.right (And.right (And.right (And.right (And.right (And.right (And.right (by assumption)))))))))) | exact And.right (And.right (And.right (And.right (And.right (And.right (And.right (And.right (And.right (And.right (by assumption)))))))))) | exact Ne.symm (And.left (And.right (by assumption))) | exact Ne.symm (And.right (And.right (by assumption))) | exact Ne.symm (And.left (And.right (And.right (by assumption)))) | exact Ne.symm (And.right (And.right (And.right (by assumption)))) | exact Ne.symm (And.left (And.right (And.right (And.right (by assumption))))) | exact Ne.symm (And.right (And.right (And.right (And.right (by assumption))))) | exact Ne.symm (And.left (And.right (And.right (And.right (And.right (by assumption)))))) | exact Ne.symm (And.right (And.right (And.right (And.right (And.right (by assumption)))))) | exact Ne.symm (And.left (And.right (And.right (And.right (And.right (And.right (by assumption))))))) | exact Ne.symm (And.right (And.right (And.right (And.right (And.right (And.right (by assumption))))))) | exact Ne.symm (And.left (And.right (And.right (And.right (And.right (And.right (And.right (by assumption)))))))) | exact Ne.symm (And.right (And.right (And.right (And.right (And.right (And.right (And.right (by assumption)))))))) | exact Ne.symm (And.left (And.right (And.right (And.right (And.right (And.right (And.right (And.right (by assumption))))))))) | exact Ne.symm (And.right (And.right (And.right (And.right (And.right (And.right (And.right (And.right (by assumption))))))))) | exact Ne.symm (And.left (And.right (And.right (And.right (And.right (And.right (And.right (And.right (And.right (by assumption)))))))))) | exact Ne.symm (And.right (And.right (And.right (And.right (And.right (And.right (And.right (And.right (And.right (by assumption)))))))))) | exact Ne.symm (And.left (And.right (And.right (And.right (And.right (And.right (And.right (And.right (And.right (And.right (by assumption))))))))))) | exact Ne.symm (And.right (And.right (And.right (And.right (And.right (And.right (And.right (And.right (And.right (And.right (by assumption))))))))))) | ((repeat (rename ∀ _ ∈ _, _ => hk9; replace hk9 := allLt_of hk9; simp only [AllLt, and_true] at hk9)); omega))); (k_with "lt" => (refine ltN ?_; (try dsimp only); first | assumption | ((refine' lt_mem ?hlt ?mlt); (case hlt => assumption); (case mlt => ((repeat (first | exact List.Mem.head _ | refine List.Mem.tail _ ?_)); done))) | omega)); (k_with "room" => ((try simp only [depth_under_make, depth_under_kw, depth_in1, depth_deeper, depth_caller]); (try dsimp only [ktrTop]); first | exact room2 (by assumption) (by decide) | exact room1 (by assumption) (by decide) | exact room3 (by assumption) (by decide) | exact room0 (by assumption))); (k_with "units" => ((try simp only [units_in1, units_deeper, Around.mark_units, units_caller]); (try dsimp only [ktrTop]); first | exact room2 (by assumption) (by decide) | exact room1 (by assumption) (by decide) | exact room3 (by assumption) (by decide) | exact room0 (by assumption))); w_top off; w_strict (
    (k_dflt (refine' code_pure ?k1 ?k2 ?k3 ?k5 ?kA ?kF ?kK ?k6 ?k7 ?k8 ?k9 ?kB ?_ ?c2 ?c3 ?c4 ?c5; (case kA => exact rfl); (case kF => exact rfl); (case kK => assumption); (case k1 => k_asm); (case k2 => k_asm); (case k3 => k_asm); (case k5 => k_asm); (case k6 => k_is); (case k7 => k_is); (case k8 => ktr_room); (case k9 => exact BindsTo.of_eq rfl); (case c5 => decide); (case kB => exact locs rfl); (case c2 => exact rfl); (case c3 => exact rfl); (case c4 => exact rfl); k_whole; intro L' h' F' N' B' X' T'; (try dsimp only); (try k_fold)));
    k_steps;
    (all_goals ((try k_unfold); (try dsimp only); refine ret _ _ _ _ (Fr.keep (by assumption)) (News.fresh (by assumption) (List.Mem.head _)) (News.get (by assumption) (List.Mem.head _)) ?_));
    (all_goals (refine ints_of (by repeat constructor) ?_; first | exact (rf0 (by assumption)).trans rfl | exact (rf1 (by assumption)).trans rfl | exact (rf2 (by assumption) (by assumption)).trans rfl | exact (rf2n (by assumption) (by assumption)).trans rfl | exact (rf3 (by assumption) (by assumption)).trans rfl | exact (rf3n (by assumption) (by assumption)).trans rfl | exact (rf4 (by assumption) (by assumption)).trans rfl | exact (rf4n (by assumption) (by assumption)).trans rfl | exact (rf5 (by assumption) (by assumption)).trans rfl | exact (rf5n (by assumption) (by assumption)).trans rfl | (exfalso; exact rfx (0 + 1 + 1) (0 + 1 + 1 + 1) (by assumption) (by assumption) rfl) | (exfalso; exact rfx (0 + 1 + 1) (0 + 1 + 1 + 1 + 1) (by assumption) (by assumption) rfl) | (exfalso; exact rfx (0 + 1 + 1) (0 + 1 + 1 + 1 + 1 + 1) (by assumption) (by assumption) rfl) | (exfalso; exact rfx (0 + 1 + 1 + 1) (0 + 1 + 1 + 1 + 1) (by assumption) (by assumption) rfl) | (exfalso; exact rfx (0 + 1 + 1 + 1) (0 + 1 + 1 + 1 + 1 + 1) (by assumption) (by assumption) rfl) | (exfalso; exact rfx (0 + 1 + 1 + 1 + 1) (0 + 1 + 1 + 1 + 1 + 1) (by assumption) (by assumption) rfl) | exact (rfn (by assumption) (by assumption) (by assumption) (by assumption) (by assumption) (by assumption)).trans rfl)))
end Mine
end
section
open PySem PySem.W PyProof.Rows PySem.Calls
set_option Elab.async false
set_option maxRecDepth 100000
set_option maxHeartbeats 8000000
namespace Mine
theorem figs_bound {x : Str} {p : Str → Bool} (hx : x.length ≤ 4000) : ((List.filter p (signs x)).map (·.length)).sum + (List.filter p (signs x)).length * (Str.ofString "").length ≤ 16777216 := by
  rw [sumLen_of_ones _ (fun a ha => sign_length_one x a (List.mem_filter.mp ha).1)]
  have h2 : (List.filter p (signs x)).length ≤ x.length := by
    have := List.length_filter_le p (signs x)
    rw [signs_length] at this
    exact this
  have e : (Str.ofString "").length = 0 := by decide
  rw [e]; omega
theorem join_figs {prog : Program} {w : World} {A : Around} {E : Value → Shared → Prop} {s : Shared} {x : Str} {t : Tok} {Q : Value → Shared → Prop} {D : Addr} {items : List Value}
    (hl : s.heap.IsList D items.toArray) (hc : CarriedAll items (List.map PyData.str (List.filter (fun a => !(Builtin.Str.occurrences (Str.ofString "0123456789") a 0 (Str.ofString "0123456789").length 1).isEmpty) (signs x)))) (hx : x.length ≤ 4000)
    (h : ∀ t' k, Q (.str (figs x) t') { s with toks := k }) : wpAny (model prog w) A (call (.builtin "str.join") [.str (Str.ofString "") t, .ref D]) Q E s :=
  join_made hl hc (figs_bound hx) h
@[elab_as_elim] theorem fig_elim {x f : Str} {t1 : Tok} {n : Nat} {m : Str → Option Value} {nx : List (Addr × Obj)} {C : (Str → Option Value) → List (Addr × Obj) → Prop}
    (h : nx = [] ∧ ∃ (g : Str) (t : Tok), m = (fun y => if y = Str.ofString "figures" then some (Value.str g t) else List.lookup y [(Str.ofString "text", Value.str x t1)]) ∧ n = g.length ∧ strip0 g.cps.toList = strip0 f.cps.toList ∧ g.length ≤ 4000)
    (k : ∀ (g : Str) (t : Tok), n = g.length → strip0 g.cps.toList = strip0 f.cps.toList → g.length ≤ 4000 → C (fun y => if y = Str.ofString "figures" then some (Value.str g t) else List.lookup y [(Str.ofString "text", Value.str x t1)]) []) : C m nx := by
  obtain ⟨e, g, t, e', a, b, c⟩ := h
  rw [e, e']
  exact k g t a b c
theorem number_walk (w : World) (dp un : Nat) (gd : Option (List Code)) (cn : Str) (cs : Scope) (a : Addr) (ccd : Value) (cl : List (Str × Addr)) (outer : List Env) (A₀ : Around) (base h₀ : Heap) (L : Addr) (m mg mb : Str → Option Value) (mean : ExcName → Option Value) (s : Shared) (Q E : Value → Shared → Prop)
   (x : Str) (t1 : Tok) (hx : x.length ≤ 4000)
   (B : Below A₀ base outer h₀) (F : Fr h₀ L s.heap m) (X : (hd.heap_39 w.params).In h₀) (T : Top VV LL mean mg mb h₀) (hk : cs.kind = .function)
   (hdp : dp + 8 < recursionLimit) (hun : un + 40 < cLine)
   (ret : ∀ (h' : Heap) (tk' : Nat) (t : Tok), s.heap.StaysIn h' → Q (.str (S (numberL x.cps.toList)) t) { s with heap := h', toks := tk' }) :
   wpAny (model PySem.Challenge.rw_mj0140_01.row.prog w) (ktrTop dp un gd cn cs L a ccd cl outer) (call (.ref 70) [.str x t1]) Q E s := by
  have ret' : ∀ (h' : Heap) (tk' : Nat) (t : Tok) (r : Str), S (numberL x.cps.toList) = r → s.heap.StaysIn h' → Q (.str r t) { s with heap := h', toks := tk' } := by
    intro h' tk' t r e hst; subst e; exact ret h' tk' t hst
  revert X; k_fill; intro X
  refine wpAny_call ?_
  k_with_none; (k_with "ne" => (refine neN ?_; (try dsimp only); first | assumption | exact Ne.symm (by assumption) | exact And.left (by assumption) | exact And.right (by assumption) | exact Ne.symm (And.left (by assumption)) | exact Ne.symm (And.right (by assumption)) | ((refine' ne_lt ?hne ?mne); (case hne => assumption); (case mne => ((repeat (first | exact List.Mem.head _ | refine List.Mem.tail _ ?_)); done))) | ((refine' ne_gt ?hne ?mne); (case hne => assumption); (case mne => ((repeat (first | exact List.Mem.head _ | refine List.Mem.tail _ ?_)); done))) | ((refine' ne_all ?hne ?mne); (case hne => assumption); (case mne => ((repeat (first | exact List.Mem.head _ | refine List.Mem.tail _ ?_)); done))) | ((refine' ne_lla ?hne ?mne); (case hne => assumption); (case mne => ((repeat (first | exact List.Mem.head _ | refine List.Mem.tail _ ?_)); done))) | exact And.left (And.right (by assumption)) | exact And.right (And.right (by assumption)) | exact And.left (And.right (And.right (by assumption))) | exact And.right (And.right (And.right (by assumption))) | exact And.left (And.right (And.right (And.right (by assumption)))) | exact And.right (And.right (And.right (And.right (by assumption)))) | exact And.left (And.right (And.right (And.right (And.right (by assumption))))) | exact And.right (And.right (And.right (And.right (And.right (by assumption))))) | exact And.left (And.right (And.right (And.right (And.right (And.right (by assumption)))))) | exact And.right (And.right (And.right (And.right (And.right (And.right (by assumption)))))) | exact And.left (And.right (And.right (And.right (And.right (And.right (And.right (by assumption))))))) | exact And.right (And.right (And.right (And.right (And.right (And.right (And.right (by assumption))))))) | exact And.left (And.right (And.right (And.right (And.right (And.right (And.right (And.right (by assumption)))))))) | exact And.right (And.right (And.right (And.right (And.right (And.right (And.right (And.right (by assumption)))))))) | exact And.left (And.right (And.right (And.right (And.right (And.right (And.right (And.right (And.right (by assumption))))))))) | exact And.right (And.right (And.right (And.right (And.right (And.right (And.right (And.right (And.right (by assumption))))))))) | exact And.left (And.right (And.right (And.right (And.right (And.right (And.right (And.right (And.right (And.right (by assumption)))))))))) | exact And.right (And.right (And.right (And.right (And.right (And.right (And.right (And.right (And.right (And.right (by assumption)))))))))) | exact Ne.symm (And.left (And.right (by assumption))) | exact Ne.symm (And.right (And.right (by assumption))) | exact Ne.symm (And.left (And.right (And.right (by assumption)))) | exact Ne.symm (And.right (And.right (And.right (by assumption)))) | exact Ne.symm (And.left (And.right (And.right (And.right (by assumption))))) | exact Ne.symm (And.right (And.right (And.right (And.right (by assumption))))) | exact Ne.symm (And.left (And.right (And.right (And.right (And.right (by assumption)))))) | exact Ne.symm (And.right (And.right (And.right (And.right (And.right (by assumption)))))) | exact Ne.symm (And.left (And.right (And.right (And.right (And.right (And.right (by assumption))))))) | exact Ne.symm (And.right (And.right (And.right (And.right (And.right (And.right (by assumption))))))) | exact Ne.symm (And.left (And.right (And.right (And.right (And.right (And.right (And.right (by assumption)))))))) | exact Ne.symm (And.right (And.right (And.right (And.right (And.right (And.right (And.right (by assumption)))))))) | exact Ne.symm (And.left (And.right (And.right (And.right (And.right (And.right (And.right (And.right (by assumption))))))))) | exact Ne.symm (And.right (And.right (And.right (And.right (And.right (And.right (And.right (And.right (by assumption))))))))) | exact Ne.symm (And.left (And.right (And.right (And.right (And.right (And.right (And.right (And.right (And.right (by assumption)))))))))) | exact Ne.symm (And.right (And.right (And.right (And.right (And.right (And.right (And.right (And.right (And.right (by assumption)))))))))) | exact Ne.symm (And.left (And.right (And.right (And.right (And.right (And.right (And.right (And.right (And.right (And.right (by assumption))))))))))) | exact Ne.symm (And.right (And.right (And.right (And.right (And.right (And.right (And.right (And.right (And.right (And.right (by assumption))))))))))) | ((repeat (rename ∀ _ ∈ _, _ => hk9; replace hk9 := allLt_of hk9; simp only [AllLt, and_true] at hk9)); omega))); (k_with "lt" => (refine ltN ?_; (try dsimp only); first | assumption | ((refine' lt_mem ?hlt ?mlt); (case hlt => assumption); (case mlt => ((repeat (first | exact List.Mem.head _ | refine List.Mem.tail _ ?_)); done))) | omega)); (k_with "room" => ((try simp only [depth_under_make, depth_under_kw, depth_in1, depth_deeper, depth_caller]); (try dsimp only [ktrTop]); first | exact room2 (by assumption) (by decide) | exact room1 (by assumption) (by decide) | exact room3 (by assumption) (by decide) | exact room0 (by assumption))); (k_with "units" => ((try simp only [units_in1, units_deeper, Around.mark_units, units_caller]); (try dsimp only [ktrTop]); first | exact room2 (by assumption) (by decide) | exact room1 (by assumption) (by decide) | exact room3 (by assumption) (by decide) | exact room0 (by assumption))); (k_with "exec While" => refine stop ?_); (k_with "call builtin:str.join" => (refine join_figs (by assumption) (by assumption) (by assumption) ?_; intro t8kw k8kw)); w_top off; w_strict (
    (k_dflt (refine' code_pure ?k1 ?k2 ?k3 ?k5 ?kA ?kF ?kK ?k6 ?k7 ?k8 ?k9 ?kB ?_ ?c2 ?c3 ?c4 ?c5; (case kA => exact rfl); (case kF => exact rfl); (case kK => assumption); (case k1 => k_asm); (case k2 => k_asm); (case k3 => k_asm); (case k5 => k_asm); (case k6 => k_is); (case k7 => k_is); (case k8 => ktr_room); (case k9 => exact BindsTo.of_eq rfl); (case c5 => decide); (case kB => exact locs rfl); (case c2 => exact rfl); (case c3 => exact rfl); (case c4 => exact rfl); k_whole; intro L' h' F' N' B' X' T'; (try dsimp only); (try k_fold)));
    (replace F' : Fr s.heap L' h' (fun y => List.lookup y [(Str.ofString "text", Value.str x t1)]) := F');
    k_steps;
    (refine Stop.mk ?_);
    (rename Fr _ _ _ _ => F9); (rename News _ _ _ _ => N9);
    (refine While_inv2 (fun n m₁ news₁ => news₁ = [] ∧ ∃ (g : Str) (t : Tok), m₁ = (fun y => if y = Str.ofString "figures" then some (Value.str g t) else List.lookup y [(Str.ofString "text", Value.str x t1)]) ∧ n = g.length ∧ strip0 g.cps.toList = strip0 (figs x).cps.toList ∧ g.length ≤ 4000) (n₀ := (figs x).length) F9 N9 ?w1 ?w2);
    (case w1 => exact ⟨rfl, _, _, rfl, rfl, rfl, Nat.le_trans (figs_len x) hx⟩);
    (case w2 => (intro n m₁ news₁ h₁ tk₁ F₁ N₁ hJ9; (revert F₁ N₁); (refine fig_elim hJ9 ?_); (clear hJ9); (intro g t hn hg hl F₁ N₁); (try k_fold); k_steps; (all_goals first | ((try k_unfold); (try dsimp only); (with_reducible show WhileStep2 _ _ _ _ _ _ _ _); (have ht := num_turn (by assumption) (by assumption)); exact ⟨_, _, _, _, (Txt.slice g (some 1) none).length, rfl, by assumption, News.nil, by omega, rfl, _, _, upd_upd _ _ _ _, rfl, ht.2.trans hg, by omega⟩) | (dsimp only; (try k_unfold); (try dsimp only); (have hs : strip0 g.cps.toList = g.cps.toList := by first | exact num_stop (by assumption) | exact num_stop' (by assumption) (by assumption)); first | exact ret' _ _ _ _ (num_A hg hs (by assumption)) (Fr.keep (by assumption)) | exact ret' _ _ _ _ (num_B hg hs (by assumption) (by assumption)) (Fr.keep (by assumption)) | exact ret' _ _ _ _ (num_C hg hs (by assumption)) (Fr.keep (by assumption)))))))
end Mine
end
section
open PySem PySem.W PyProof.Rows PySem.Calls
set_option Elab.async false
set_option maxRecDepth 100000
namespace Mine
/-- the stack machine of _law_read: fuel, the stack (its top first), the tokens left, what is told and the stretch at hand -/
noncomputable def runF : Nat → List Int → List (Int × List Nat) → List (List Nat) → List Nat → Option (Option (List (List Nat)))
  | 0, _, _, _, _ => none
  | _ + 1, [], _, _, _ => some none
  | _ + 1, _ :: _, [], _, _ => none
  | n + 1, top :: st, (kind, part) :: rest, done, cur =>
    if top < 256 ∧ top = kind then
      if top = 0 then some (some (done ++ [cur]))
      else if kind = 23 then runF n st rest (done ++ [cur]) []
      else runF n st rest done (cur ++ part)
    else if 256 ≤ top then runF n (ruleF top kind ++ st) ((kind, part) :: rest) done cur
    else some none
noncomputable def sumR (ts : List (Int × List Nat)) : Nat := (ts.map (·.2.length)).sum
theorem ruleF_len (a b : Int) : (ruleF a b).length ≤ 5 := by
  unfold ruleF
  repeat' split
  all_goals simp
section
variable {n : Nat} {top kind : Int} {st : List Int} {part : List Nat} {rest : List (Int × List Nat)} {done : List (List Nat)} {cur : List Nat} {r : Option (List (List Nat))}
theorem run_eof (h : runF (n + 1) (top :: st) ((kind, part) :: rest) done cur = some r) (h1 : top < 256) (h2 : top = kind) (h3 : top = 0) : r = some (done ++ [cur]) := by
  rw [runF, if_pos ⟨h1, h2⟩, if_pos h3] at h
  exact (Option.some.inj h).symm
theorem run_dot (h : runF (n + 1) (top :: st) ((kind, part) :: rest) done cur = some r) (h1 : top < 256) (h2 : top = kind) (h3 : top ≠ 0) (h4 : kind = 23) : runF n st rest (done ++ [cur]) [] = some r := by
  rw [runF, if_pos ⟨h1, h2⟩, if_neg h3, if_pos h4] at h
  exact h
theorem run_part (h : runF (n + 1) (top :: st) ((kind, part) :: rest) done cur = some r) (h1 : top < 256) (h2 : top = kind) (h3 : top ≠ 0) (h4 : kind ≠ 23) : runF n st rest done (cur ++ part) = some r := by
  rw [runF, if_pos ⟨h1, h2⟩, if_neg h3, if_neg h4] at h
  exact h
theorem run_rule (h : runF (n + 1) (top :: st) ((kind, part) :: rest) done cur = some r) (h1 : 256 ≤ top) : runF n (ruleF top kind ++ st) ((kind, part) :: rest) done cur = some r := by
  rw [runF, if_neg (fun q => by omega), if_pos h1] at h
  exact h
theorem run_fail (h : runF (n + 1) (top :: st) ((kind, part) :: rest) done cur = some r) (h1 : top < 256) (h2 : top ≠ kind) : r = none := by
  rw [runF, if_neg (fun q => h2 q.2), if_neg (by omega)] at h
  exact (Option.some.inj h).symm
end
theorem run_open {n : Nat} {st : List Int} {ts : List (Int × List Nat)} {done : List (List Nat)} {cur : List Nat} {r : Option (List (List Nat))} (h : runF n st ts done cur = some r) :
    (st = [] ∧ r = none) ∨ ∃ n' top st' kind part rest, n = n' + 1 ∧ st = top :: st' ∧ ts = (kind, part) :: rest := by
  match n, st, ts, h with
  | n + 1, [], _, h => left; rw [runF] at h; exact ⟨rfl, (Option.some.inj h).symm⟩
  | n + 1, top :: st', (kind, part) :: rest, _ => right; exact ⟨n, top, st', kind, part, rest, rfl, rfl, rfl⟩
theorem ints_snoc {n : Int} {ns : List Int} : ∀ {vs : List Value}, IntsAre vs (ns ++ [n]) → ∃ vs' t, vs = vs' ++ [.int n t] ∧ IntsAre vs' ns := by
  induction ns with
  | nil =>
    intro vs h
    cases h with
    | cons _ t r => cases r; exact ⟨[], _, rfl, .nil⟩
  | cons a ns ih =>
    intro vs h
    change IntsAre vs (a :: (ns ++ [n])) at h
    cases h with
    | cons _ t r => obtain ⟨vs', t', e, h'⟩ := ih r; exact ⟨_ :: vs', t', congrArg _ e, .cons _ _ h'⟩
theorem tokIn_at {tl : List (Addr × Obj)} {vs : List Value} {ts : List (Int × List Nat)} (h : TokIn tl vs ts) : ∀ {i : Nat} {kind : Int} {part : List Nat} {rest : List (Int × List Nat)}, ts.drop i = (kind, part) :: rest →
    ∃ a t t' n, vs[i]? = some (.ref a) ∧ (a, tokObj kind t part t' n) ∈ tl := by
  induction h with
  | nil => intro i _ _ _ e; simp at e
  | cons hm _ ih =>
    intro i kind part rest e
    cases i with
    | zero => cases e; exact ⟨_, _, _, _, rfl, hm⟩
    | succ i => obtain ⟨a, t, t', n, h1, h2⟩ := ih (i := i) e; exact ⟨a, t, t', n, by simpa using h1, h2⟩
theorem strs_snoc {n : Str} {ns : List Str} : ∀ {vs : List Value}, StrsAre vs (ns ++ [n]) → ∃ vs' t, vs = vs' ++ [.str n t] ∧ StrsAre vs' ns := by
  induction ns with
  | nil =>
    intro vs h
    cases h with
    | cons _ t r => cases r; exact ⟨[], _, rfl, .nil⟩
  | cons a ns ih =>
    intro vs h
    change StrsAre vs (a :: (ns ++ [n])) at h
    cases h with
    | cons _ t r => obtain ⟨vs', t', e, h'⟩ := ih r; exact ⟨_ :: vs', t', congrArg _ e, .cons _ _ h'⟩
theorem strs_app {vs ws : List Value} {ns ms : List Str} (h : StrsAre vs ns) (k : StrsAre ws ms) : StrsAre (vs ++ ws) (ns ++ ms) := by
  induction h with
  | nil => exact k
  | cons y t _ ih => exact .cons y t ih
theorem ints_app {vs ws : List Value} {ns ms : List Int} (h : IntsAre vs ns) (k : IntsAre ws ms) : IntsAre (vs ++ ws) (ns ++ ms) := by
  induction h with
  | nil => exact k
  | cons y t _ ih => exact .cons y t ih
theorem ints_rev {vs : List Value} {ns : List Int} (h : IntsAre vs ns) : IntsAre vs.reverse ns.reverse := by
  induction h with
  | nil => exact .nil
  | cons y t _ ih => rw [List.reverse_cons, List.reverse_cons]; exact ints_app ih (.cons y t .nil)
theorem strs_len {vs : List Value} {ns : List Str} (h : StrsAre vs ns) : vs.length = ns.length := by
  induction h with
  | nil => rfl
  | cons y t _ ih => simp [ih]
noncomputable def AllNe (d : Nat) : List (Addr × Obj) → Prop
  | [] => True
  | p :: r => @Ne Nat p.1 d ∧ AllNe d r
theorem allNe_of {d : Addr} : ∀ {l : List (Addr × Obj)}, (∀ p ∈ l, p.1 ≠ d) → AllNe d l
  | [], _ => trivial
  | p :: _, h => ⟨h p (.head _), allNe_of fun q hq => h q (.tail _ hq)⟩
theorem allNe_mem {d : Nat} {l : List (Addr × Obj)} : AllNe d l → ∀ p ∈ l, @Ne Nat p.1 d := by
  induction l with
  | nil => intro _ p hp; cases hp
  | cons q r ih =>
    intro h p hp
    rcases List.mem_cons.mp hp with rfl | hp
    · exact h.1
    · exact ih h.2 p hp
theorem ne_all {a d : Nat} {o : Obj} {l : List (Addr × Obj)} (h : AllNe d l) (m : (a, o) ∈ l) : a ≠ d := allNe_mem h _ m
theorem ne_lla {a d : Nat} {o : Obj} {l : List (Addr × Obj)} (h : AllNe d l) (m : (a, o) ∈ l) : d ≠ a := (ne_all h m).symm
section
variable {h₀ h h' : Heap} {L : Addr} {m : Str → Option Value} {news : List (Addr × Obj)}
theorem fr_on (F : Fr h₀ L h m) (st : h.StaysIn h') : Fr h₀ L h' m := F.keeps st
theorem news_on (F : Fr h₀ L h m) (N : News h₀ L h news) (st : h.StaysIn h') {l : Addr} {o : Obj} (h1 : h.get? l = none) (h2 : h'.get? l = some o) : News h₀ L h' ((l, o) :: news) := by
  intro p hp
  rcases List.mem_cons.mp hp with rfl | hp
  · refine ⟨h2, fun e => ?_, ?_⟩
    · obtain ⟨_, _, _, ho, _⟩ := F.ns
      have e' : l = L := e
      rw [← e', h1] at ho; cases ho
    · cases q : h₀.get? l with
      | none => rfl
      | some o' => rw [F.keep _ _ q] at h1; cases h1
  · exact ⟨st _ _ (N p hp).1, (N p hp).2⟩
theorem news_ne (N : News h₀ L h news) {l : Addr} (h1 : h.get? l = none) : AllNe l news := allNe_of fun p hp e => by
  have := (N p hp).1
  rw [e, h1] at this; cases this
end
end Mine
end
section
open PySem PySem.W PyProof.Rows PySem.Calls
set_option Elab.async false
set_option maxRecDepth 100000
namespace Mine
theorem tokens_call (w : World) (dp un : Nat) (gd : Option (List Code)) (cn : Str) (cs : Scope) (a : Addr) (ccd : Value) (cl : List (Str × Addr)) (outer : List Env) (A₀ : Around) (base h₀ : Heap) (L : Addr) (m mg mb : Str → Option Value) (mean : ExcName → Option Value) (s : Shared) (Q E : Value → Shared → Prop)
   (x : Str) (t1 : Tok) (hx : x.length ≤ 4000) (B : Below A₀ base outer h₀) (F : Fr h₀ L s.heap m) (X : (hd.heap_39 w.params).In h₀) (T : Top VV LL mean mg mb h₀) (hk : cs.kind = .function) (hdp : dp + 8 < recursionLimit) (hun : un + 40 < cLine)
   (ret : ∀ (l : Addr) (h' : Heap) (tk' : Nat) (vs : List Value) (tl : List (Addr × Obj)), Fr h₀ L h' m → News h₀ L h' ((l, W.listOf vs.toArray 0) :: tl) → TokIn tl vs (tokensL x.cps.toList) → Q (.ref l) { s with heap := h', toks := tk' }) :
   wpAny (model PySem.Challenge.rw_mj0140_01.row.prog w) (ktrTop dp un gd cn cs L a ccd cl outer) (call (.ref 60) [.str x t1]) Q E s :=
  tokens_walk w dp un gd cn cs a ccd cl outer A₀ base h₀ L m mg mb mean s Q E x t1 hx B F X T hk hdp hun (fun l h' tk' vs tl st hn ht => ret l h' tk' vs tl (fr_on F st) (fun p hp => by
    have q := news_on F (News.nil : News h₀ L s.heap []) st (hn p hp).2 (hn p hp).1
    exact q p (List.Mem.head _)) ht)
theorem rule_call (w : World) (dp un : Nat) (gd : Option (List Code)) (cn : Str) (cs : Scope) (a : Addr) (ccd : Value) (cl : List (Str × Addr)) (outer : List Env) (A₀ : Around) (base h₀ : Heap) (L : Addr) (m mg mb : Str → Option Value) (mean : ExcName → Option Value) (s : Shared) (Q E : Value → Shared → Prop) (news : List (Addr × Obj))
   (part kind : Int) (t1 t2 : Tok) (B : Below A₀ base outer h₀) (F : Fr h₀ L s.heap m) (X : (hd.heap_39 w.params).In h₀) (T : Top VV LL mean mg mb h₀) (hk : cs.kind = .function) (N : News h₀ L s.heap news) (hdp : dp + 8 < recursionLimit) (hun : un + 40 < cLine)
   (ret : ∀ (l : Addr) (h' : Heap) (tk' : Nat) (vs : List Value), Fr h₀ L h' m → News h₀ L h' ((l, W.listOf vs.toArray 0) :: news) → AllNe l news → IntsAre vs (ruleF part kind) → vs.length ≤ 5 → Q (.ref l) { s with heap := h', toks := tk' }) :
   wpAny (model PySem.Challenge.rw_mj0140_01.row.prog w) (ktrTop dp un gd cn cs L a ccd cl outer) (call (.ref 65) [.int part t1, .int kind t2]) Q E s :=
  rule_walk w dp un gd cn cs a ccd cl outer A₀ base h₀ L m mg mb mean s Q E part kind t1 t2 B F X T hk (by omega) (by omega) (fun l h' tk' vs st h1 h2 hi => ret l h' tk' vs (fr_on F st) (news_on F N st h1 h2) (news_ne N h1) hi (by rw [hi.length]; exact ruleF_len _ _))
theorem number_call (w : World) (dp un : Nat) (gd : Option (List Code)) (cn : Str) (cs : Scope) (a : Addr) (ccd : Value) (cl : List (Str × Addr)) (outer : List Env) (A₀ : Around) (base h₀ : Heap) (L : Addr) (m mg mb : Str → Option Value) (mean : ExcName → Option Value) (s : Shared) (Q E : Value → Shared → Prop) (news : List (Addr × Obj))
   (x : Str) (t1 : Tok) (hx : x.length ≤ 4000) (B : Below A₀ base outer h₀) (F : Fr h₀ L s.heap m) (X : (hd.heap_39 w.params).In h₀) (T : Top VV LL mean mg mb h₀) (hk : cs.kind = .function) (N : News h₀ L s.heap news) (hdp : dp + 8 < recursionLimit) (hun : un + 40 < cLine)
   (ret : ∀ (h' : Heap) (tk' : Nat) (t : Tok), Fr h₀ L h' m → News h₀ L h' news → s.heap.StaysIn h' → Q (.str (S (numberL x.cps.toList)) t) { s with heap := h', toks := tk' }) :
   wpAny (model PySem.Challenge.rw_mj0140_01.row.prog w) (ktrTop dp un gd cn cs L a ccd cl outer) (call (.ref 70) [.str x t1]) Q E s :=
  number_walk w dp un gd cn cs a ccd cl outer A₀ base h₀ L m mg mb mean s Q E x t1 hx B F X T hk hdp hun (fun h' tk' t st => ret h' tk' t (fr_on F st) (N.grown st) st)
end Mine
end
section
open PySem PySem.W PyProof.Rows PySem.Calls
set_option Elab.async false
set_option maxRecDepth 100000
namespace Mine
theorem shape4 {β : Type} {x y z x' : Str} {a b c d : β} (m : Str → Option β) (h1 : m x = some a) (h2 : m y = some b) (h3 : m z = some c) (h4 : m x' = some d) :
    m = fun u => if u = x then some a else if u = y then some b else if u = z then some c else if u = x' then some d else m u := by
  have q := shape3 m h2 h3 h4
  funext u
  by_cases e1 : u = x
  · subst e1; rw [if_pos rfl, h1]
  · rw [if_neg e1]; exact congrFun q u
noncomputable def ReadJ (DT DS l : Addr) (vs : List Value) (tl : List (Addr × Obj)) (toks : List (Int × List Nat)) (r : Option (List (List Nat))) (n : Nat) (m : Str → Option Value) (news : List (Addr × Obj)) : Prop :=
  ∃ (st : List Int) (vsS : List Value) (c1 : Nat) (place : Nat) (pt : Tok) (done : List (List Nat)) (cur : List Nat) (vsT : List Value) (c2 : Nat) (mr : Str → Option Value),
    news = (DT, W.listOf vsT.toArray c2) :: (DS, W.listOf vsS.toArray c1) :: (l, W.listOf vs.toArray 0) :: tl ∧
    m = (fun y => if y = Str.ofString "tokens" then some (Value.ref l) else if y = Str.ofString "stack" then some (Value.ref DS) else if y = Str.ofString "place" then some (Value.int (place : Int) pt) else if y = Str.ofString "told" then some (Value.ref DT) else mr y) ∧
    IntsAre vsS st.reverse ∧ StrsAre vsT ((done ++ [cur]).map S) ∧ runF n st (toks.drop place) done cur = some r ∧
    st.length + 5 * n ≤ 600000 ∧ done.length + n ≤ 600000 ∧ place + n ≤ 600000 ∧ (∀ d ∈ done ++ [cur], d.length + sumR (toks.drop place) ≤ 4000)
theorem readJ_start {DT DS l : Addr} {vs : List Value} {tl : List (Addr × Obj)} {toks : List (Int × List Nat)} {r : Option (List (List Nat))} {n : Nat} {first : Int} {ta tb tp tc : Tok} (m : Str → Option Value)
    (hr : runF n [first, 0] toks [] [] = some r) (hn : n ≤ 100000) (hs : sumR toks ≤ 4000)
    (h1 : m (Str.ofString "tokens") = some (.ref l)) (h2 : m (Str.ofString "stack") = some (.ref DS)) (h3 : m (Str.ofString "place") = some (.int 0 tp)) (h4 : m (Str.ofString "told") = some (.ref DT)) :
    ReadJ DT DS l vs tl toks r n m ((DT, W.listOf #[.str (Str.ofString "") tc] 0) :: (DS, W.listOf #[.int 0 ta, .int first tb] 0) :: (l, W.listOf vs.toArray 0) :: tl) :=
  ⟨[first, 0], [.int 0 ta, .int first tb], 0, 0, tp, [], [], [.str (Str.ofString "") tc], 0, m, rfl, shape4 m h1 h2 h3 h4, .cons _ _ (.cons _ _ .nil), by rw [lit_empty]; exact .cons _ _ .nil, hr, by simp only [List.length_cons, List.length_nil]; omega, by simp only [List.length_nil]; omega, by omega, by
    intro d hd; simp at hd; subst hd; simpa using hs⟩
theorem allLt_mem {d : Nat} {l : List (Addr × Obj)} (h : AllLt d l) : ∀ p ∈ l, @LT.lt Nat _ p.1 d := by
  induction l with
  | nil => intro p hp; exact absurd hp List.not_mem_nil
  | cons q r ih =>
    intro p hp
    rcases List.mem_cons.mp hp with rfl | hp
    · exact h.1
    · exact ih h.2 p hp
theorem off_two2 {a b : Nat} {x1 x2 y1 : Addr × Obj} {tl : List (Addr × Obj)} (h1 : ∀ p ∈ x1 :: x2 :: tl, p.1 < a) (h2 : ∀ p ∈ y1 :: tl, p.1 < b) : OwnOff tl [a, b] := by
  intro p hp c hc
  rcases List.mem_cons.mp hc with rfl | hc
  · exact Nat.ne_of_lt (h1 p (.tail _ (.tail _ hp)))
  · rw [List.mem_singleton.mp hc]; exact Nat.ne_of_lt (h2 p (.tail _ hp))
theorem off_two {a b : Addr} {tl : List (Addr × Obj)} (h1 : AllLt a tl) (h2 : AllLt b tl) : OwnOff tl [a, b] := by
  intro p hp c hc
  rcases List.mem_cons.mp hc with rfl | hc
  · exact Nat.ne_of_lt (allLt_mem h1 p hp)
  · rw [List.mem_singleton.mp hc]; exact Nat.ne_of_lt (allLt_mem h2 p hp)
theorem read_loop {prog : Program} {w : World} {A : Around} {E : Value → Shared → Prop} {Q : Flow → Shared → Prop} {s : Shared} {env : Env} {h₀ : Heap} {L : Addr} {test : Expr} {body : List Stmt} {pos : Pos} {m : Str → Option Value}
    {DT DS l : Addr} {oT oS : Obj} {vs : List Value} {tl : List (Addr × Obj)} (toks : List (Int × List Nat)) (r : Option (List (List Nat))) {n₀ : Nat}
    (F : Fr h₀ L s.heap m) (N : News h₀ L s.heap ((DT, oT) :: (DS, oS) :: (l, W.listOf vs.toArray 0) :: tl)) (hJ : ReadJ DT DS l vs tl toks r n₀ m ((DT, oT) :: (DS, oS) :: (l, W.listOf vs.toArray 0) :: tl))
    (turn : ∀ n m₁ news₁ h₁ tk₁, Fr h₀ L h₁ m₁ → News h₀ L h₁ news₁ → ReadJ DT DS l vs tl toks r n m₁ news₁ →
      wpAny (model prog w) A (isTrue test env (eval test env)) (fun b s₂ =>
        if b = true then wpAny (model prog w) A (execs body env) (WhileStep2 h₀ L s (ReadJ DT DS l vs tl toks r) Q n) E s₂ else Q .next s₂) E { s with heap := h₁, toks := tk₁ })
    (hE : PassesOwn (model prog w) A env E) :
    wpAny (model prog w) A (exec (.While test body [] pos) env) Q E s := While_inv2 (ReadJ DT DS l vs tl toks r) F N hJ turn hE
theorem news_in {h₀ h : Heap} {L : Addr} {a b c q : Addr × Obj} {tl : List (Addr × Obj)} (N : News h₀ L h (a :: b :: c :: tl)) (hq : q ∈ tl) : News h₀ L h (a :: b :: c :: q :: tl) := by
  intro p hp
  refine N p ?_
  simp only [List.mem_cons] at hp ⊢
  rcases hp with h | h | h | h | h
  · exact .inl h
  · exact .inr (.inl h)
  · exact .inr (.inr (.inl h))
  · subst h; exact .inr (.inr (.inr hq))
  · exact .inr (.inr (.inr h))
theorem off_ne {a b : Addr} {tl : List (Addr × Obj)} {q : Addr × Obj} (h : OwnOff tl [a, b]) (hq : q ∈ tl) : @Ne Nat q.1 a ∧ @Ne Nat q.1 b := ⟨h q hq a (.head _), h q hq b (.tail _ (.head _))⟩
end Mine
end
section
open PySem PySem.W PyProof.Rows PySem.Calls
set_option Elab.async false
set_option maxRecDepth 100000
namespace Mine
section
variable {prog : Program} {w : World} {A : Around} {E : Value → Shared → Prop} {s : Shared} {h₀ : Heap} {L D b : Addr} {m : Str → Option Value} {news news' : List (Addr × Obj)} {n n2 : Nat} {Q : Value → Shared → Prop}
theorem pop_snoc {p : List Value} {y : Value} (F : Fr h₀ L s.heap m) (N : News h₀ L s.heap news) (U : Upd D (W.listOf (p ++ [y]).toArray n) (W.listOf p.toArray (n + 1)) news news') (hz : p.length ≤ 700000)
    (h : ∀ h', Fr h₀ L h' m → News h₀ L h' news' → Q y { s with heap := h' }) : wpAny (model prog w) A (call (.builtin "list.pop") [.ref D]) Q E s :=
  kl_pop F N (kpa_last y p) U (by rw [sizeLine_eq]; show (p ++ [y]).length ≤ _; rw [List.length_append]; simp only [List.length_cons, List.length_nil]; omega) h
theorem extend_any {vs ws : List Value} {f : Nat → List (Addr × Obj)} (F : Fr h₀ L s.heap m) (N : News h₀ L s.heap news) (hb : (b, W.listOf ws.toArray n2) ∈ news) (U : ∀ n', Upd D (W.listOf vs.toArray n) (W.listOf (vs ++ ws).toArray n') news (f n'))
    (hz : vs.length ≤ 700000) (hz2 : ws.length ≤ 700000) (h : ∀ h' n', Fr h₀ L h' m → News h₀ L h' (f n') → Q .none { s with heap := h' }) : wpAny (model prog w) A (call (.builtin "list.extend") [.ref D, .ref b]) Q E s := by
  have hd : ¬(!vs.toArray.isEmpty && Builtin.List.listTooLong (vs.toArray.size + ws.toArray.size)) = true := by
    rw [List.size_toArray, List.size_toArray]
    have : Builtin.List.listTooLong (vs.length + ws.length) = false := by
      unfold Builtin.List.listTooLong
      rw [sizeLine_eq]; simp; omega
    rw [this]; simp
  by_cases hw : ws = []
  · subst hw
    have U' := U n
    rw [List.append_nil] at U'
    exact kxn_extend F N hb rfl U' hd (by rw [sizeLine_eq]; show vs.length ≤ _; omega) (by rw [List.size_toArray, sizeLine_eq]; simp; omega) fun h' F' N' => h h' n F' N'
  · exact kl_extend F N hb rfl (fun e => hw (List.length_eq_zero_iff.mp e)) (U (n + 1)) hd (by rw [sizeLine_eq]; show vs.length ≤ _; omega) (by rw [List.size_toArray, List.size_toArray, sizeLine_eq]; omega) fun h' F' N' => h h' (n + 1) F' N'
theorem item_at {value slice : PySem.Expr} {l : Addr} {vs : List Value} {k : Nat} {u : Tok} {v : Value}
    (N : News h₀ L s.heap news) (hl : (l, W.listOf vs.toArray n) ∈ news) (hk : k ≤ 700000) (hx : vs[k]? = some v) (h : Q v s)
    (hs : subscripted slice false (.ref l) (.int k u) = operate [.ref l, .int k u] (getItem (.ref l) (.int k u))) :
    wpAny (model prog w) A (subscriptTail value slice (.ref l) (.int (k : Int) u)) Q E s :=
  tail_any (N.isList hl).typeIs slot_list_getitem.lookup (wpAny_getItem_list (N.isList hl) (by omega) (by omega) (by simpa using hx) h) hs
end
end Mine
end
section
open PySem PySem.W PyProof.Rows PySem.Calls
set_option Elab.async false
set_option maxRecDepth 100000
set_option maxHeartbeats 8000000
namespace Mine
theorem isterm_call (w : World) (dp un : Nat) (gd : Option (List Code)) (cn : Str) (cs : Scope) (a : Addr) (ccd : Value) (cl : List (Str × Addr)) (outer : List Env) (A₀ : Around) (base h₀ : Heap) (L : Addr) (m mg mb : Str → Option Value) (mean : ExcName → Option Value) (s : Shared) (Q E : Value → Shared → Prop) (news : List (Addr × Obj))
   (x : Int) (t1 : Tok) (B : Below A₀ base outer h₀) (F : Fr h₀ L s.heap m) (X : (hd.heap_39 w.params).In h₀) (T : Top VV LL mean mg mb h₀) (hk : cs.kind = .function) (N : News h₀ L s.heap news) (hdp : dp + 8 < recursionLimit) (hun : un + 40 < cLine)
   (ret : ∀ (h' : Heap) (tk' : Nat), Fr h₀ L h' m → News h₀ L h' news → Q (.bool (decide (x < 256))) { s with heap := h', toks := tk' }) :
   wpAny (model PySem.Challenge.rw_mj0140_01.row.prog w) (ktrTop dp un gd cn cs L a ccd cl outer) (call (.ref 32) [.int x t1]) Q E s := by
  have ret' : ∀ (h' : Heap) (tk' : Nat) (b : Bool), b = decide (x < 256) → s.heap.StaysIn h' → Q (.bool b) { s with heap := h', toks := tk' } := by
    intro h' tk' b e st; subst e; exact ret h' tk' (fr_on F st) (N.grown st)
  revert X; k_fill; intro X
  refine wpAny_call ?_
  k_with_none; (k_with "ne" => (refine neN ?_; (try dsimp only); first | assumption | exact Ne.symm (by assumption) | exact And.left (by assumption) | exact And.right (by assumption) | exact Ne.symm (And.left (by assumption)) | exact Ne.symm (And.right (by assumption)) | ((refine' ne_lt ?hne ?mne); (case hne => assumption); (case mne => ((repeat (first | exact List.Mem.head _ | refine List.Mem.tail _ ?_)); done))) | ((refine' ne_gt ?hne ?mne); (case hne => assumption); (case mne => ((repeat (first | exact List.Mem.head _ | refine List.Mem.tail _ ?_)); done))) | ((refine' ne_all ?hne ?mne); (case hne => assumption); (case mne => ((repeat (first | exact List.Mem.head _ | refine List.Mem.tail _ ?_)); done))) | ((refine' ne_lla ?hne ?mne); (case hne => assumption); (case mne => ((repeat (first | exact List.Mem.head _ | refine List.Mem.tail _ ?_)); done))) | exact And.left (And.right (by assumption)) | exact And.right (And.right (by assumption)) | exact And.left (And.right (And.right (by assumption))) | exact And.right (And.right (And.right (by assumption))) | exact And.left (And.right (And.right (And.right (by assumption)))) | exact And.right (And.right (And.right (And.right (by assumption)))) | exact And.left (And.right (And.right (And.right (And.right (by assumption))))) | exact And.right (And.right (And.right (And.right (And.right (by assumption))))) | exact And.left (And.right (And.right (And.right (And.right (And.right (by assumption)))))) | exact And.right (And.right (And.right (And.right (And.right (And.right (by assumption)))))) | exact And.left (And.right (And.right (And.right (And.right (And.right (And.right (by assumption))))))) | exact And.right (And.right (And.right (And.right (And.right (And.right (And.right (by assumption))))))) | exact And.left (And.right (And.right (And.right (And.right (And.right (And.right (And.right (by assumption)))))))) | exact And.right (And.right (And.right (And.right (And.right (And.right (And.right (And.right (by assumption)))))))) | exact And.left (And.right (And.right (And.right (And.right (And.right (And.right (And.right (And.right (by assumption))))))))) | exact And.right (And.right (And.right (And.right (And.right (And.right (And.right (And.right (And.right (by assumption))))))))) | exact And.left (And.right (And.right (And.right (And.right (And.right (And.right (And.right (And.right (And.right (by assumption)))))))))) | exact And.right (And.right (And.right (And.right (And.right (And.right (And.right (And.right (And.right (And.right (by assumption)))))))))) | exact Ne.symm (And.left (And.right (by assumption))) | exact Ne.symm (And.right (And.right (by assumption))) | exact Ne.symm (And.left (And.right (And.right (by assumption)))) | exact Ne.symm (And.right (And.right (And.right (by assumption)))) | exact Ne.symm (And.left (And.right (And.right (And.right (by assumption))))) | exact Ne.symm (And.right (And.right (And.right (And.right (by assumption))))) | exact Ne.symm (And.left (And.right (And.right (And.right (And.right (by assumption)))))) | exact Ne.symm (And.right (And.right (And.right (And.right (And.right (by assumption)))))) | exact Ne.symm (And.left (And.right (And.right (And.right (And.right (And.right (by assumption))))))) | exact Ne.symm (And.right (And.right (And.right (And.right (And.right (And.right (by assumption))))))) | exact Ne.symm (And.left (And.right (And.right (And.right (And.right (And.right (And.right (by assumption)))))))) | exact Ne.symm (And.right (And.right (And.right (And.right (And.right (And.right (And.right (by assumption)))))))) | exact Ne.symm (And.left (And.right (And.right (And.right (And.right (And.right (And.right (And.right (by assumption))))))))) | exact Ne.symm (And.right (And.right (And.right (And.right (And.right (And.right (And.right (And.right (by assumption))))))))) | exact Ne.symm (And.left (And.right (And.right (And.right (And.right (And.right (And.right (And.right (And.right (by assumption)))))))))) | exact Ne.symm (And.right (And.right (And.right (And.right (And.right (And.right (And.right (And.right (And.right (by assumption)))))))))) | exact Ne.symm (And.left (And.right (And.right (And.right (And.right (And.right (And.right (And.right (And.right (And.right (by assumption))))))))))) | exact Ne.symm (And.right (And.right (And.right (And.right (And.right (And.right (And.right (And.right (And.right (And.right (by assumption))))))))))) | ((repeat (rename ∀ _ ∈ _, _ => hk9; replace hk9 := allLt_of hk9; simp only [AllLt, and_true] at hk9)); omega))); (k_with "lt" => (refine ltN ?_; (try dsimp only); first | assumption | ((refine' lt_mem ?hlt ?mlt); (case hlt => assumption); (case mlt => ((repeat (first | exact List.Mem.head _ | refine List.Mem.tail _ ?_)); done))) | omega)); (k_with "room" => ((try simp only [depth_under_make, depth_under_kw, depth_in1, depth_deeper, depth_caller]); (try dsimp only [ktrTop]); first | exact room2 (by assumption) (by decide) | exact room1 (by assumption) (by decide) | exact room3 (by assumption) (by decide) | exact room0 (by assumption))); (k_with "units" => ((try simp only [units_in1, units_deeper, Around.mark_units, units_caller]); (try dsimp only [ktrTop]); first | exact room2 (by assumption) (by decide) | exact room1 (by assumption) (by decide) | exact room3 (by assumption) (by decide) | exact room0 (by assumption))); w_top off; w_strict ((k_dflt (refine' code_pure ?k1 ?k2 ?k3 ?k5 ?kA ?kF ?kK ?k6 ?k7 ?k8 ?k9 ?kB ?_ ?c2 ?c3 ?c4 ?c5; (case kA => exact rfl); (case kF => exact rfl); (case kK => assumption); (case k1 => k_asm); (case k2 => k_asm); (case k3 => k_asm); (case k5 => k_asm); (case k6 => k_is); (case k7 => k_is); (case k8 => ktr_room); (case k9 => exact BindsTo.of_eq rfl); (case c5 => decide); (case kB => exact locs rfl); (case c2 => exact rfl); (case c3 => exact rfl); (case c4 => exact rfl); k_whole; intro L' h' F' N' B' X' T'; (try dsimp only); (try k_fold))); (replace F' : Fr s.heap L' h' (fun y => List.lookup y [(Str.ofString "x", Value.int x t1)]) := F'); k_steps; (all_goals ((try k_unfold); (try dsimp only); refine ret' _ _ _ ?_ (Fr.keep (by assumption)))); (all_goals first | rfl | (simp; done) | (simp; omega)))
theorem isnont_call (w : World) (dp un : Nat) (gd : Option (List Code)) (cn : Str) (cs : Scope) (a : Addr) (ccd : Value) (cl : List (Str × Addr)) (outer : List Env) (A₀ : Around) (base h₀ : Heap) (L : Addr) (m mg mb : Str → Option Value) (mean : ExcName → Option Value) (s : Shared) (Q E : Value → Shared → Prop) (news : List (Addr × Obj))
   (x : Int) (t1 : Tok) (B : Below A₀ base outer h₀) (F : Fr h₀ L s.heap m) (X : (hd.heap_39 w.params).In h₀) (T : Top VV LL mean mg mb h₀) (hk : cs.kind = .function) (N : News h₀ L s.heap news) (hdp : dp + 8 < recursionLimit) (hun : un + 40 < cLine)
   (ret : ∀ (h' : Heap) (tk' : Nat), Fr h₀ L h' m → News h₀ L h' news → Q (.bool (decide (256 ≤ x))) { s with heap := h', toks := tk' }) :
   wpAny (model PySem.Challenge.rw_mj0140_01.row.prog w) (ktrTop dp un gd cn cs L a ccd cl outer) (call (.ref 39) [.int x t1]) Q E s := by
  have ret' : ∀ (h' : Heap) (tk' : Nat) (b : Bool), b = decide (256 ≤ x) → s.heap.StaysIn h' → Q (.bool b) { s with heap := h', toks := tk' } := by
    intro h' tk' b e st; subst e; exact ret h' tk' (fr_on F st) (N.grown st)
  revert X; k_fill; intro X
  refine wpAny_call ?_
  k_with_none; (k_with "ne" => (refine neN ?_; (try dsimp only); first | assumption | exact Ne.symm (by assumption) | exact And.left (by assumption) | exact And.right (by assumption) | exact Ne.symm (And.left (by assumption)) | exact Ne.symm (And.right (by assumption)) | ((refine' ne_lt ?hne ?mne); (case hne => assumption); (case mne => ((repeat (first | exact List.Mem.head _ | refine List.Mem.tail _ ?_)); done))) | ((refine' ne_gt ?hne ?mne); (case hne => assumption); (case mne => ((repeat (first | exact List.Mem.head _ | refine List.Mem.tail _ ?_)); done))) | ((refine' ne_all ?hne ?mne); (case hne => assumption); (case mne => ((repeat (first | exact List.Mem.head _ | refine List.Mem.tail _ ?_)); done))) | ((refine' ne_lla ?hne ?mne); (case hne => assumption); (case mne => ((repeat (first | exact List.Mem.head _ | refine List.Mem.tail _ ?_)); done))) | exact And.left (And.right (by assumption)) | exact And.right (And.right (by assumption)) | exact And.left (And.right (And.right (by assumption))) | exact And.right (And.right (And.right (by assumption))) | exact And.left (And.right (And.right (And.right (by assumption)))) | exact And.right (And.right (And.right (And.right (by assumption)))) | exact And.left (And.right (And.right (And.right (And.right (by assumption))))) | exact And.right (And.right (And.right (And.right (And.right (by assumption))))) | exact And.left (And.right (And.right (And.right (And.right (And.right (by assumption)))))) | exact And.right (And.right (And.right (And.right (And.right (And.right (by assumption)))))) | exact And.left (And.right (And.right (And.right (And.right (And.right (And.right (by assumption))))))) | exact And.right (And.right (And.right (And.right (And.right (And.right (And.right (by assumption))))))) | exact And.left (And.right (And.right (And.right (And.right (And.right (And.right (And.right (by assumption)))))))) | exact And.right (And.right (And.right (And.right (And.right (And.right (And.right (And.right (by assumption)))))))) | exact And.left (And.right (And.right (And.right (And.right (And.right (And.right (And.right (And.right (by assumption))))))))) | exact And.right (And.right (And.right (And.right (And.right (And.right (And.right (And.right (And.right (by assumption))))))))) | exact And.left (And.right (And.right (And.right (And.right (And.right (And.right (And.right (And.right (And.right (by assumption)))))))))) | exact And.right (And.right (And.right (And.right (And.right (And.right (And.right (And.right (And.right (And.right (by assumption)))))))))) | exact Ne.symm (And.left (And.right (by assumption))) | exact Ne.symm (And.right (And.right (by assumption))) | exact Ne.symm (And.left (And.right (And.right (by assumption)))) | exact Ne.symm (And.right (And.right (And.right (by assumption)))) | exact Ne.symm (And.left (And.right (And.right (And.right (by assumption))))) | exact Ne.symm (And.right (And.right (And.right (And.right (by assumption))))) | exact Ne.symm (And.left (And.right (And.right (And.right (And.right (by assumption)))))) | exact Ne.symm (And.right (And.right (And.right (And.right (And.right (by assumption)))))) | exact Ne.symm (And.left (And.right (And.right (And.right (And.right (And.right (by assumption))))))) | exact Ne.symm (And.right (And.right (And.right (And.right (And.right (And.right (by assumption))))))) | exact Ne.symm (And.left (And.right (And.right (And.right (And.right (And.right (And.right (by assumption)))))))) | exact Ne.symm (And.right (And.right (And.right (And.right (And.right (And.right (And.right (by assumption)))))))) | exact Ne.symm (And.left (And.right (And.right (And.right (And.right (And.right (And.right (And.right (by assumption))))))))) | exact Ne.symm (And.right (And.right (And.right (And.right (And.right (And.right (And.right (And.right (by assumption))))))))) | exact Ne.symm (And.left (And.right (And.right (And.right (And.right (And.right (And.right (And.right (And.right (by assumption)))))))))) | exact Ne.symm (And.right (And.right (And.right (And.right (And.right (And.right (And.right (And.right (And.right (by assumption)))))))))) | exact Ne.symm (And.left (And.right (And.right (And.right (And.right (And.right (And.right (And.right (And.right (And.right (by assumption))))))))))) | exact Ne.symm (And.right (And.right (And.right (And.right (And.right (And.right (And.right (And.right (And.right (And.right (by assumption))))))))))) | ((repeat (rename ∀ _ ∈ _, _ => hk9; replace hk9 := allLt_of hk9; simp only [AllLt, and_true] at hk9)); omega))); (k_with "lt" => (refine ltN ?_; (try dsimp only); first | assumption | ((refine' lt_mem ?hlt ?mlt); (case hlt => assumption); (case mlt => ((repeat (first | exact List.Mem.head _ | refine List.Mem.tail _ ?_)); done))) | omega)); (k_with "room" => ((try simp only [depth_under_make, depth_under_kw, depth_in1, depth_deeper, depth_caller]); (try dsimp only [ktrTop]); first | exact room2 (by assumption) (by decide) | exact room1 (by assumption) (by decide) | exact room3 (by assumption) (by decide) | exact room0 (by assumption))); (k_with "units" => ((try simp only [units_in1, units_deeper, Around.mark_units, units_caller]); (try dsimp only [ktrTop]); first | exact room2 (by assumption) (by decide) | exact room1 (by assumption) (by decide) | exact room3 (by assumption) (by decide) | exact room0 (by assumption))); w_top off; w_strict ((k_dflt (refine' code_pure ?k1 ?k2 ?k3 ?k5 ?kA ?kF ?kK ?k6 ?k7 ?k8 ?k9 ?kB ?_ ?c2 ?c3 ?c4 ?c5; (case kA => exact rfl); (case kF => exact rfl); (case kK => assumption); (case k1 => k_asm); (case k2 => k_asm); (case k3 => k_asm); (case k5 => k_asm); (case k6 => k_is); (case k7 => k_is); (case k8 => ktr_room); (case k9 => exact BindsTo.of_eq rfl); (case c5 => decide); (case kB => exact locs rfl); (case c2 => exact rfl); (case c3 => exact rfl); (case c4 => exact rfl); k_whole; intro L' h' F' N' B' X' T'; (try dsimp only); (try k_fold))); (replace F' : Fr s.heap L' h' (fun y => List.lookup y [(Str.ofString "x", Value.int x t1)]) := F'); k_steps; (all_goals ((try k_unfold); (try dsimp only); refine ret' _ _ _ ?_ (Fr.keep (by assumption)))); (all_goals first | rfl | (simp; done) | (simp; omega)))
theorem iseof_call (w : World) (dp un : Nat) (gd : Option (List Code)) (cn : Str) (cs : Scope) (a : Addr) (ccd : Value) (cl : List (Str × Addr)) (outer : List Env) (A₀ : Around) (base h₀ : Heap) (L : Addr) (m mg mb : Str → Option Value) (mean : ExcName → Option Value) (s : Shared) (Q E : Value → Shared → Prop) (news : List (Addr × Obj))
   (x : Int) (t1 : Tok) (B : Below A₀ base outer h₀) (F : Fr h₀ L s.heap m) (X : (hd.heap_39 w.params).In h₀) (T : Top VV LL mean mg mb h₀) (hk : cs.kind = .function) (N : News h₀ L s.heap news) (hdp : dp + 8 < recursionLimit) (hun : un + 40 < cLine)
   (ret : ∀ (h' : Heap) (tk' : Nat), Fr h₀ L h' m → News h₀ L h' news → Q (.bool (decide (x = 0))) { s with heap := h', toks := tk' }) :
   wpAny (model PySem.Challenge.rw_mj0140_01.row.prog w) (ktrTop dp un gd cn cs L a ccd cl outer) (call (.ref 46) [.int x t1]) Q E s := by
  have ret' : ∀ (h' : Heap) (tk' : Nat) (b : Bool), b = decide (x = 0) → s.heap.StaysIn h' → Q (.bool b) { s with heap := h', toks := tk' } := by
    intro h' tk' b e st; subst e; exact ret h' tk' (fr_on F st) (N.grown st)
  revert X; k_fill; intro X
  refine wpAny_call ?_
  k_with_none; (k_with "ne" => (refine neN ?_; (try dsimp only); first | assumption | exact Ne.symm (by assumption) | exact And.left (by assumption) | exact And.right (by assumption) | exact Ne.symm (And.left (by assumption)) | exact Ne.symm (And.right (by assumption)) | ((refine' ne_lt ?hne ?mne); (case hne => assumption); (case mne => ((repeat (first | exact List.Mem.head _ | refine List.Mem.tail _ ?_)); done))) | ((refine' ne_gt ?hne ?mne); (case hne => assumption); (case mne => ((repeat (first | exact List.Mem.head _ | refine List.Mem.tail _ ?_)); done))) | ((refine' ne_all ?hne ?mne); (case hne => assumption); (case mne => ((repeat (first | exact List.Mem.head _ | refine List.Mem.tail _ ?_)); done))) | ((refine' ne_lla ?hne ?mne); (case hne => assumption); (case mne => ((repeat (first | exact List.Mem.head _ | refine List.Mem.tail _ ?_)); done))) | exact And.left (And.right (by assumption)) | exact And.right (And.right (by assumption)) | exact And.left (And.right (And.right (by assumption))) | exact And.right (And.right (And.right (by assumption))) | exact And.left (And.right (And.right (And.right (by assumption)))) | exact And.right (And.right (And.right (And.right (by assumption)))) | exact And.left (And.right (And.right (And.right (And.right (by assumption))))) | exact And.right (And.right (And.right (And.right (And.right (by assumption))))) | exact And.left (And.right (And.right (And.right (And.right (And.right (by assumption)))))) | exact And.right (And.right (And.right (And.right (And.right (And.right (by assumption)))))) | exact And.left (And.right (And.right (And.right (And.right (And.right (And.right (by assumption))))))) | exact And.right (And.right (And.right (And.right (And.right (And.right (And.right (by assumption))))))) | exact And.left (And.right (And.right (And.right (And.right (And.right (And.right (And.right (by assumption)))))))) | exact And.right (And.right (And.right (And.right (And.right (And.right (And.right (And.right (by assumption)))))))) | exact And.left (And.right (And.right (And.right (And.right (And.right (And.right (And.right (And.right (by assumption))))))))) | exact And.right (And.right (And.right (And.right (And.right (And.right (And.right (And.right (And.right (by assumption))))))))) | exact And.left (And.right (And.right (And.right (And.right (And.right (And.right (And.right (And.right (And.right (by assumption)))))))))) | exact And.right (And.right (And.right (And.right (And.right (And.right (And.right (And.right (And.right (And.right (by assumption)))))))))) | exact Ne.symm (And.left (And.right (by assumption))) | exact Ne.symm (And.right (And.right (by assumption))) | exact Ne.symm (And.left (And.right (And.right (by assumption)))) | exact Ne.symm (And.right (And.right (And.right (by assumption)))) | exact Ne.symm (And.left (And.right (And.right (And.right (by assumption))))) | exact Ne.symm (And.right (And.right (And.right (And.right (by assumption))))) | exact Ne.symm (And.left (And.right (And.right (And.right (And.right (by assumption)))))) | exact Ne.symm (And.right (And.right (And.right (And.right (And.right (by assumption)))))) | exact Ne.symm (And.left (And.right (And.right (And.right (And.right (And.right (by assumption))))))) | exact Ne.symm (And.right (And.right (And.right (And.right (And.right (And.right (by assumption))))))) | exact Ne.symm (And.left (And.right (And.right (And.right (And.right (And.right (And.right (by assumption)))))))) | exact Ne.symm (And.right (And.right (And.right (And.right (And.right (And.right (And.right (by assumption)))))))) | exact Ne.symm (And.left (And.right (And.right (And.right (And.right (And.right (And.right (And.right (by assumption))))))))) | exact Ne.symm (And.right (And.right (And.right (And.right (And.right (And.right (And.right (And.right (by assumption))))))))) | exact Ne.symm (And.left (And.right (And.right (And.right (And.right (And.right (And.right (And.right (And.right (by assumption)))))))))) | exact Ne.symm (And.right (And.right (And.right (And.right (And.right (And.right (And.right (And.right (And.right (by assumption)))))))))) | exact Ne.symm (And.left (And.right (And.right (And.right (And.right (And.right (And.right (And.right (And.right (And.right (by assumption))))))))))) | exact Ne.symm (And.right (And.right (And.right (And.right (And.right (And.right (And.right (And.right (And.right (And.right (by assumption))))))))))) | ((repeat (rename ∀ _ ∈ _, _ => hk9; replace hk9 := allLt_of hk9; simp only [AllLt, and_true] at hk9)); omega))); (k_with "lt" => (refine ltN ?_; (try dsimp only); first | assumption | ((refine' lt_mem ?hlt ?mlt); (case hlt => assumption); (case mlt => ((repeat (first | exact List.Mem.head _ | refine List.Mem.tail _ ?_)); done))) | omega)); (k_with "room" => ((try simp only [depth_under_make, depth_under_kw, depth_in1, depth_deeper, depth_caller]); (try dsimp only [ktrTop]); first | exact room2 (by assumption) (by decide) | exact room1 (by assumption) (by decide) | exact room3 (by assumption) (by decide) | exact room0 (by assumption))); (k_with "units" => ((try simp only [units_in1, units_deeper, Around.mark_units, units_caller]); (try dsimp only [ktrTop]); first | exact room2 (by assumption) (by decide) | exact room1 (by assumption) (by decide) | exact room3 (by assumption) (by decide) | exact room0 (by assumption))); w_top off; w_strict ((k_dflt (refine' code_pure ?k1 ?k2 ?k3 ?k5 ?kA ?kF ?kK ?k6 ?k7 ?k8 ?k9 ?kB ?_ ?c2 ?c3 ?c4 ?c5; (case kA => exact rfl); (case kF => exact rfl); (case kK => assumption); (case k1 => k_asm); (case k2 => k_asm); (case k3 => k_asm); (case k5 => k_asm); (case k6 => k_is); (case k7 => k_is); (case k8 => ktr_room); (case k9 => exact BindsTo.of_eq rfl); (case c5 => decide); (case kB => exact locs rfl); (case c2 => exact rfl); (case c3 => exact rfl); (case c4 => exact rfl); k_whole; intro L' h' F' N' B' X' T'; (try dsimp only); (try k_fold))); (replace F' : Fr s.heap L' h' (fun y => List.lookup y [(Str.ofString "x", Value.int x t1)]) := F'); k_steps; (all_goals ((try k_unfold); (try dsimp only); refine ret' _ _ _ ?_ (Fr.keep (by assumption)))); (all_goals first | rfl | (simp; done) | (simp; omega)))
end Mine
end
section
open PySem PySem.W PyProof.Rows PySem.Calls
set_option Elab.async false
set_option maxRecDepth 100000
namespace Mine
theorem setL_snoc (y v : Value) : ∀ p : List Value, ki_setL (p ++ [y]) p.length v = some (p ++ [v])
  | [] => rfl
  | x :: p => by
    show ki_setL (x :: (p ++ [y])) (p.length + 1) v = _
    unfold ki_setL
    rw [setL_snoc y v p]; rfl
section
variable {prog : Program} {w : World} {A : Around} {E : Value → Shared → Prop} {s : Shared} {h₀ : Heap} {L D b : Addr} {m : Str → Option Value} {news news' : List (Addr × Obj)} {n n2 : Nat}
theorem last_get {p : List Value} {y : Value} {t : Tok} {Q : Value → Shared → Prop} (N : News h₀ L s.heap news) (hm : (D, W.listOf (p ++ [y]).toArray n) ∈ news) (h : Q y s) : wpAny (model prog w) A (getItem (.ref D) (.int (-1) t)) Q E s :=
  wpAny_getItem_list_neg (N.isList hm) (by decide) (by rw [List.size_toArray, List.length_append]; simp only [List.length_cons, List.length_nil]; omega) (by decide) (by
    have e : (-1 + ((p ++ [y]).toArray.size : Int)).toNat = p.length := by rw [List.size_toArray, List.length_append]; simp only [List.length_cons, List.length_nil]; omega
    rw [e]; simp) h
theorem last_set {p : List Value} {y v : Value} {t : Tok} {Q : Unit → Shared → Prop} (F : Fr h₀ L s.heap m) (N : News h₀ L s.heap news) (U : Upd D (W.listOf (p ++ [y]).toArray n) (W.listOf (p ++ [v]).toArray n) news news')
    (h : ∀ h', Fr h₀ L h' m → News h₀ L h' news' → Q () { s with heap := h' }) : wpAny (model prog w) A (setItem (.ref D) (.int (-1) t) v) Q E s :=
  ki_setNeg (j := p.length) F N (by decide) (by decide) (by
    have e : (p ++ [y]).toArray.size = p.length + 1 := by simp
    rw [e]
    rw [PySem.seqIndex_neg (by decide) (by omega)]; congr 1; omega) (setL_snoc y v p) U h
end
end Mine
end
section
open PySem PySem.W PyProof.Rows PySem.Calls PySem.Spec
set_option Elab.async false
set_option maxRecDepth 100000
namespace Mine
/-- the end of an element of a comprehension -/
structure EltEnd (d : PyData) (s₂ : Shared) (y : Value) (s₃ : Shared) : Prop where
  c : Carried y d
  k : Keeps s₂ s₃
section
variable {prog : Program} {w : World} {A : Around} {E : Value → Shared → Prop} {s : Shared} {h₀ : Heap} {L : Addr} {m : Str → Option Value} {env : Env} {news : List (Addr × Obj)}
/-- a comprehension without a test over a list of the ledger, its element any call -/
theorem comp_all {α : Type} (K : ItemKind α) {elt iter : Expr} {x : Str} {px : Pos} {scope : Scope} {cl : List (Str × Addr)} {pos : Pos} {Q : Value → Shared → Prop} (d : α → PyData) {ax : Addr} {vs : List Value} {as : List α} {n : Nat}
    (hh : A.handled = none) (hclos : closureFor scope env = pure cl) (hcell : ∀ y ∈ scope.names, y.2 ≠ .cell) (hkind : scope.kind = .function)
    (hnames : ∀ y ∈ scope.names, y.2 = .local → scope.names.lookup y.1 = some .local) (hx : scope.names.lookup x = some .local)
    (hit : ∀ Q' : Value → Shared → Prop, Q' (.ref ax) s → wpAny (model prog w) A (eval iter env) Q' E s)
    (hl : (ax, W.listOf vs.toArray n) ∈ news) (hA : AreOf K vs as) (hz : as.length ≤ 700000) (F : Fr h₀ L s.heap m) (N : News h₀ L s.heap news)
    (helt : ∀ C a v s₂ m₂ E', a ∈ as → K.is a v → s₂.heap.Ns (compEnvC scope cl C env).locals m₂ → m₂ x = some v → Fr h₀ L s₂.heap m → News h₀ L s₂.heap news →
        wpAny (model prog w) A (eval elt (compEnvC scope cl C env)) (fun y s₃ => EltEnd (d a) s₂ y s₃) E' s₂)
    (fin : ∀ D (ys : List Value) c h' tk, Fr h₀ L h' m → News h₀ L h' ((D, W.listOf ys.toArray c) :: news) → AllNe D news → CarriedAll ys (as.map d) → Q (.ref D) { s with heap := h', toks := tk })
    (hs : ∀ x, foldedSetIterable iter env x = pure x) :
    wpAny (model prog w) A (eval (.ListComp elt [⟨.Name x px, iter, [], 0⟩] scope pos) env) Q E s := by
  refine ListComp_DCn (K := K) (pz := fun _ => true) (d := d) (h₀ := h₀) (L := L) (m := m) hh hclos hcell hkind hnames hx (hit _ ⟨news, ax, vs, as, rfl, N.isList hl, hA, by rw [sizeLine_eq]; omega, F, N, ?_, ?_, ?_⟩) hs
  · intro C a v s₂ m₂ E' _ _ _ _ _ _
    exact wpAny_pure ⟨rfl, s₂.heap, s₂.toks, rfl, fun _ _ e => e⟩
  · intro C a v s₂ m₂ E' _ ha hv _ hn hm hk
    exact wpAny_mono (helt C a v s₂ m₂ E' ha hv hn hm (F.keeps hk) (N.grown hk)) (fun y s₃ q => ⟨q.c, q.k⟩) fun _ _ e => e
  · intro D ys h' tk F' N' hD _ hp hc
    obtain ⟨⟨c, hc'⟩, hne⟩ := id hp
    have e : (as.filter fun _ => true) = as := by simp
    rw [e] at hc
    refine fin D ys c h' tk F' ?_ (allNe_of hne) hc
    intro p hpm
    rcases List.mem_cons.mp hpm with rfl | hpm
    · exact ⟨hc', hp.ne_locals F', hD⟩
    · exact N' p hpm
end
theorem strs_of_carried {ys : List Value} {zs : List Str} (h : CarriedAll ys (zs.map PyData.str)) : StrsAre ys zs := StrsAre.of_carried h
end Mine
end
section
open PySem PySem.W PyProof.Rows PySem.Calls PySem.Spec
set_option Elab.async false
set_option maxRecDepth 100000
namespace Mine
theorem drop_next {toks : List (Int × List Nat)} {p : Nat} {k : Int} {part : List Nat} {rest : List (Int × List Nat)} (h : toks.drop p = (k, part) :: rest) : toks.drop (p + 1) = rest := by
  have : toks.drop (p + 1) = (toks.drop p).drop 1 := by rw [List.drop_drop]
  rw [this, h]; rfl
theorem sum_next {k : Int} {part : List Nat} {rest : List (Int × List Nat)} : sumR ((k, part) :: rest) = part.length + sumR rest := by simp [sumR]
section
variable {DT DS l : Addr} {vs : List Value} {tl : List (Addr × Obj)} {toks : List (Int × List Nat)} {r : Option (List (List Nat))} {n : Nat} {h₀ : Heap} {L : Addr} {s : Shared} {Q : Flow → Shared → Prop}
theorem read_next {n' : Nat} {st : List Int} {vsS : List Value} {c1 place : Nat} {pt : Tok} {done : List (List Nat)} {cur : List Nat} {vsT : List Value} {c2 : Nat} {m₂ : Str → Option Value} {news' : List (Addr × Obj)} {h' : Heap} {tk : Nat}
    (hn : n = n' + 1) (hr : runF n' st (toks.drop place) done cur = some r) (F : Fr h₀ L h' m₂) (N : News h₀ L h' news')
    (m1 : m₂ (Str.ofString "tokens") = some (.ref l)) (m2 : m₂ (Str.ofString "stack") = some (.ref DS)) (m3 : m₂ (Str.ofString "place") = some (.int (place : Int) pt)) (m4 : m₂ (Str.ofString "told") = some (.ref DT))
    (h1 : (DT, W.listOf vsT.toArray c2) ∈ news') (h2 : (DS, W.listOf vsS.toArray c1) ∈ news') (h3 : (l, W.listOf vs.toArray 0) ∈ news') (h4 : ∀ p ∈ tl, p ∈ news')
    (hS : IntsAre vsS st.reverse) (hT : StrsAre vsT ((done ++ [cur]).map S)) (b1 : st.length + 5 * n' ≤ 600000) (b2 : done.length + n' ≤ 600000) (b3 : place + n' ≤ 600000) (b4 : ∀ d ∈ done ++ [cur], d.length + sumR (toks.drop place) ≤ 4000) :
    WhileStep2 h₀ L s (ReadJ DT DS l vs tl toks r) Q n .next { s with heap := h', toks := tk } := by
  refine ⟨h', tk, m₂, (DT, W.listOf vsT.toArray c2) :: (DS, W.listOf vsS.toArray c1) :: (l, W.listOf vs.toArray 0) :: tl, n', rfl, F, ?_, by omega, st, vsS, c1, place, pt, done, cur, vsT, c2, m₂, rfl, shape4 m₂ m1 m2 m3 m4, hS, hT, hr, b1, b2, b3, b4⟩
  intro p hp
  refine N p ?_
  rcases List.mem_cons.mp hp with rfl | hp
  · exact h1
  · rcases List.mem_cons.mp hp with rfl | hp
    · exact h2
    · rcases List.mem_cons.mp hp with rfl | hp
      · exact h3
      · exact h4 p hp
end
theorem told_dot {vsT : List Value} {done : List (List Nat)} {cur : List Nat} {t : Tok} (h : StrsAre vsT ((done ++ [cur]).map S)) : StrsAre (vsT ++ [.str (Str.ofString "") t]) (((done ++ [cur]) ++ [[]]).map S) := by
  rw [List.map_append (l₁ := done ++ [cur])]
  refine strs_app h ?_
  rw [lit_empty]
  exact .cons _ _ .nil
theorem told_part {vsT : List Value} {done : List (List Nat)} {cur part : List Nat} {t : Tok} {y : Str} (h : StrsAre vsT (done.map S)) (hy : y = S (cur ++ part)) : StrsAre (vsT ++ [.str y t]) ((done ++ [cur ++ part]).map S) := by
  subst hy
  rw [List.map_append]
  exact strs_app h (.cons _ _ .nil)
theorem bound_dot {toks : List (Int × List Nat)} {p : Nat} {k : Int} {part : List Nat} {rest : List (Int × List Nat)} {done : List (List Nat)} {cur : List Nat} (h : toks.drop p = (k, part) :: rest)
    (hb : ∀ d ∈ done ++ [cur], d.length + sumR (toks.drop p) ≤ 4000) : ∀ d ∈ (done ++ [cur]) ++ [[]], d.length + sumR (toks.drop (p + 1)) ≤ 4000 := by
  have h0 := hb cur (List.mem_append.mpr (.inr (.head _)))
  rw [drop_next h]
  rw [h, sum_next] at hb h0
  intro d hd
  rcases List.mem_append.mp hd with hd | hd
  · have := hb d hd; omega
  · rw [List.mem_singleton.mp hd]; simp only [List.length_nil]; omega
theorem bound_part {toks : List (Int × List Nat)} {p : Nat} {k : Int} {part : List Nat} {rest : List (Int × List Nat)} {done : List (List Nat)} {cur : List Nat} (h : toks.drop p = (k, part) :: rest)
    (hb : ∀ d ∈ done ++ [cur], d.length + sumR (toks.drop p) ≤ 4000) : ∀ d ∈ done ++ [cur ++ part], d.length + sumR (toks.drop (p + 1)) ≤ 4000 := by
  have h0 := hb cur (List.mem_append.mpr (.inr (.head _)))
  rw [drop_next h]
  rw [h, sum_next] at hb h0
  intro d hd
  rcases List.mem_append.mp hd with hd | hd
  · have := hb d (List.mem_append.mpr (.inl hd)); omega
  · rw [List.mem_singleton.mp hd, List.length_append]; omega
theorem told_len {toks : List (Int × List Nat)} {p : Nat} {done : List (List Nat)} {cur : List Nat} {a : Str} (hb : ∀ d ∈ done ++ [cur], d.length + sumR (toks.drop p) ≤ 4000) (ha : a ∈ (done ++ [cur]).map S) : a.length ≤ 4000 := by
  obtain ⟨d, hd, rfl⟩ := List.mem_map.mp ha
  have := hb d hd
  have e : (S d).length = d.length := by rw [← len_toList, S_cps]
  omega
theorem cur_len {toks : List (Int × List Nat)} {p : Nat} {done : List (List Nat)} {cur : List Nat} (hb : ∀ d ∈ done ++ [cur], d.length + sumR (toks.drop p) ≤ 4000) : (S cur).length ≤ 4000 := by
  have := hb cur (List.mem_append.mpr (.inr (.head _)))
  have e : (S cur).length = cur.length := by rw [← len_toList, S_cps]
  omega
theorem part_len {toks : List (Int × List Nat)} {p : Nat} {k : Int} {part : List Nat} {rest : List (Int × List Nat)} {done : List (List Nat)} {cur : List Nat} (h : toks.drop p = (k, part) :: rest)
    (hb : ∀ d ∈ done ++ [cur], d.length + sumR (toks.drop p) ≤ 4000) : (S part).length ≤ 4000 := by
  have := hb cur (List.mem_append.mpr (.inr (.head _)))
  rw [h, sum_next] at this
  have e : (S part).length = part.length := by rw [← len_toList, S_cps]
  omega
theorem S_append (a b : List Nat) : S a ++ S b = S (a ++ b) := str_eq (by rw [append_toList])
theorem stack_rule {vs ws : List Value} {a st : List Int} (h1 : IntsAre vs st.reverse) (h2 : IntsAre ws a) : IntsAre (vs ++ ws.reverse) (a ++ st).reverse := by
  rw [List.reverse_append]
  exact ints_app h1 (ints_rev h2)
theorem told_num {ys : List Value} {ts : List (List Nat)} (h : CarriedAll ys ((ts.map S).map (fun a => PyData.str (S (numberL a.cps.toList))))) : StrsAre ys (ts.map fun d => S (numberL d)) := by
  refine StrsAre.of_carried ?_
  rw [List.map_map] at h ⊢
  exact h
/-- the word of the reader's loop taken apart at once -/
@[elab_as_elim] theorem readJ_turn {DT DS l : Addr} {vs : List Value} {tl : List (Addr × Obj)} {toks : List (Int × List Nat)} {r : Option (List (List Nat))} {n : Nat} {m : Str → Option Value} {news : List (Addr × Obj)}
    {C : Nat → (Str → Option Value) → List (Addr × Obj) → Prop} (h : ReadJ DT DS l vs tl toks r n m news) (ht : TokIn tl vs toks)
    (c0 : ∀ (c1 place : Nat) (pt : Tok) (vsT : List Value) (c2 : Nat) (mr : Str → Option Value), r = none →
      C n (fun y => if y = Str.ofString "tokens" then some (Value.ref l) else if y = Str.ofString "stack" then some (Value.ref DS) else if y = Str.ofString "place" then some (Value.int (place : Int) pt) else if y = Str.ofString "told" then some (Value.ref DT) else mr y) ((DT, W.listOf vsT.toArray c2) :: (DS, W.listOf ([] : List Value).toArray c1) :: (l, W.listOf vs.toArray 0) :: tl))
    (c1 : ∀ (n' : Nat) (top : Int) (st' : List Int) (kind : Int) (part : List Nat) (rest : List (Int × List Nat)) (vs' : List Value) (tt : Tok) (c1 place : Nat) (pt : Tok) (done : List (List Nat)) (cur : List Nat) (vsT' : List Value) (tt' : Tok) (c2 : Nat) (mr : Str → Option Value) (b : Addr) (ta tb : Tok) (nb : Nat),
      toks.drop place = (kind, part) :: rest → IntsAre vs' st'.reverse → StrsAre (vsT' ++ [.str (S cur) tt']) ((done ++ [cur]).map S) → StrsAre vsT' (done.map S) → runF (n' + 1) (top :: st') ((kind, part) :: rest) done cur = some r →
      st'.length + 1 + 5 * (n' + 1) ≤ 600000 → done.length + (n' + 1) ≤ 600000 → place + (n' + 1) ≤ 600000 → (∀ d ∈ done ++ [cur], d.length + sumR (toks.drop place) ≤ 4000) → vs[place]? = some (.ref b) → (b, tokObj kind ta part tb nb) ∈ tl →
      vs'.length = st'.length → vsT'.length = done.length →
      C (n' + 1) (fun y => if y = Str.ofString "tokens" then some (Value.ref l) else if y = Str.ofString "stack" then some (Value.ref DS) else if y = Str.ofString "place" then some (Value.int (place : Int) pt) else if y = Str.ofString "told" then some (Value.ref DT) else mr y) ((DT, W.listOf (vsT' ++ [Value.str (S cur) tt']).toArray c2) :: (DS, W.listOf (vs' ++ [Value.int top tt]).toArray c1) :: (l, W.listOf vs.toArray 0) :: tl)) : C n m news := by
  obtain ⟨st, vsS, q1, place, pt, done, cur, vsT, q2, mr, en, em, hS, hT, hr, hb1, hb2, hb3, hb4⟩ := h
  rcases run_open hr with ⟨es, e⟩ | ⟨n', top, st', kind, part, rest, e1, e2, hrest⟩
  · rw [es, List.reverse_nil] at hS
    have ev : vsS = [] := by cases hS; rfl
    rw [en, em, ev]
    exact c0 q1 place pt vsT q2 mr e
  · rw [e2, List.reverse_cons] at hS
    obtain ⟨vs', tt, ev, hS'⟩ := ints_snoc hS
    obtain ⟨b, ta, tb, nb, hvb, hmb⟩ := tokIn_at ht hrest
    have hT' := hT
    rw [List.map_append] at hT'
    obtain ⟨vsT', tt', et, hT''⟩ := strs_snoc hT'
    have hlS := IntsAre.length hS'
    rw [List.length_reverse] at hlS
    have hlT := strs_len hT''
    rw [List.length_map] at hlT
    rw [e1, e2, hrest] at hr
    rw [e1, e2, List.length_cons] at hb1
    rw [e1] at hb2 hb3
    rw [et] at hT
    rw [en, em, ev, et, e1]
    exact c1 n' top st' kind part rest vs' tt q1 place pt done cur vsT' tt' q2 mr b ta tb nb hrest hS' hT hT'' hr hb1 hb2 hb3 hb4 hvb hmb hlS hlT
end Mine
end
section
open PySem PySem.W PyProof.Rows PySem.Calls
set_option Elab.async false
set_option maxRecDepth 100000
set_option maxHeartbeats 8000000
namespace Mine
theorem read_walk (w : World) (dp un : Nat) (gd : Option (List Code)) (cn : Str) (cs : Scope) (a : Addr) (ccd : Value) (cl : List (Str × Addr)) (outer : List Env) (A₀ : Around) (base h₀ : Heap) (L : Addr) (m mg mb : Str → Option Value) (mean : ExcName → Option Value) (s : Shared) (Q E : Value → Shared → Prop)
   (x : Str) (t1 : Tok) (first : Int) (t2 : Tok) (hx : x.length ≤ 4000) (n0 : Nat) (r : Option (List (List Nat))) (hn0 : n0 ≤ 100000) (hr0 : runF n0 [first, 0] (tokensL x.cps.toList) [] [] = some r) (hs0 : sumR (tokensL x.cps.toList) ≤ 4000)
   (B : Below A₀ base outer h₀) (F : Fr h₀ L s.heap m) (X : (hd.heap_39 w.params).In h₀) (T : Top VV LL mean mg mb h₀) (hk : cs.kind = .function)
   (hdp : dp + 20 < recursionLimit) (hun : un + 100 < cLine)
   (retN : r = none → ∀ (h' : Heap) (tk' : Nat), s.heap.StaysIn h' → Q .none { s with heap := h', toks := tk' })
   (retS : ∀ ts, r = some ts → (∀ d ∈ ts, d.length ≤ 4000) → ts.length ≤ 700000 → ∀ (l : Addr) (c : Nat) (h' : Heap) (tk' : Nat) (vs : List Value), s.heap.StaysIn h' → s.heap.get? l = none → h'.get? l = some (W.listOf vs.toArray c) → StrsAre vs (ts.map fun d => S (numberL d)) → Q (.ref l) { s with heap := h', toks := tk' }) :
   wpAny (model PySem.Challenge.rw_mj0140_01.row.prog w) (ktrTop dp un gd cn cs L a ccd cl outer) (call (.ref 75) [.str x t1, .int first t2]) Q E s := by
  revert X; k_fill; intro X
  refine wpAny_call ?_
  k_with_none; (k_with "ne" => (refine neN ?_; (try dsimp only); first | assumption | exact Ne.symm (by assumption) | exact And.left (by assumption) | exact And.right (by assumption) | exact Ne.symm (And.left (by assumption)) | exact Ne.symm (And.right (by assumption)) | ((refine' ne_lt ?hne ?mne); (case hne => assumption); (case mne => ((repeat (first | exact List.Mem.head _ | refine List.Mem.tail _ ?_)); done))) | ((refine' ne_gt ?hne ?mne); (case hne => assumption); (case mne => ((repeat (first | exact List.Mem.head _ | refine List.Mem.tail _ ?_)); done))) | ((refine' ne_all ?hne ?mne); (case hne => assumption); (case mne => ((repeat (first | exact List.Mem.head _ | refine List.Mem.tail _ ?_)); done))) | ((refine' ne_lla ?hne ?mne); (case hne => assumption); (case mne => ((repeat (first | exact List.Mem.head _ | refine List.Mem.tail _ ?_)); done))) | exact And.left (And.right (by assumption)) | exact And.right (And.right (by assumption)) | exact And.left (And.right (And.right (by assumption))) | exact And.right (And.right (And.right (by assumption))) | exact And.left (And.right (And.right (And.right (by assumption)))) | exact And.right (And.right (And.right (And.right (by assumption)))) | exact And.left (And.right (And.right (And.right (And.right (by assumption))))) | exact And.right (And.right (And.right (And.right (And.right (by assumption))))) | exact And.left (And.right (And.right (And.right (And.right (And.right (by assumption)))))) | exact And.right (And.right (And.right (And.right (And.right (And.right (by assumption)))))) | exact And.left (And.right (And.right (And.right (And.right (And.right (And.right (by assumption))))))) | exact And.right (And.right (And.right (And.right (And.right (And.right (And.right (by assumption))))))) | exact And.left (And.right (And.right (And.right (And.right (And.right (And.right (And.right (by assumption)))))))) | exact And.right (And.right (And.right (And.right (And.right (And.right (And.right (And.right (by assumption)))))))) | exact And.left (And.right (And.right (And.right (And.right (And.right (And.right (And.right (And.right (by assumption))))))))) | exact And.right (And.right (And.right (And.right (And.right (And.right (And.right (And.right (And.right (by assumption))))))))) | exact And.left (And.right (And.right (And.right (And.right (And.right (And.right (And.right (And.right (And.right (by assumption)))))))))) | exact And.right (And.right (And.right (And.right (And.right (And.right (And.right (And.right (And.right (And.right (by assumption)))))))))) | exact Ne.symm (And.left (And.right (by assumption))) | exact Ne.symm (And.right (And.right (by assumption))) | exact Ne.symm (And.left (And.right (And.right (by assumption)))) | exact Ne.symm (And.right (And.right (And.right (by assumption)))) | exact Ne.symm (And.left (And.right (And.right (And.right (by assumption))))) | exact Ne.symm (And.right (And.right (And.right (And.right (by assumption))))) | exact Ne.symm (And.left (And.right (And.right (And.right (And.right (by assumption)))))) | exact Ne.symm (And.right (And.right (And.right (And.right (And.right (by assumption)))))) | exact Ne.symm (And.left (And.right (And.right (And.right (And.right (And.right (by assumption))))))) | exact Ne.symm (And.right (And.right (And.right (And.right (And.right (And.right (by assumption))))))) | exact Ne.symm (And.left (And.right (And.right (And.right (And.right (And.right (And.right (by assumption)))))))) | exact Ne.symm (And.right (And.right (And.right (And.right (And.right (And.right (And.right (by assumption)))))))) | exact Ne.symm (And.left (And.right (And.right (And.right (And.right (And.right (And.right (And.right (by assumption))))))))) | exact Ne.symm (And.right (And.right (And.right (And.right (And.right (And.right (And.right (And.right (by assumption))))))))) | exact Ne.symm (And.left (And.right (And.right (And.right (And.right (And.right (And.right (And.right (And.right (by assumption)))))))))) | exact Ne.symm (And.right (And.right (And.right (And.right (And.right (And.right (And.right (And.right (And.right (by assumption)))))))))) | exact Ne.symm (And.left (And.right (And.right (And.right (And.right (And.right (And.right (And.right (And.right (And.right (by assumption))))))))))) | exact Ne.symm (And.right (And.right (And.right (And.right (And.right (And.right (And.right (And.right (And.right (And.right (by assumption))))))))))) | ((repeat (rename ∀ _ ∈ _, _ => hk9; replace hk9 := allLt_of hk9; simp only [AllLt, and_true] at hk9)); omega))); (k_with "lt" => (refine ltN ?_; (try dsimp only); first | assumption | ((refine' lt_mem ?hlt ?mlt); (case hlt => assumption); (case mlt => ((repeat (first | exact List.Mem.head _ | refine List.Mem.tail _ ?_)); done))) | omega)); (k_with "room" => ((try simp only [depth_under_make, depth_under_kw, depth_in1, depth_deeper, depth_caller]); (try dsimp only [ktrTop]); first | exact room2 (by assumption) (by decide) | exact room1 (by assumption) (by decide) | exact room3 (by assumption) (by decide) | exact room0 (by assumption))); (k_with "units" => ((try simp only [units_in1, units_deeper, Around.mark_units, units_caller]); (try dsimp only [ktrTop]); first | exact room2 (by assumption) (by decide) | exact room1 (by assumption) (by decide) | exact room3 (by assumption) (by decide) | exact room0 (by assumption))); (k_with "exec While" => refine stop ?_); (k_with "exec While Compare" => refine stop ?_); (k_with "exec While Compare cons nil" => refine stop ?_); (k_with "call ref" => (first | ((with_reducible show wpAny _ _ (call (Value.ref 60) [Value.str _ _]) _ _ _); k_dflt (refine' tokens_call _ _ _ _ _ _ _ _ _ _ _ _ _ _ _ _ _ _ _ _ _ _ _ ?kwhxz ?kwk1z ?kwk2z ?kwk3z ?kwk5z ?kwkKz ?kwkdz ?kwkuz ?_; (case kwhxz => assumption); (case kwk1z => k_asm); (case kwk2z => k_asm); (case kwk3z => k_asm); (case kwk5z => k_asm); (case kwkKz => exact rfl); (case kwkdz => ktr_room); (case kwkuz => ktr_units)); (intro l9kw h9kw tk9kw vs9kw tl9kw F9kw N9kw ht9kw); (try dsimp only)) | ((with_reducible show wpAny _ _ (call (Value.ref 65) [Value.int _ _, Value.int _ _]) _ _ _); k_dflt (refine' rule_call _ _ _ _ _ _ _ _ _ _ _ _ _ _ _ _ _ _ _ _ _ _ _ _ _ _ ?kwk1z ?kwk2z ?kwk3z ?kwk5z ?kwkKz ?kwk4z ?kwkdz ?kwkuz ?_; (case kwk1z => k_asm); (case kwk2z => k_asm); (case kwk3z => k_asm); (case kwk5z => k_asm); (case kwkKz => exact rfl); (case kwk4z => k_asm); (case kwkdz => ktr_room); (case kwkuz => ktr_units)); (intro l9kw h9kw tk9kw vs9kw F9kw N9kw ne9kw hi9kw hz9kw); (try dsimp only)) | ((with_reducible show wpAny _ _ (call (Value.ref 32) [Value.int _ _]) _ _ _); k_dflt (refine' isterm_call _ _ _ _ _ _ _ _ _ _ _ _ _ _ _ _ _ _ _ _ _ _ _ _ ?kwk1z ?kwk2z ?kwk3z ?kwk5z ?kwkKz ?kwk4z ?kwkdz ?kwkuz ?_; (case kwk1z => k_asm); (case kwk2z => k_asm); (case kwk3z => k_asm); (case kwk5z => k_asm); (case kwkKz => exact rfl); (case kwk4z => k_asm); (case kwkdz => ktr_room); (case kwkuz => ktr_units)); (intro h9kw tk9kw F9kw N9kw); (try dsimp only)) | ((with_reducible show wpAny _ _ (call (Value.ref 39) [Value.int _ _]) _ _ _); k_dflt (refine' isnont_call _ _ _ _ _ _ _ _ _ _ _ _ _ _ _ _ _ _ _ _ _ _ _ _ ?kwk1z ?kwk2z ?kwk3z ?kwk5z ?kwkKz ?kwk4z ?kwkdz ?kwkuz ?_; (case kwk1z => k_asm); (case kwk2z => k_asm); (case kwk3z => k_asm); (case kwk5z => k_asm); (case kwkKz => exact rfl); (case kwk4z => k_asm); (case kwkdz => ktr_room); (case kwkuz => ktr_units)); (intro h9kw tk9kw F9kw N9kw); (try dsimp only)) | ((with_reducible show wpAny _ _ (call (Value.ref 46) [Value.int _ _]) _ _ _); k_dflt (refine' iseof_call _ _ _ _ _ _ _ _ _ _ _ _ _ _ _ _ _ _ _ _ _ _ _ _ ?kwk1z ?kwk2z ?kwk3z ?kwk5z ?kwkKz ?kwk4z ?kwkdz ?kwkuz ?_; (case kwk1z => k_asm); (case kwk2z => k_asm); (case kwk3z => k_asm); (case kwk5z => k_asm); (case kwkKz => exact rfl); (case kwk4z => k_asm); (case kwkdz => ktr_room); (case kwkuz => ktr_units)); (intro h9kw tk9kw F9kw N9kw); (try dsimp only)) | ((with_reducible show wpAny _ _ (call (Value.ref 70) [Value.str _ _]) _ _ _); k_dflt (refine' number_call _ _ _ _ _ _ _ _ _ _ _ _ _ _ _ _ _ _ _ _ _ _ _ _ ?kwhxz ?kwk1z ?kwk2z ?kwk3z ?kwk5z ?kwkKz ?kwk4z ?kwkdz ?kwkuz ?_; (case kwhxz => assumption); (case kwk1z => k_asm); (case kwk2z => k_asm); (case kwk3z => k_asm); (case kwk5z => k_asm); (case kwkKz => exact rfl); (case kwk4z => k_asm); (case kwkdz => ktr_room); (case kwkuz => ktr_units)); (intro h9kw tk9kw t9kw F9kw N9kw st9kw); (try dsimp only)))); (k_with "call builtin:list.pop" => (k_dflt (refine' pop_snoc ?kwFz ?kwNz ?kwUz ?kwzz ?_; (case kwFz => k_asm); (case kwNz => k_asm); (case kwUz => k_upd); (case kwzz => omega)); intro hkwp Fkwp Nkwp; (try dsimp only [List.nil_append, List.cons_append] at Nkwp))); (k_with "subscriptTail" => ((with_reducible show wpAny _ _ (subscriptTail _ _ (Value.ref _) (Value.int (Nat.cast _) _)) _ _ _); refine' item_at ?kwNz ?kwlz ?kwkz ?kwxz ?_ ?kwsz; (case kwNz => k_asm); (case kwlz => k_mem); (case kwkz => omega); (case kwxz => assumption); (case kwsz => with_unfolding_all rfl))); (k_with "call builtin:list.extend" => (k_dflt (refine' extend_any ?kwFz ?kwNz ?kwbz ?kwUz ?kwzz ?kwyz ?_; (case kwFz => k_asm); (case kwNz => k_asm); (case kwbz => k_mem); (case kwUz => (intro n9kw; k_upd)); (case kwzz => omega); (case kwyz => first | omega | (simp; omega))); intro hkwp n9kw Fkwp Nkwp; (try dsimp only [List.nil_append, List.cons_append] at Nkwp))); (k_with "eval ListComp" => refine stop ?_); (k_with "getItem ref int" => (k_dflt (refine' last_get ?kwNz ?kwmz ?_; (case kwNz => k_asm); (case kwmz => k_mem)))); (k_with "setItem ref int" => (k_dflt (refine' last_set ?kwFz ?kwNz ?kwUz ?_; (case kwFz => k_asm); (case kwNz => k_asm); (case kwUz => k_upd)); intro hkwp Fkwp Nkwp; (try dsimp only [List.nil_append, List.cons_append] at Nkwp))); (k_with "subscriptTail Name Slice ref ref" => (k_dflt (refine' krv_lit ?kwFz ?kwNz ?kwlz ?kwkz ?kwez ?_ ?kwsz ?kwtz ?kwzz; (case kwFz => k_asm); (case kwNz => k_asm); (case kwlz => exact News.isList (by assumption) (by k_mem)); (case kwkz => exact IsPart.int _ _); (case kwez => exact rfl); (case kwsz => with_unfolding_all rfl); (case kwtz => kmk_pure); (case kwzz => (rw [PySem.sizeLine_eq, List.size_toArray]; omega))); intro Dkwp hkwp Fkwp Nkwp l1kw; (try k_lt l1kw))); w_top off; w_strict ( (k_dflt (refine' code_pure ?k1 ?k2 ?k3 ?k5 ?kA ?kF ?kK ?k6 ?k7 ?k8 ?k9 ?kB ?_ ?c2 ?c3 ?c4 ?c5; (case kA => exact rfl); (case kF => exact rfl); (case kK => assumption); (case k1 => k_asm); (case k2 => k_asm); (case k3 => k_asm); (case k5 => k_asm); (case k6 => k_is); (case k7 => k_is); (case k8 => ktr_room); (case k9 => exact BindsTo.of_eq rfl); (case c5 => decide); (case kB => exact locs rfl); (case c2 => exact rfl); (case c3 => exact rfl); (case c4 => exact rfl); k_whole; intro L' h' F' N' B' X' T'; (try dsimp only); (try k_fold))); (replace F' : Fr s.heap L' h' (fun y => List.lookup y [(Str.ofString "first", Value.int first t2), (Str.ofString "text", Value.str x t1)]) := F'); k_steps; (refine Stop.mk ?_); (rename Fr _ _ _ _ => F9); (rename News _ _ _ (_ :: _ :: _ :: _) => N9); (rename TokIn _ _ _ => ht9); (have hoff := off_two2 (by assumption) (by assumption)); (refine read_loop (tokensL x.cps.toList) r (n₀ := n0) F9 N9 ?w1 ?w2 (by passes_own)); (case w1 => exact readJ_start _ hr0 hn0 hs0 rfl rfl rfl rfl); (case w2 => (intro n m₁ news₁ h₁ tk₁ F₁ N₁ hJ9; (revert F₁ N₁); (refine readJ_turn hJ9 ht9 ?j0 ?j1); (case j0 => ((clear hJ9); (intro c1 place pt vsT c2 mr hrn F₁ N₁); (try k_fold); k_steps; (dsimp only); (try k_unfold); (try dsimp only); exact retN hrn _ _ (Fr.keep (by assumption)))); (case j1 => ((clear hJ9); (intro n' top st' kind part rest vs' tt c1 place pt done cur vsT' tt' c2 mr b ta tb nb hrest hS' hT hT'' hr hb1 hb2 hb3 hb4 hvb hmb hlS hlT F₁ N₁); (replace N₁ := news_in N₁ hmb); (have hneb := off_ne hoff hmb); (dsimp only at hneb); (have hcl := cur_len hb4); (have hpl := part_len hrest hb4); (try k_fold); k_steps; (rotate_left 1); ((refine Stop.mk ?_); (rename Fr _ _ _ _ => F8); (rename News _ _ _ (_ :: _) => N8); (refine comp_all .str (fun a => PyData.str (S (numberL a.cps.toList))) rfl (by with_unfolding_all rfl) (by decide) rfl (by decide) rfl (fun Q' h => ld F8 rfl h) (by k_mem) (StrsAre.areOf hT) ?hz F8 N8 ?helt ?fin (by intro _; rfl)); (case hz => (rw [List.length_map, List.length_append]; simp only [List.length_cons, List.length_nil]; omega)); (case helt => (intro C a9 v9 s₂ m₂ E' ha hv hn hm F₂ N₂; (obtain ⟨ta9, rfl⟩ := hv); (have hxa := told_len hb4 ha); k_steps; (rename Heap.StaysIn _ _ => st9); exact ⟨PyProof.Rows.Carried.str _ _, ⟨_, _, rfl, st9⟩⟩)); (case fin => (intro D9 ys9 c9 h9 tk9 F₂ N₂ ne₂ hc₂; (dsimp only); (try k_unfold); (try dsimp only); exact retS _ (run_eof hr (by assumption) (by assumption) (by assumption)) (fun d hd => Nat.le_trans (Nat.le_add_right _ _) (hb4 d hd)) (by rw [List.length_append]; simp only [List.length_cons, List.length_nil]; omega) _ _ _ _ _ (Fr.keep F₂) (News.fresh N₂ (List.Mem.head _)) (News.get N₂ (List.Mem.head _)) (told_num hc₂)))); (all_goals first | ((rename News _ _ _ (_ :: _) => N8); (rw [List.push_toArray] at N8); exact read_next (place := place + 1) rfl (by rw [drop_next hrest]; exact run_dot hr (by assumption) (by assumption) (by assumption) (by assumption)) (by assumption) N8 rfl rfl rfl rfl (by k_mem) (by k_mem) (by k_mem) (by intro p hp; repeat (first | exact hp | refine List.Mem.tail _ ?_)) hS' (told_dot hT) (by omega) (by rw [List.length_append]; simp only [List.length_cons, List.length_nil]; omega) (by omega) (bound_dot hrest hb4)) | exact read_next (place := place + 1) rfl (by rw [drop_next hrest]; exact run_part hr (by assumption) (by assumption) (by assumption) (by assumption)) (by assumption) (by assumption) rfl rfl rfl rfl (by k_mem) (by k_mem) (by k_mem) (by intro p hp; repeat (first | exact hp | refine List.Mem.tail _ ?_)) hS' (told_part hT'' (S_append cur part)) (by omega) (by omega) (by omega) (bound_part hrest hb4) | (exfalso; (rename decide (_ = _) = true => hq); (simp at hq); done) | ((dsimp only); (try k_unfold); (try dsimp only); exact retN (run_fail hr (by omega) (by omega)) _ _ (Fr.keep (by assumption))) | exact read_next (place := place) rfl (by rw [hrest]; exact run_rule hr (by omega)) (by assumption) (by assumption) rfl rfl rfl rfl (by k_mem) (by k_mem) (by k_mem) (by intro p hp; repeat (first | exact hp | refine List.Mem.tail _ ?_)) (stack_rule hS' (by assumption)) hT (by (have hq := ruleF_len top kind); rw [List.length_append]; omega) (by omega) (by omega) hb4))))))
end Mine
end
section
open PySem PySem.W PyProof.Rows PySem.Calls PySem.Spec
set_option Elab.async false
set_option maxRecDepth 100000
namespace Mine
theorem readS_call (w : World) (dp un : Nat) (gd : Option (List Code)) (cn : Str) (cs : Scope) (a : Addr) (ccd : Value) (cl : List (Str × Addr)) (outer : List Env) (A₀ : Around) (base h₀ : Heap) (L : Addr) (m mg mb : Str → Option Value) (mean : ExcName → Option Value) (s : Shared) (Q E : Value → Shared → Prop) (news : List (Addr × Obj))
   (x : Str) (t1 : Tok) (first : Int) (t2 : Tok) (hx : x.length ≤ 4000) (n0 : Nat) (ts : List (List Nat)) (hn0 : n0 ≤ 100000) (hr0 : runF n0 [first, 0] (tokensL x.cps.toList) [] [] = some (some ts)) (hs0 : sumR (tokensL x.cps.toList) ≤ 4000)
   (B : Below A₀ base outer h₀) (F : Fr h₀ L s.heap m) (X : (hd.heap_39 w.params).In h₀) (T : Top VV LL mean mg mb h₀) (hk : cs.kind = .function) (N : News h₀ L s.heap news) (hdp : dp + 20 < recursionLimit) (hun : un + 100 < cLine)
   (ret : ∀ (l : Addr) (c : Nat) (h' : Heap) (tk' : Nat) (vs : List Value), Fr h₀ L h' m → News h₀ L h' ((l, W.listOf vs.toArray c) :: news) → AllNe l news → StrsAre vs (ts.map fun d => S (numberL d)) → (∀ d ∈ ts, d.length ≤ 4000) → vs.length ≤ 700000 → Q (.ref l) { s with heap := h', toks := tk' }) :
   wpAny (model PySem.Challenge.rw_mj0140_01.row.prog w) (ktrTop dp un gd cn cs L a ccd cl outer) (call (.ref 75) [.str x t1, .int first t2]) Q E s :=
  read_walk w dp un gd cn cs a ccd cl outer A₀ base h₀ L m mg mb mean s Q E x t1 first t2 hx n0 _ hn0 hr0 hs0 B F X T hk hdp hun (fun e => nomatch e) (fun ts' e hb hl l c h' tk' vs st h1 h2 hi => by
    cases e
    exact ret l c h' tk' vs (fr_on F st) (news_on F N st h1 h2) (news_ne N h1) hi hb (by rw [strs_len hi, List.length_map]; exact hl))
theorem readN_call (w : World) (dp un : Nat) (gd : Option (List Code)) (cn : Str) (cs : Scope) (a : Addr) (ccd : Value) (cl : List (Str × Addr)) (outer : List Env) (A₀ : Around) (base h₀ : Heap) (L : Addr) (m mg mb : Str → Option Value) (mean : ExcName → Option Value) (s : Shared) (Q E : Value → Shared → Prop) (news : List (Addr × Obj))
   (x : Str) (t1 : Tok) (first : Int) (t2 : Tok) (hx : x.length ≤ 4000) (n0 : Nat) (hn0 : n0 ≤ 100000) (hr0 : runF n0 [first, 0] (tokensL x.cps.toList) [] [] = some none) (hs0 : sumR (tokensL x.cps.toList) ≤ 4000)
   (B : Below A₀ base outer h₀) (F : Fr h₀ L s.heap m) (X : (hd.heap_39 w.params).In h₀) (T : Top VV LL mean mg mb h₀) (hk : cs.kind = .function) (N : News h₀ L s.heap news) (hdp : dp + 20 < recursionLimit) (hun : un + 100 < cLine)
   (ret : ∀ (h' : Heap) (tk' : Nat), Fr h₀ L h' m → News h₀ L h' news → Q .none { s with heap := h', toks := tk' }) :
   wpAny (model PySem.Challenge.rw_mj0140_01.row.prog w) (ktrTop dp un gd cn cs L a ccd cl outer) (call (.ref 75) [.str x t1, .int first t2]) Q E s :=
  read_walk w dp un gd cn cs a ccd cl outer A₀ base h₀ L m mg mb mean s Q E x t1 first t2 hx n0 _ hn0 hr0 hs0 B F X T hk hdp hun (fun _ h' tk' st => ret h' tk' (fr_on F st) (N.grown st)) (fun ts' e => nomatch e)
theorem pick_upto (vs : List Value) (k : Nat) : (slicePick vs.toArray none (some (k : Int)) none).toList = vs.take k := by
  have e : sliceBounds none (some (k : Int)) none vs.toArray.size = (((0 : Nat) : Int), ((min k vs.toArray.size : Nat) : Int), 1) := by
    simp only [sliceBounds, Option.getD_none, show (1 : Int) > 0 by decide, if_true, if_neg (show ¬ ((k : Int) < 0) by (first | lia | omega))]
    congr 1
    congr 1
    (first | lia | omega)
  rw [kmk_pick_nat _ e]
  show (vs.drop 0).take (min k vs.toArray.size - 0) = _
  rw [List.drop_zero, Nat.sub_zero, List.size_toArray, kmk_take_min]
theorem strs_take : ∀ {vs : List Value} {ns : List Str} (k : Nat), StrsAre vs ns → StrsAre (vs.take k) (ns.take k)
  | _, _, 0, _ => .nil
  | _, _, _ + 1, .nil => .nil
  | _, _, k + 1, .cons y t r => .cons y t (strs_take k r)
theorem sum_small : ∀ (k : Nat) (zs : List Str), zs.length ≤ k → (∀ z ∈ zs, z.length ≤ 5000) → (zs.map (·.length)).sum ≤ k * 5000
  | _, [], _, _ => Nat.zero_le _
  | 0, _ :: _, hl, _ => by simp at hl
  | k + 1, z :: zs, hl, h => by
    have h1 := h z (.head _)
    have h2 := sum_small k zs (by simpa using hl) (fun y hy => h y (.tail _ hy))
    simp only [List.map_cons, List.sum_cons]; (first | lia | omega)
theorem all_app {a b : List Str} {n : Nat} (h1 : ∀ z ∈ a, z.length ≤ n) (h2 : ∀ z ∈ b, z.length ≤ n) : ∀ z ∈ a ++ b, z.length ≤ n := fun z hz => (List.mem_append.mp hz).elim (h1 z) (h2 z)
theorem strip0_len : ∀ (l : List Nat), (strip0 l).length ≤ l.length
  | [] => by simp [strip0]
  | [c] => by rw [strip0_short (by simp)]; exact Nat.le_refl _
  | a :: c :: r => by
    by_cases h : a = 48
    · subst h; rw [strip0_cons]; have := strip0_len (c :: r); simp only [List.length_cons] at this ⊢; (first | lia | omega)
    · rw [strip0_ne h]; exact Nat.le_refl _
theorem numberL_len (d : List Nat) : (numberL d).length ≤ d.length + 1 := by
  have h1 := strip0_len (d.filter isFig)
  have h2 := List.length_filter_le isFig d
  unfold numberL
  split
  · simp only [List.length_cons]; (first | lia | omega)
  · (first | lia | omega)
theorem S_len (d : List Nat) : (S d).length = d.length := by rw [← len_toList, S_cps]
theorem num_small {ts : List (List Nat)} (h : ∀ d ∈ ts, d.length ≤ 4000) : ∀ z ∈ ts.map (fun d => S (numberL d)), z.length ≤ 5000 := by
  intro z hz
  obtain ⟨d, hd, rfl⟩ := List.mem_map.mp hz
  have := h d hd
  have := numberL_len d
  rw [S_len]; (first | lia | omega)
section
variable {prog : Program} {w : World} {A : Around} {E : Value → Shared → Prop} {s : Shared} {h₀ : Heap} {L D l : Addr} {m : Str → Option Value} {news : List (Addr × Obj)} {n : Nat} {Q : Value → Shared → Prop} {vs : List Value} {value slice : PySem.Expr}
theorem upto_list {k : Nat} {u : Tok} (F : Fr h₀ L s.heap m) (N : News h₀ L s.heap news) (hm : (l, W.listOf vs.toArray n) ∈ news)
    (h : ∀ D h', Fr h₀ L h' m → News h₀ L h' ((D, W.listOf (vs.take k).toArray 0) :: news) → (∀ p ∈ news, p.1 < D) → Q (.ref D) { s with heap := h' })
    (hs : subscripted slice false (.ref l) (.ref s.heap.objs.size) = operate [.ref s.heap.objs.size, .ref l] (getItem (.ref l) (.ref s.heap.objs.size))) (ht : ∀ r, letTemporaryGo value (.ref l) r = pure ()) (hz : vs.length ≤ 2000000) :
    wpAny (model prog w) A (subscriptTail value slice (.ref l) (.ref s.heap.objs.size)) Q E { s with heap := s.heap.push { cls := .type "slice", data := .fields #[.none, .int (k : Int) u, .none] } } :=
  kmk_slice_lit F N (N.isList hm) .none (.int _ _) (pick_upto vs k) h hs ht (by rw [List.size_toArray, sizeLine_eq]; (first | lia | omega))
theorem join_three {zs : List Str} {t : Tok} {y : Str} (N : News h₀ L s.heap news) (hm : (D, W.listOf (vs.take 3).toArray n) ∈ news) (hs : StrsAre vs zs) (hy : y.length = 1) (hb : ∀ z ∈ zs, z.length ≤ 5000)
    (h : ∀ t' k, Q (.str (Txt.join y (zs.take 3)) t') { s with toks := k }) : wpAny (model prog w) A (call (.builtin "str.join") [.str y t, .ref D]) Q E s :=
  join_list (N.isList hm) (strs_take 3 hs) (by
    have h1 := sum_small 3 (zs.take 3) (by simp; (first | lia | omega)) (fun z hz => hb z (List.mem_of_mem_take hz))
    have h2 : (zs.take 3).length ≤ 3 := by simp; (first | lia | omega)
    rw [hy]; (first | lia | omega)) h
end
section
variable {prog : Program} {w : World} {A : Around} {E : Value → Shared → Prop} {s : Shared} {env : Env} {h₀ : Heap} {x : Str} {body : List Stmt} {Q : Flow → Shared → Prop}
/-- a for over a text's signs by a word over its number, the frame and the ledger -/
theorem iter_text {xt : Str} {tx : Tok} {m₀ : Str → Option Value} {news : List (Addr × Obj)} (J : Nat → (Str → Option Value) → List (Addr × Obj) → Prop)
    (hh : A.handled = none) (F : Fr h₀ env.locals s.heap m₀) (N : News h₀ env.locals s.heap news) (hj : J 0 m₀ news)
    (turn : ∀ i c t m₁ news₁ h tk own, xt.cps.toList[i]? = some c → OwnOff own (news.map (·.1)) → J i m₁ news₁ → Fr h₀ env.locals h (fun y => if y = x then some (.str ⟨#[c]⟩ t) else m₁ y) → News h₀ env.locals h (news₁ ++ own) →
      wpAny (model prog w) A (execs body env) (InvPostN h₀ env.locals (J (i + 1)) own (news.map (·.1)) { s with heap := h, toks := tk } Q) E { s with heap := h, toks := tk })
    (done : ∀ m₁ news₁ h tk, J xt.length m₁ news₁ → Fr h₀ env.locals h m₁ → News h₀ env.locals h news₁ → Q .next { s with heap := h, toks := tk }) :
    wpAny (model prog w) A (pyIter (.str xt tx)) (fun it s₂ => LoopAtV prog w A h₀ env x body Q E it s₂) E s := by
  refine wpAny_pyIter_str fun o St hW hst => ?_
  refine loop_invN J (hW A hh) ?_ ?_ ?_ ?_ hst (F.push _) (fun p hp => ⟨Heap.get?_push_of_some _ (N p hp).1, (N p hp).2⟩) hj ?_ ?_
  · intro hm
    exact absurd F.ns.lt ((List.mem_singleton.mp hm) ▸ Nat.lt_irrefl _)
  · intro b' hb
    rw [List.mem_singleton.mp hb]
    exact next_is_new F
  · intro p hp hI
    exact absurd (Heap.lt_size (N p hp).1) ((List.mem_singleton.mp hI) ▸ Nat.lt_irrefl _)
  · intro p hp hI
    exact absurd (Heap.lt_size (N p hp).1) ((List.mem_singleton.mp hI) ▸ Nat.lt_irrefl _)
  · rintro i v m₁ nx h tk own hi ⟨c, u, hn, rfl⟩ _ hoff hJ F₁ N₁
    exact turn i c u m₁ nx h tk own (by rw [← hn]; simp) hoff hJ F₁ N₁
  · intro m₁ nx h tk hJ F₁ N₁
    exact done m₁ nx h tk hJ F₁ N₁
end
/-- the text cut at its points -/
noncomputable def cutStep (p : List (List Nat) × List Nat) (c : Nat) : List (List Nat) × List Nat := if c = 46 then (p.1 ++ [p.2], []) else (p.1, p.2 ++ [c])
noncomputable def cutF (l : List Nat) : List (List Nat) × List Nat := l.foldl cutStep ([], [])
noncomputable def cutL (l : List Nat) : List (List Nat) := (cutF l).1 ++ [(cutF l).2]
theorem cutF_snoc (l : List Nat) (c : Nat) : cutF (l ++ [c]) = cutStep (cutF l) c := by simp [cutF]
noncomputable def CutJ (x : Str) (t1 : Tok) (D : Addr) (b : Str) (t2 : Tok) (i : Nat) (m : Str → Option Value) (nx : List (Addr × Obj)) : Prop :=
  ∃ (vs : List Value) (c : Nat) (mr : Str → Option Value), nx = [(D, W.listOf vs.toArray c)] ∧ m = (fun y => if y = Str.ofString "cut" then some (Value.ref D) else if y = Str.ofString "version" then some (Value.str x t1) else if y = Str.ofString "build" then some (Value.str b t2) else mr y) ∧
    StrsAre vs (((cutF (x.cps.toList.take i)).1 ++ [(cutF (x.cps.toList.take i)).2]).map S) ∧ (cutF (x.cps.toList.take i)).1.length ≤ i ∧ (∀ d ∈ (cutF (x.cps.toList.take i)).1 ++ [(cutF (x.cps.toList.take i)).2], d.length ≤ i)
theorem cutJ_start {x : Str} {t1 : Tok} {D : Addr} {b : Str} {t2 t3 : Tok} (m : Str → Option Value) (h1 : m (Str.ofString "cut") = some (.ref D)) (h2 : m (Str.ofString "version") = some (.str x t1)) (h3 : m (Str.ofString "build") = some (.str b t2)) :
    CutJ x t1 D b t2 0 m [(D, W.listOf #[.str (Str.ofString "") t3] 0)] :=
  ⟨[.str (Str.ofString "") t3], 0, m, rfl, shape3 m h1 h2 h3, by rw [lit_empty]; exact .cons _ _ .nil, by simp [cutF], by simp [cutF]⟩
theorem take_snoc {x : Str} {i c : Nat} (h : x.cps.toList[i]? = some c) : x.cps.toList.take (i + 1) = x.cps.toList.take i ++ [c] := by
  rw [List.take_add_one, h]; rfl
theorem cutJ_dot {x : Str} {t1 : Tok} {D : Addr} {b : Str} {t2 t3 : Tok} {i c : Nat} {vs : List Value} {n : Nat} (m : Str → Option Value) (h1 : m (Str.ofString "cut") = some (.ref D)) (h2 : m (Str.ofString "version") = some (.str x t1)) (h3 : m (Str.ofString "build") = some (.str b t2))
    (hc : x.cps.toList[i]? = some c) (he : ((⟨#[c]⟩ : Str) == Str.ofString ".") = true) (hs : StrsAre vs (((cutF (x.cps.toList.take i)).1 ++ [(cutF (x.cps.toList.take i)).2]).map S)) (hl : (cutF (x.cps.toList.take i)).1.length ≤ i) (hd : ∀ d ∈ (cutF (x.cps.toList.take i)).1 ++ [(cutF (x.cps.toList.take i)).2], d.length ≤ i) :
    CutJ x t1 D b t2 (i + 1) m [(D, W.listOf (vs ++ [Value.str (Str.ofString "") t3]).toArray n)] := by
  have hc46 : c = 46 := by
    have := congrArg (fun z : Str => z.cps.toList) (beq_iff_eq.mp he)
    simp only [lit_dot] at this
    simpa using this
  have e : cutF (x.cps.toList.take (i + 1)) = ((cutF (x.cps.toList.take i)).1 ++ [(cutF (x.cps.toList.take i)).2], []) := by
    rw [take_snoc hc, cutF_snoc]; unfold cutStep; rw [if_pos hc46]
  refine ⟨_, n, m, rfl, shape3 m h1 h2 h3, ?_, ?_, ?_⟩ <;> rw [e]
  · exact told_dot hs
  · simp only [List.length_append, List.length_cons, List.length_nil]; (first | lia | omega)
  · intro d hd'
    rcases List.mem_append.mp hd' with q | q
    · have := hd d q; (first | lia | omega)
    · rw [List.mem_singleton.mp q]; simp
theorem cutJ_sign {x : Str} {t1 : Tok} {D : Addr} {b : Str} {t2 t3 : Tok} {i c : Nat} {vs : List Value} {n : Nat} (m : Str → Option Value) (h1 : m (Str.ofString "cut") = some (.ref D)) (h2 : m (Str.ofString "version") = some (.str x t1)) (h3 : m (Str.ofString "build") = some (.str b t2))
    (hc : x.cps.toList[i]? = some c) (he : ((⟨#[c]⟩ : Str) == Str.ofString ".") = false) (hs : StrsAre vs ((cutF (x.cps.toList.take i)).1.map S)) (hl : (cutF (x.cps.toList.take i)).1.length ≤ i) (hd : ∀ d ∈ (cutF (x.cps.toList.take i)).1 ++ [(cutF (x.cps.toList.take i)).2], d.length ≤ i) :
    CutJ x t1 D b t2 (i + 1) m [(D, W.listOf (vs ++ [Value.str (S (cutF (x.cps.toList.take i)).2 ++ ⟨#[c]⟩) t3]).toArray n)] := by
  have hc46 : ¬ c = 46 := by
    intro q
    subst q
    have : (⟨#[46]⟩ : Str) = Str.ofString "." := str_eq (by rw [lit_dot])
    rw [this] at he
    simp at he
  have e : cutF (x.cps.toList.take (i + 1)) = ((cutF (x.cps.toList.take i)).1, (cutF (x.cps.toList.take i)).2 ++ [c]) := by
    rw [take_snoc hc, cutF_snoc]; unfold cutStep; rw [if_neg hc46]
  refine ⟨_, n, m, rfl, shape3 m h1 h2 h3, ?_, ?_, ?_⟩ <;> rw [e]
  · exact told_part hs (S_append _ [c])
  · dsimp only; (first | lia | omega)
  · intro d hd'
    dsimp only at hd'
    rcases List.mem_append.mp hd' with q | q
    · have := hd d (List.mem_append.mpr (.inl q)); (first | lia | omega)
    · have := hd (cutF (x.cps.toList.take i)).2 (List.mem_append.mpr (.inr (.head _)))
      rw [List.mem_singleton.mp q, List.length_append]; simp only [List.length_cons, List.length_nil]; (first | lia | omega)
end Mine
end
section
open PySem PySem.W PyProof.Rows PySem.Calls
set_option Elab.async false
set_option maxRecDepth 100000
namespace Mine
/-- the stretches that _law_due joins the first three of -/
noncomputable def dueT (v b : Str) (rv rb : Option (List (List Nat))) : List Str :=
  match rv, (if (b == Str.ofString "") = true then some [] else rb) with
  | some t, some m => (t.map fun d => S (numberL d)) ++ (m.map fun d => S (numberL d))
  | _, _ => (cutL v.cps.toList).map S ++ (if (b == Str.ofString "") = true then [] else [b])
section
variable {v b : Str} {tv tb : List (List Nat)} {rb : Option (List (List Nat))}
theorem dueT_E (h : (b == Str.ofString "") = true) : dueT v b (some tv) rb = (tv.map fun d => S (numberL d)) ++ [] := by unfold dueT; rw [if_pos h]; rfl
theorem dueT_B (h : (b == Str.ofString "") = false) : dueT v b (some tv) (some tb) = (tv.map fun d => S (numberL d)) ++ (tb.map fun d => S (numberL d)) := by unfold dueT; rw [if_neg (by rw [h]; decide)]
theorem dueT_NE (h : (b == Str.ofString "") = true) : dueT v b none rb = (cutL v.cps.toList).map S ++ [] := by unfold dueT; rw [if_pos h, if_pos h]
theorem dueT_NB (h : (b == Str.ofString "") = false) : dueT v b none rb = (cutL v.cps.toList).map S ++ [b] := by unfold dueT; rw [if_neg (by rw [h]; decide)]; simp [h]
theorem dueT_BN (h : (b == Str.ofString "") = false) : dueT v b (some tv) none = (cutL v.cps.toList).map S ++ [b] := by unfold dueT; rw [if_neg (by rw [h]; decide)]; simp [h]
end
theorem cut_whole (x : Str) : ((cutF (x.cps.toList.take x.length)).1 ++ [(cutF (x.cps.toList.take x.length)).2]) = cutL x.cps.toList := by
  rw [List.take_of_length_le (by rw [len_toList]; exact Nat.le_refl _)]; rfl
theorem cut_small {x : Str} (hx : x.length ≤ 4000) (h : ∀ d ∈ (cutF (x.cps.toList.take x.length)).1 ++ [(cutF (x.cps.toList.take x.length)).2], d.length ≤ x.length) : ∀ z ∈ (cutL x.cps.toList).map S, z.length ≤ 5000 := by
  rw [cut_whole] at h
  intro z hz
  obtain ⟨d, hd, rfl⟩ := List.mem_map.mp hz
  have := h d hd
  rw [S_len]; omega
theorem sub_own {α : Type} {a : α} {own : List α} : ∀ p ∈ [a], p ∈ a :: own := fun p hp => by rw [List.mem_singleton.mp hp]; exact List.mem_cons_self ..
theorem for_text {prog : Program} {w : World} {A : Around} {E : Value → Shared → Prop} {s : Shared} {env : Env} {h₀ : Heap} {x y : Str} {px py pos : Pos} {body : List Stmt} {Q : Flow → Shared → Prop} {xt b : Str} {tx tb tc : Tok} {m₀ : Str → Option Value} {D : Addr} {news : List (Addr × Obj)}
    (hx : env.kindOf x = some .local) (hp : (env.scope.kind == .class || (env.scope.kind == .module && env.locals != env.globals)) = false) (hh : A.handled = none) (F : Fr h₀ env.locals s.heap m₀) (N : News h₀ env.locals s.heap ((D, W.listOf #[.str (Str.ofString "") tc] 0) :: news))
    (hit : ∀ Q' : Value → Shared → Prop, Q' (.str xt tx) s → wpAny (model prog w) A (eval (.Name y py) env) Q' E s)
    (h1 : m₀ (Str.ofString "cut") = some (.ref D)) (h2 : m₀ (Str.ofString "version") = some (.str xt tx)) (h3 : m₀ (Str.ofString "build") = some (.str b tb))
    (turn : ∀ i c t m₁ news₁ h tk own, xt.cps.toList[i]? = some c → OwnOff own [D] → CutJ xt tx D b tb i m₁ news₁ → Fr h₀ env.locals h (fun y => if y = x then some (.str ⟨#[c]⟩ t) else m₁ y) → News h₀ env.locals h (news₁ ++ own) →
      wpAny (model prog w) A (execs body env) (InvPostN h₀ env.locals (CutJ xt tx D b tb (i + 1)) own [D] { s with heap := h, toks := tk } Q) E { s with heap := h, toks := tk })
    (done : ∀ m₁ news₁ h tk, CutJ xt tx D b tb xt.length m₁ news₁ → Fr h₀ env.locals h m₁ → News h₀ env.locals h news₁ → Q .next { s with heap := h, toks := tk })
    (hE : PassesOwn (model prog w) A env E) :
    wpAny (model prog w) A (exec (.For (.Name x px) (.Name y py) body [] pos) env) Q E s :=
  For_invV h₀ hx hp (hit _ (iter_text (CutJ xt tx D b tb) hh F (news := [(D, W.listOf #[.str (Str.ofString "") tc] 0)]) (fun p hp => N p (by rw [List.mem_singleton.mp hp]; exact List.mem_cons_self ..)) (cutJ_start _ h1 h2 h3) turn done)) (fun _ => rfl) hE
theorem strs_b {vs : List Value} {zs : List Str} {b : Str} {t : Tok} (h : StrsAre vs zs) : StrsAre (vs.toArray.toList ++ #[Value.str b t].toList) (zs ++ [b]) := strs_app h (.cons _ _ .nil)
theorem all_b {zs : List Str} {b : Str} (h : ∀ z ∈ zs, z.length ≤ 5000) (hb : b.length ≤ 4000) : ∀ z ∈ zs ++ [b], z.length ≤ 5000 := all_app h (fun z hz => by rw [List.mem_singleton.mp hz]; omega)
/-- the end of a body said ahead: J tells the state from which it is walked -/
theorem with_tail {M : Model} {A : Around} {E : Value → Shared → Prop} {s : Shared} {a b c : Stmt} {rest : List Stmt} {env : Env} {Q : Flow → Shared → Prop} (J : Shared → Prop)
    (tail : ∀ s', J s' → wpAny M A (execs rest env) Q E s') (h : (∀ s', J s' → wpAny M A (execs rest env) Q E s') → wpAny M A (execs (a :: b :: c :: rest) env) Q E s) : wpAny M A (execs (a :: b :: c :: rest) env) Q E s := h tail
noncomputable def CutT (v : Str) (t1 : Tok) (b : Str) (t2 : Tok) (due : List Str) (h₀ : Heap) (L : Addr) (s s' : Shared) : Prop :=
  ∃ (mr : Str → Option Value) (h' : Heap) (tk' : Nat), s' = { s with heap := h', toks := tk' } ∧ Fr h₀ L h' (fun y => if y = Str.ofString "version" then some (Value.str v t1) else if y = Str.ofString "build" then some (Value.str b t2) else mr y) ∧ due = (cutL v.cps.toList).map S ++ (if (b == Str.ofString "") = true then [] else [b])
theorem cutT_of {v : Str} {t1 : Tok} {b : Str} {t2 : Tok} {due : List Str} {h₀ : Heap} {L : Addr} {s : Shared} {m : Str → Option Value} {h' : Heap} {tk' : Nat} (F : Fr h₀ L h' m) (h1 : m (Str.ofString "version") = some (.str v t1)) (h2 : m (Str.ofString "build") = some (.str b t2))
    (hd : due = (cutL v.cps.toList).map S ++ (if (b == Str.ofString "") = true then [] else [b])) : CutT v t1 b t2 due h₀ L s { s with heap := h', toks := tk' } := by
  refine ⟨m, h', tk', rfl, ?_, hd⟩
  have e : m = fun y => if y = Str.ofString "version" then some (Value.str v t1) else if y = Str.ofString "build" then some (Value.str b t2) else m y := by
    funext y
    by_cases e1 : y = Str.ofString "version"
    · rw [if_pos e1, e1, h1]
    · rw [if_neg e1]
      by_cases e2 : y = Str.ofString "build"
      · rw [if_pos e2, e2, h2]
      · rw [if_neg e2]
  exact e ▸ F
@[elab_as_elim] theorem CutT.elim {v : Str} {t1 : Tok} {b : Str} {t2 : Tok} {due : List Str} {h₀ : Heap} {L : Addr} {s s' : Shared} {C : Shared → Prop} (h : CutT v t1 b t2 due h₀ L s s')
    (k : ∀ (mr : Str → Option Value) (h' : Heap) (tk' : Nat), Fr h₀ L h' (fun y => if y = Str.ofString "version" then some (Value.str v t1) else if y = Str.ofString "build" then some (Value.str b t2) else mr y) → due = (cutL v.cps.toList).map S ++ (if (b == Str.ofString "") = true then [] else [b]) → C { s with heap := h', toks := tk' }) : C s' := by
  obtain ⟨mr, h', tk', rfl, F, hd⟩ := h
  exact k mr h' tk' F hd
theorem cut_N {v b : Str} {rb : Option (List (List Nat))} : dueT v b none rb = (cutL v.cps.toList).map S ++ (if (b == Str.ofString "") = true then [] else [b]) := by unfold dueT; rfl
theorem cut_BN {v b : Str} {tv : List (List Nat)} (h : (b == Str.ofString "") = false) : dueT v b (some tv) none = (cutL v.cps.toList).map S ++ (if (b == Str.ofString "") = true then [] else [b]) := by unfold dueT; rw [if_neg (by rw [h]; decide)]
theorem cut_e {b : Str} {due l : List Str} (h : (b == Str.ofString "") = true) (e : due = l ++ (if (b == Str.ofString "") = true then [] else [b])) : due = l ++ [] := by rw [e, if_pos h]
theorem cut_b {b : Str} {due l : List Str} (h : (b == Str.ofString "") = false) (e : due = l ++ (if (b == Str.ofString "") = true then [] else [b])) : due = l ++ [b] := by rw [e, if_neg (by rw [h]; decide)]
@[elab_as_elim] theorem CutJ.elim {x : Str} {t1 : Tok} {D : Addr} {b : Str} {t2 : Tok} {i : Nat} {m : Str → Option Value} {nx : List (Addr × Obj)} {C : (Str → Option Value) → List (Addr × Obj) → Prop} (h : CutJ x t1 D b t2 i m nx)
    (k : ∀ (vs : List Value) (c : Nat) (mr : Str → Option Value), StrsAre vs (((cutF (x.cps.toList.take i)).1 ++ [(cutF (x.cps.toList.take i)).2]).map S) → (cutF (x.cps.toList.take i)).1.length ≤ i → (∀ d ∈ (cutF (x.cps.toList.take i)).1 ++ [(cutF (x.cps.toList.take i)).2], d.length ≤ i) → C (fun y => if y = Str.ofString "cut" then some (Value.ref D) else if y = Str.ofString "version" then some (Value.str x t1) else if y = Str.ofString "build" then some (Value.str b t2) else mr y) [(D, W.listOf vs.toArray c)]) : C m nx := by
  obtain ⟨vs, c, mr, rfl, rfl, h1, h2, h3⟩ := h
  exact k vs c mr h1 h2 h3
@[elab_as_elim] theorem CutJ.turn {x : Str} {t1 : Tok} {D : Addr} {b : Str} {t2 : Tok} {i : Nat} {m : Str → Option Value} {nx : List (Addr × Obj)} {C : (Str → Option Value) → List (Addr × Obj) → Prop} (h : CutJ x t1 D b t2 i m nx)
    (k : ∀ (vs' : List Value) (tt : Tok) (c : Nat) (mr : Str → Option Value), StrsAre (vs' ++ [Value.str (S (cutF (x.cps.toList.take i)).2) tt]) (((cutF (x.cps.toList.take i)).1 ++ [(cutF (x.cps.toList.take i)).2]).map S) → StrsAre vs' ((cutF (x.cps.toList.take i)).1.map S) → (cutF (x.cps.toList.take i)).1.length ≤ i → (∀ d ∈ (cutF (x.cps.toList.take i)).1 ++ [(cutF (x.cps.toList.take i)).2], d.length ≤ i) → vs'.length = (cutF (x.cps.toList.take i)).1.length →
      C (fun y => if y = Str.ofString "cut" then some (Value.ref D) else if y = Str.ofString "version" then some (Value.str x t1) else if y = Str.ofString "build" then some (Value.str b t2) else mr y) [(D, W.listOf (vs' ++ [Value.str (S (cutF (x.cps.toList.take i)).2) tt]).toArray c)]) : C m nx := by
  obtain ⟨vs, c, mr, e1, e2, h1, h2, h3⟩ := h
  have h1' := h1
  rw [List.map_append] at h1'
  obtain ⟨vs', tt, ev, h4⟩ := strs_snoc h1'
  have hl := strs_len h4
  rw [List.length_map] at hl
  rw [ev] at h1
  rw [e1, e2, ev]
  exact k vs' tt c mr h1 h4 h2 h3 hl
end Mine
end
section
open PySem PySem.W PyProof.Rows PySem.Calls
set_option Elab.async false
set_option maxRecDepth 100000
set_option maxHeartbeats 8000000
namespace Mine
theorem due_walk (w : World) (dp un : Nat) (gd : Option (List Code)) (cn : Str) (cs : Scope) (a : Addr) (ccd : Value) (cl : List (Str × Addr)) (outer : List Env) (A₀ : Around) (base h₀ : Heap) (L : Addr) (m mg mb : Str → Option Value) (mean : ExcName → Option Value) (s : Shared) (Q E : Value → Shared → Prop)
   (v b : Str) (t1 t2 : Tok) (hv : v.length ≤ 4000) (hb : b.length ≤ 4000) (nv nb : Nat) (rv rb : Option (List (List Nat))) (hnv : nv ≤ 100000) (hnb : nb ≤ 100000)
   (hrv : runF nv [256, 0] (tokensL v.cps.toList) [] [] = some rv) (hrb : runF nb [257, 0] (tokensL b.cps.toList) [] [] = some rb) (hsv : sumR (tokensL v.cps.toList) ≤ 4000) (hsb : sumR (tokensL b.cps.toList) ≤ 4000)
   (B : Below A₀ base outer h₀) (F : Fr h₀ L s.heap m) (X : (hd.heap_39 w.params).In h₀) (T : Top VV LL mean mg mb h₀) (hk : cs.kind = .function)
   (hdp : dp + 40 < recursionLimit) (hun : un + 200 < cLine)
   (ret : ∀ (h' : Heap) (tk' : Nat) (t : Tok), s.heap.StaysIn h' → Q (.str (Txt.join (Str.ofString ".") ((dueT v b rv rb).take 3)) t) { s with heap := h', toks := tk' }) :
   wpAny (model PySem.Challenge.rw_mj0140_01.row.prog w) (ktrTop dp un gd cn cs L a ccd cl outer) (call (.ref 82) [.str v t1, .str b t2]) Q E s := by
  have ret' : ∀ (h' : Heap) (tk' : Nat) (t : Tok) (zs : List Str), dueT v b rv rb = zs → s.heap.StaysIn h' → Q (.str (Txt.join (Str.ofString ".") (zs.take 3)) t) { s with heap := h', toks := tk' } := by
    intro h' tk' t zs e hst; subst e; exact ret h' tk' t hst
  clear ret
  revert X; k_fill; intro X
  refine wpAny_call ?_
  k_with_none; (k_with "ne" => (refine neN ?_; (try dsimp only); first | assumption | exact Ne.symm (by assumption) | exact And.left (by assumption) | exact And.right (by assumption) | exact Ne.symm (And.left (by assumption)) | exact Ne.symm (And.right (by assumption)) | ((refine' ne_lt ?hne ?mne); (case hne => assumption); (case mne => ((repeat (first | exact List.Mem.head _ | refine List.Mem.tail _ ?_)); done))) | ((refine' ne_gt ?hne ?mne); (case hne => assumption); (case mne => ((repeat (first | exact List.Mem.head _ | refine List.Mem.tail _ ?_)); done))) | ((refine' ne_all ?hne ?mne); (case hne => assumption); (case mne => ((repeat (first | exact List.Mem.head _ | refine List.Mem.tail _ ?_)); done))) | ((refine' ne_lla ?hne ?mne); (case hne => assumption); (case mne => ((repeat (first | exact List.Mem.head _ | refine List.Mem.tail _ ?_)); done))) | exact And.left (And.right (by assumption)) | exact And.right (And.right (by assumption)) | exact And.left (And.right (And.right (by assumption))) | exact And.right (And.right (And.right (by assumption))) | exact And.left (And.right (And.right (And.right (by assumption)))) | exact And.right (And.right (And.right (And.right (by assumption)))) | exact And.left (And.right (And.right (And.right (And.right (by assumption))))) | exact And.right (And.right (And.right (And.right (And.right (by assumption))))) | exact And.left (And.right (And.right (And.right (And.right (And.right (by assumption)))))) | exact And.right (And.right (And.right (And.right (And.right (And.right (by assumption)))))) | exact And.left (And.right (And.right (And.right (And.right (And.right (And.right (by assumption))))))) | exact And.right (And.right (And.right (And.right (And.right (And.right (And.right (by assumption))))))) | exact And.left (And.right (And.right (And.right (And.right (And.right (And.right (And.right (by assumption)))))))) | exact And.right (And.right (And.right (And.right (And.right (And.right (And.right (And.right (by assumption)))))))) | exact And.left (And.right (And.right (And.right (And.right (And.right (And.right (And.right (And.right (by assumption))))))))) | exact And.right (And.right (And.right (And.right (And.right (And.right (And.right (And.right (And.right (by assumption))))))))) | exact And.left (And.right (And.right (And.right (And.right (And.right (And.right (And.right (And.right (And.right (by assumption)))))))))) | exact And.right (And.right (And.right (And.right (And.right (And.right (And.right (And.right (And.right (And.right (by assumption)))))))))) | exact Ne.symm (And.left (And.right (by assumption))) | exact Ne.symm (And.right (And.right (by assumption))) | exact Ne.symm (And.left (And.right (And.right (by assumption)))) | exact Ne.symm (And.right (And.right (And.right (by assumption)))) | exact Ne.symm (And.left (And.right (And.right (And.right (by assumption))))) | exact Ne.symm (And.right (And.right (And.right (And.right (by assumption))))) | exact Ne.symm (And.left (And.right (And.right (And.right (And.right (by assumption)))))) | exact Ne.symm (And.right (And.right (And.right (And.right (And.right (by assumption)))))) | exact Ne.symm (And.left (And.right (And.right (And.right (And.right (And.right (by assumption))))))) | exact Ne.symm (And.right (And.right (And.right (And.right (And.right (And.right (by assumption))))))) | exact Ne.symm (And.left (And.right (And.right (And.right (And.right (And.right (And.right (by assumption)))))))) | exact Ne.symm (And.right (And.right (And.right (And.right (And.right (And.right (And.right (by assumption)))))))) | exact Ne.symm (And.left (And.right (And.right (And.right (And.right (And.right (And.right (And.right (by assumption))))))))) | exact Ne.symm (And.right (And.right (And.right (And.right (And.right (And.right (And.right (And.right (by assumption))))))))) | exact Ne.symm (And.left (And.right (And.right (And.right (And.right (And.right (And.right (And.right (And.right (by assumption)))))))))) | exact Ne.symm (And.right (And.right (And.right (And.right (And.right (And.right (And.right (And.right (And.right (by assumption)))))))))) | exact Ne.symm (And.left (And.right (And.right (And.right (And.right (And.right (And.right (And.right (And.right (And.right (by assumption))))))))))) | exact Ne.symm (And.right (And.right (And.right (And.right (And.right (And.right (And.right (And.right (And.right (And.right (by assumption))))))))))) | ((repeat (rename ∀ _ ∈ _, _ => hk9; replace hk9 := allLt_of hk9; simp only [AllLt, and_true] at hk9)); omega))); (k_with "lt" => (refine ltN ?_; (try dsimp only); first | assumption | ((refine' lt_mem ?hlt ?mlt); (case hlt => assumption); (case mlt => ((repeat (first | exact List.Mem.head _ | refine List.Mem.tail _ ?_)); done))) | omega)); (k_with "room" => ((try simp only [depth_under_make, depth_under_kw, depth_in1, depth_deeper, depth_caller]); (try dsimp only [ktrTop]); first | exact room2 (by assumption) (by decide) | exact room1 (by assumption) (by decide) | exact room3 (by assumption) (by decide) | exact room0 (by assumption))); (k_with "units" => ((try simp only [units_in1, units_deeper, Around.mark_units, units_caller]); (try dsimp only [ktrTop]); first | exact room2 (by assumption) (by decide) | exact room1 (by assumption) (by decide) | exact room3 (by assumption) (by decide) | exact room0 (by assumption))); (k_with "exec For" => refine stop ?_); (k_with "exec For Name" => refine stop ?_); (k_with "exec For Name Name" => refine stop ?_); (k_with "exec For Name Name cons" => refine stop ?_); (k_with "exec For Name Name cons nil" => refine stop ?_); (k_with "call ref" => (first | ((with_reducible show wpAny _ _ (call (Value.ref 75) [Value.str _ _, Value.int _ _]) _ _ _); k_dflt (refine' readS_call _ _ _ _ _ _ _ _ _ _ _ _ _ _ _ _ _ _ _ _ _ _ _ _ _ _ ?kwhxz _ _ ?kwhnz ?kwhrz ?kwhsz ?kwk1z ?kwk2z ?kwk3z ?kwk5z ?kwkKz ?kwk4z ?kwkdz ?kwkuz ?_; (case kwhxz => assumption); (case kwhrz => assumption); (case kwhnz => assumption); (case kwhsz => assumption); (case kwk1z => k_asm); (case kwk2z => k_asm); (case kwk3z => k_asm); (case kwk5z => k_asm); (case kwkKz => exact rfl); (case kwk4z => k_asm); (case kwkdz => ktr_room); (case kwkuz => ktr_units)); (intro l9kw c9kw h9kw tk9kw vs9kw F9kw N9kw ne9kw hi9kw hb9kw hz9kw); (have hq9kw := num_small hb9kw); (try dsimp only)) | ((with_reducible show wpAny _ _ (call (Value.ref 75) [Value.str _ _, Value.int _ _]) _ _ _); k_dflt (refine' readN_call _ _ _ _ _ _ _ _ _ _ _ _ _ _ _ _ _ _ _ _ _ _ _ _ _ _ ?kwhxz _ ?kwhnz ?kwhrz ?kwhsz ?kwk1z ?kwk2z ?kwk3z ?kwk5z ?kwkKz ?kwk4z ?kwkdz ?kwkuz ?_; (case kwhxz => assumption); (case kwhrz => assumption); (case kwhnz => assumption); (case kwhsz => assumption); (case kwk1z => k_asm); (case kwk2z => k_asm); (case kwk3z => k_asm); (case kwk5z => k_asm); (case kwkKz => exact rfl); (case kwk4z => k_asm); (case kwkdz => ktr_room); (case kwkuz => ktr_units)); (intro h9kw tk9kw F9kw N9kw); (try dsimp only)))); (k_with "getItem ref int" => (k_dflt (refine' last_get ?kwNz ?kwmz ?_; (case kwNz => k_asm); (case kwmz => k_mem)))); (k_with "setItem ref int" => (k_dflt (refine' last_set ?kwFz ?kwNz ?kwUz ?_; (case kwFz => k_asm); (case kwNz => k_asm); (case kwUz => k_upd)); intro hkwp Fkwp Nkwp; (try dsimp only [List.nil_append, List.cons_append] at Nkwp))); (k_with "subscriptTail Name Slice ref ref" => (k_dflt (refine' upto_list (k := 3) ?kwFz ?kwNz ?kwmz ?_ ?kwsz ?kwtz ?kwzz; (case kwFz => k_asm); (case kwNz => k_asm); (case kwmz => k_mem); (case kwsz => with_unfolding_all rfl); (case kwtz => kmk_pure); (case kwzz => first | omega | ((simp only [List.length_append, List.length_map, List.length_cons, List.length_nil]); omega))); intro Dkwp hkwp Fkwp Nkwp l1kw; (try k_lt l1kw))); (k_with "call builtin:str.join" => (k_dflt (refine' join_three ?kwNz ?kwmz ?kwsz ?kwyz ?kwbz ?_; (case kwNz => k_asm); (case kwmz => k_mem); (case kwsz => first | exact strs_b (by assumption) | assumption | exact strs_app (by assumption) (by assumption) | exact strs_app (by assumption) .nil); (case kwyz => decide +kernel); (case kwbz => first | exact all_b (by assumption) (by assumption) | assumption | exact all_app (by assumption) (by assumption) | exact all_app (by assumption) (by simp))); intro t8kw k8kw)); (k_with "execs cons" => ((with_reducible show wpAny _ _ (execs (Stmt.Assign _ (Expr.List _ _) _ :: _ :: _) _) _ _ _); refine stop ?_)); w_top off; w_strict ( (k_dflt (refine' code_pure ?k1 ?k2 ?k3 ?k5 ?kA ?kF ?kK ?k6 ?k7 ?k8 ?k9 ?kB ?_ ?c2 ?c3 ?c4 ?c5; (case kA => exact rfl); (case kF => exact rfl); (case kK => assumption); (case k1 => k_asm); (case k2 => k_asm); (case k3 => k_asm); (case k5 => k_asm); (case k6 => k_is); (case k7 => k_is); (case k8 => ktr_room); (case k9 => exact BindsTo.of_eq rfl); (case c5 => decide); (case kB => exact locs rfl); (case c2 => exact rfl); (case c3 => exact rfl); (case c4 => exact rfl); k_whole; intro L' h' F' N' B' X' T'; (try dsimp only); (try k_fold))); (replace F' : Fr s.heap L' h' (fun y => List.lookup y [(Str.ofString "build", Value.str b t2), (Str.ofString "version", Value.str v t1)]) := F'); (refine with_tail (CutT v t1 b t2 (dueT v b rv rb) s.heap L' s) ?tail ?head); (case tail => (intro s' hJ9; (refine CutT.elim hJ9 ?_); (clear hJ9); (intro mr h tk F₁ hdue); (have N₁ : News s.heap L' h [] := News.nil); (refine wpAny_execs_cons ?_); (try dsimp only); k_steps; (rename Fr _ _ _ _ => F8); (rename News _ _ _ (_ :: _) => N8); (refine Stop.mk ?_); (refine for_text rfl rfl rfl F8 N8 (fun Q' h => ld F8 rfl h) rfl rfl rfl ?turn ?done (by passes_own)); (case turn => (intro i c t m₁ news₁ h tk own hc hown hJ F₁ N₁; (revert F₁ N₁); (refine CutJ.turn hJ ?_); (clear hJ); (intro vs' tt' n mr hs hs'' hl hd9 hlv F₁ N₁); (simp only [List.cons_append, List.nil_append] at N₁); (replace F₁ : Fr s.heap L' h _ := F₁); (replace N₁ : News s.heap L' h _ := N₁); (have hi9 := (List.getElem?_eq_some_iff.mp hc).1); (rw [len_toList] at hi9); (have hcl := hd9 _ (List.mem_append.mpr (.inr (.head _)))); (rw [← S_len] at hcl); (try k_fold); k_steps; (all_goals first | ((rename News _ _ _ (_ :: _) => N8); (rw [List.push_toArray] at N8); exact InvEndN.intro (by assumption) N8 (cutJ_dot _ rfl rfl rfl hc (by assumption) hs hl hd9) rfl sub_own (fun p hp => List.mem_cons_of_mem _ hp)) | exact InvEndN.intro (by assumption) (by assumption) (cutJ_sign _ rfl rfl rfl hc (by assumption) hs'' hl hd9) rfl sub_own (fun p hp => List.mem_cons_of_mem _ hp)))); (case done => (intro m₁ news₁ h tk hJ F₁ N₁; (revert F₁ N₁); (refine CutJ.elim hJ ?_); (clear hJ); (intro vs n mr hs hl hd9 F₁ N₁); (have hsm := cut_small hv hd9); (rw [cut_whole] at hs); (have hlv := strs_len hs); (have hlv2 := congrArg List.length (cut_whole v)); (rw [List.length_append] at hlv2); (simp only [List.length_map, List.length_cons, List.length_nil] at hlv hlv2); (replace F₁ : Fr s.heap L' h _ := F₁); (replace N₁ : News s.heap L' h _ := N₁); (try k_fold); k_steps; (all_goals first | exact ret' _ _ _ _ (cut_e (by assumption) hdue) (Fr.keep (by assumption)) | exact ret' _ _ _ _ (cut_b (by assumption) hdue) (Fr.keep (by assumption))))))); (case head => (intro htail; (rcases rv with _ | tv); (all_goals rcases rb with _ | tb); k_steps; (all_goals first | exact ret' _ _ _ _ (dueT_E (by assumption)) (Fr.keep (by assumption)) | exact ret' _ _ _ _ (dueT_B (by assumption)) (Fr.keep (by assumption)) | ((refine Stop.mk ?_); exact htail _ (cutT_of (by assumption) rfl rfl cut_N)) | ((refine Stop.mk ?_); exact htail _ (cutT_of (by assumption) rfl rfl (cut_BN (by assumption))))))))
end Mine
end
section
open PySem PyProof.Rows
set_option Elab.async false
set_option maxRecDepth 100000
namespace Mine
theorem slot_map_init : Slot "map" "__init__" "object.__init__" :=
  .of (owner := "object") (n := "__init__") (by rw [typeLookup_type, builtinLookup_eq_fast]; kernel_rfl) (by decide +kernel) (by decide +kernel) (by decide +kernel)
    (by first | exact .inl (by decide +kernel) | exact .inr (by decide +kernel)) (by rw [isSubtype_type]; kernel_rfl)
theorem slot_map_iter : Slot "map" "__iter__" "map.__iter__" :=
  .of (owner := "map") (n := "__iter__") (by rw [typeLookup_type, builtinLookup_eq_fast]; kernel_rfl) (by decide +kernel) (by decide +kernel) (by decide +kernel)
    (by first | exact .inl (by decide +kernel) | exact .inr (by decide +kernel)) (by rw [isSubtype_type]; kernel_rfl)
theorem slot_map_next : Slot "map" "__next__" "map.__next__" :=
  .of (owner := "map") (n := "__next__") (by rw [typeLookup_type, builtinLookup_eq_fast]; kernel_rfl) (by decide +kernel) (by decide +kernel) (by decide +kernel)
    (by first | exact .inl (by decide +kernel) | exact .inr (by decide +kernel)) (by rw [isSubtype_type]; kernel_rfl)
theorem owner_map : Manifest.owners.lookup (String.ofList ['p', 'a', 'm'].reverse) = some Manifest.sig_map := by kernel_rfl
theorem args_map_iter_1 (a : Value) : argsOk "map.__iter__" ⟨[a], []⟩ := by
  unfold argsOk; rw [signature?_of (id := "map.__iter__") (n := ['_', '_', 'r', 'e', 't', 'i', '_', '_']) (o := ['p', 'a', 'm']) (by kernel_rfl) owner_map]; kernel_rfl
theorem args_map_next_1 (a : Value) : argsOk "map.__next__" ⟨[a], []⟩ := by
  unfold argsOk; rw [signature?_of (id := "map.__next__") (n := ['_', '_', 't', 'x', 'e', 'n', '_', '_']) (o := ['p', 'a', 'm']) (by kernel_rfl) owner_map]; kernel_rfl
theorem entry_map_next : entryFor table "map.__next__" = some Builtin.«map.__next__» := entryFor_of_tree (by kernel_rfl)
theorem entry_map_iter : entryFor table "map.__iter__" = some Builtin.«dict_keyiterator.__iter__» :=
  entryFor_alias (id' := "dict_keyiterator.__iter__") (by kernel_rfl) (by first | rfl | decide +kernel | (unfold String.splitOn; simp +decide [String.splitOnAux])) (by decide +kernel) (by kernel_rfl)
theorem mro_map : mroOf (.type "map") = pure [.type "map", .type "object"] := by rw [mroOf_type]; kernel_rfl
theorem lookup_map_new : typeLookup (.type "map") "__new__" = pure (some (.builtin "map.__new__")) := by rw [typeLookup_type, builtinLookup_eq_fast]; kernel_rfl
theorem called_map : TypeCalled "map" "map.__new__" "object.__init__" :=
  ⟨by decide +kernel, by decide +kernel, ⟨_, _, mro_map⟩, madeBy_type mro_map lookup_map_new (by decide +kernel), by decide +kernel, by rw [isSubtype_type]; kernel_rfl, slot_map_init⟩
theorem typeCall_map_2 (a b : Value) : checkTypeCall "map" ⟨[a, b], []⟩ = pure () := by kernel_rfl
theorem newCall_map_2 (a b : Value) : checkBuiltinCall "map.__new__" ⟨[.type "map", a, b], []⟩ = pure () := by kernel_rfl
theorem entry_map_new : entryFor table "map.__new__" = some Builtin.«map.__new__» := entryFor_of_tree (by kernel_rfl)
theorem sub_map : isSubtype (.type "map") (.type "map") = pure true := by rw [isSubtype_type]; kernel_rfl
theorem map_no_len : typeLookup (.type "map") "__len__" = pure none := by rw [typeLookup_type, builtinLookup_eq_fast]; kernel_rfl
theorem map_no_hint : typeLookup (.type "map") "__length_hint__" = pure none := by rw [typeLookup_type, builtinLookup_eq_fast]; kernel_rfl
noncomputable abbrev mapObj (T : Addr) (f : Value) : Obj := { cls := .type "map", data := .fields #[.ref T, f] }
noncomputable abbrev oneTup (v : Value) : Obj := { cls := .type "tuple", data := .seq #[v] }
noncomputable abbrev lIter (l : Addr) (k : Nat) : Obj := { cls := .type "list_iterator", data := .fields #[.ref l, .int k 0] }
section
variable {prog : Program} {w : World} {A : Around} {E : Value → Shared → Prop} {s : Shared}
theorem pyIter_map {z T : Addr} {f : Value} {Q : Value → Shared → Prop} (hz : s.heap.get? z = some (mapObj T f)) (h : Q (.ref z) s) : wpAny (model prog w) A (pyIter (.ref z)) Q E s := by
  have hT : s.TypeIs (.ref z) "map" := ⟨_, hz, rfl⟩
  refine wpAny_pyIter_slot hT slot_map_iter (wpAny_call_entry slot_map_iter hT entry_map_iter ?_ (args_map_iter_1 _))
  show wpAny _ _ (ret (.ref z)) _ _ s
  exact wpAny_pure ⟨_, rfl, "map", _, hT, slot_map_next.lookup, h⟩
end
theorem meets_map_list (f : Value) (l : Addr) (xs : Array Value) :
    Meets (Builtin.«map.__new__» ⟨[.type "map", f, .ref l], []⟩) (fun _ R s => s.heap.IsList l xs ∧
      R (.ok (.ret (.ref (s.heap.objs.size + 2)))) { s with heap := ((s.heap.push (lIter l 0)).push (oneTup (.ref s.heap.objs.size))).push (mapObj (s.heap.objs.size + 1) f) }) :=
  .of_wp fun prog w A R s h => by
    obtain ⟨hp, g, d, tk, os⟩ := s; obtain ⟨hl1, h⟩ := h
    have hsub := sub_map
    have hL1 : Heap.IsList (Shared.heap ⟨hp, g, d, tk, os⟩) l xs := hl1
    wp_walk using wpAny_pyIter_list hL1
    refine ⟨_, rfl, ?_⟩
    simp only [Heap.size_push] at h ⊢
    exact h
theorem meets_map_map (f f' : Value) (z T : Addr) :
    Meets (Builtin.«map.__new__» ⟨[.type "map", f, .ref z], []⟩) (fun _ R s => s.heap.get? z = some (mapObj T f') ∧
      R (.ok (.ret (.ref (s.heap.objs.size + 1)))) { s with heap := (s.heap.push (oneTup (.ref z))).push (mapObj s.heap.objs.size f) }) :=
  .of_wp fun prog w A R s h => by
    obtain ⟨hp, g, d, tk, os⟩ := s; obtain ⟨hl1, h⟩ := h
    have hsub := sub_map
    have hL1 : (Shared.heap ⟨hp, g, d, tk, os⟩).get? z = some (mapObj T f') := hl1
    wp_walk using pyIter_map hL1
    refine ⟨_, rfl, ?_⟩
    simp only [Heap.size_push] at h ⊢
    exact h
end Mine
end
section
open PySem PyProof.Rows
open Sem (wp)
set_option Elab.async false
set_option maxRecDepth 100000
namespace Mine
noncomputable abbrev mapCode (z : Addr) : Code := .builtin "map.__next__" ⟨[.ref z], []⟩
section
variable {prog : Program} {w : World} {A : Around} {E : Value → Shared → Prop} {s : Shared}
/-- the body of map.__next__, its own code known -/
theorem map_body {z T : Addr} {f it : Value} {Q : Value → Shared → Prop} (hz : s.heap.get? z = some (mapObj T f)) (hT : s.heap.get? T = some (oneTup it))
    (h : wpAny (model prog w) A (Builtin.SmallTypes.nextOf it) (fun v s₁ => s₁.heap.get? z = some (mapObj T f) ∧ PySem.wpAt (model prog w) A (mapCode z) (call f [v]) Q E s₁) E s) :
    PySem.wpAt (model prog w) A (mapCode z) (Builtin.«map.__next__» ⟨[.ref z], []⟩) (fun fin s' => ∃ v, fin = .done (.ret v) ∧ Q v s') E s := by
  show PySem.wpAt _ _ _ (field (.ref z) 0 >>= _) _ _ _
  refine PySem.wpAt_bind (PySem.wpAt_of_wpAny (wpAny_field hz rfl (x := .ref T) rfl ?_))
  refine PySem.wpAt_bind (PySem.wpAt_of_wpAny (wpAny_seqItems hT rfl ?_))
  refine PySem.wpAt_bind (PySem.wpAt_of_wpAny ?_)
  simp only [List.forIn_toArray, List.forIn_cons, List.forIn_nil]
  refine wpAny_bind (wpAny_bind (wpAny_holding (wpAny_mono h (fun v s₁ h₁ => wpAny_pure (wpAny_pure ?_)) fun _ _ e => e)))
  obtain ⟨hz₁, h₁⟩ := h₁
  refine PySem.wpAt_bind (PySem.wpAt_of_wpAny (wpAny_field hz₁ rfl (x := f) rfl ?_))
  refine PySem.wpAt_bind ?_
  intro Γ p hc hΓ
  rw [Sem.wp_holding]
  refine Sem.wp_mono _ Γ _ (fun r p' s₂ h₂ => ?_) (fun _ _ _ e => e) p s₁ (h₁ Γ p hc hΓ)
  intro Γ p hc hΓ
  have := PySem.wpAt_of_wpAny (M := model prog w) (A := A) (c := mapCode z) (E := E) (s := s₂) (wpAny_bind (m := letGo [v] [r]) (f := fun _ => ret r) (Q := fun fin s' => ∃ v, fin = .done (.ret v) ∧ Q v s') (wpAny_letGo (wpAny_pure ⟨_, rfl, h₂⟩)))
  exact this Γ p hc hΓ
theorem nextOf_map {z T : Addr} {f : Value} {Q : Value → Shared → Prop} (hz : s.heap.get? z = some (mapObj T f))
    (h : PySem.wpAt (model prog w) A.in1 (mapCode z) (Builtin.«map.__next__» ⟨[.ref z], []⟩) (fun fin s' => ∃ v, fin = .done (.ret v) ∧ Q v s') E s) :
    wpAny (model prog w) A (callSpecial? (.ref z) "__next__") (fun o s' => ∃ v, o = some v ∧ Q v s') E s := by
  have hT : s.TypeIs (.ref z) "map" := ⟨_, hz, rfl⟩
  refine wpAny_callSpecial?_slot (name := Str.ofString "__next__") hT slot_map_next (wpAny_call ?_)
  refine codeAny_call_builtin_code (plainId_quiet slot_map_next.plain _) ?_
  refine slot_map_next.check _ _ _ _ _ _ _ _ hT (args_map_next_1 _) ?_
  refine codeAny_builtinAt entry_map_next ?_
  rw [Around.under_plainId slot_map_next.plain]
  refine PySem.wpAt_mono h (fun fin s' h' => ?_) fun _ _ e => e
  obtain ⟨v, rfl, hv⟩ := h'
  exact ⟨v, rfl, hv⟩
end
end Mine
end
section
open PySem PyProof.Rows PySem.NumText
open Sem (wp)
set_option Elab.async false
set_option maxRecDepth 100000
namespace Mine
theorem typeCall_tree (x : Value) : ∃ K : Value → Sem Fin, Builtin.«type.__call__» ⟨[.type "int", x], []⟩ = (holding [.builtin "int.__new__"] (call (.builtin "int.__new__") [.type "int", x] []) >>= K) := by
  refine ⟨?K, ?_⟩
  rotate_left 1
  · unfold Builtin.«type.__call__»
    have h1 := F.called_int.notType
    have h2 := F.called_int.canCreate
    have h3 := F.called_int.made
    have h4 := F.mro_int
    simp only [h1, h2, h3, h4, F.typeCall_int_1, pure_bind, Bool.false_eq_true, if_false, List.isEmpty_cons]
    rfl
/-- a tree in one context -/
noncomputable def wpG {α : Type} (M : Model) (Γ : Ctx) (t : Sem α) (Q : α → Shared → Prop) (E : Value → Shared → Prop) (s : Shared) : Prop := ∀ p, wp M Γ t (fun a _ s' => Q a s') (fun e _ s' => E e s') p s
section
variable {α β : Type} {M : Model} {A : Around} {Γ : Ctx} {E : Value → Shared → Prop} {s : Shared}
theorem wpG_of {t : Sem α} {Q : α → Shared → Prop} (hΓ : Γ.In A) (h : wpAny M A t Q E s) : wpG M Γ t Q E s := fun p => h Γ p hΓ
theorem wpG_bind {m : Sem α} {f : α → Sem β} {Q : β → Shared → Prop} (h : wpG M Γ m (fun a s' => wpG M Γ (f a) Q E s') E s) : wpG M Γ (m >>= f) Q E s := fun p => by
  rw [Sem.wp_bind']
  exact Sem.wp_mono M Γ m (fun a p' s' h' => h' p') (fun _ _ _ h' => h') p s (h p)
theorem wpG_holding {vs : List Value} {m : Sem α} {Q : α → Shared → Prop} (h : wpG M Γ m Q E s) : wpG M Γ (holding vs m) Q E s := fun p => by rw [Sem.wp_holding]; exact h p
theorem wpG_pure {a : α} {Q : α → Shared → Prop} (h : Q a s) : wpG M Γ (pure a) Q E s := fun _ => h
theorem wpG_mark {own : List String} {e : Value} {Q : Unit → Shared → Prop} (hst : pythonCodeMadeTheCall own (Γ.code :: Γ.below.map (·.1)) = false) (h : Q () s) : wpG M Γ (markTheRefusal own e) Q E s := fun p => by
  unfold markTheRefusal
  rw [Sem.wp_bind']
  show wp M Γ (if pythonCodeMadeTheCall own (Γ.code :: Γ.below.map (·.1)) = true then _ else _) _ _ _ _
  rw [if_neg (by rw [hst]; decide)]
  exact h
end
section
variable {prog : Program} {w : World} {A : Around} {E : Value → Shared → Prop} {s : Shared} {x : Str} {t : Tok} {Q : Value → Shared → Prop} {Γ : Ctx}
theorem refuse (hΓ : Γ.In A) (hh : A.handled = none) (hst : pythonCodeMadeTheCall ["int.__new__"] (Γ.code :: Γ.below.map (·.1)) = false) (y : Str) (hy : y.length ≤ sizeLine)
    (hE : ∀ h' tk e, Heap.NewExc s.heap h' e "ValueError" → E (.ref e) { s with heap := h', toks := tk }) :
    wpG (model prog w) Γ (mkStr y >>= fun msg => newExc (.type "ValueError") [msg] >>= fun refusal => markTheRefusal ["int.__new__"] refusal >>= fun _ => (raiseNew refusal : Sem Value)) Q E s := by
  refine wpG_bind (wpG_of hΓ (wpAny_mkStr ?_ hy))
  refine wpG_bind (wpG_of hΓ (wpAny_newExc_plain plainExc_ValueError ?_))
  intro h' e hx
  refine wpG_bind (wpG_mark hst ?_)
  exact wpG_of hΓ (wpAny_raiseNew_none hh (hE h' _ e hx.newExc))
theorem text_bad (hΓ : Γ.In A) (hh : A.handled = none) (hst : pythonCodeMadeTheCall ["int.__new__"] (Γ.code :: Γ.below.map (·.1)) = false)
    (hs : (numSeenOf x).length ≤ 640) (hr : (int_private% "readNumeral") 0 10 (numSeenOf x) = int_private% "Numeral.invalid") (hz : (reprText x).length ≤ sizeLine)
    (hE : ∀ h' tk e, Heap.NewExc s.heap h' e "ValueError" → E (.ref e) { s with heap := h', toks := tk }) :
    wpG (model prog w) Γ ((int_private% "intFromText") (.str x t) (numTextOf x) 10) Q E s := by
  have hr' : (int_private% "readNumeral") 0 10 ((numTextOf x).takeWhile (· != 0)) = int_private% "Numeral.invalid" := hr
  have hs' : ((numTextOf x).takeWhile (· != 0)).length ≤ 640 := hs
  show wpG _ _ (if ((numTextOf x).takeWhile (· != 0)).length ≤ 640 then _ else _) _ _ _
  rw [if_pos hs']
  refine wpG_bind (wpG_pure ?_)
  dsimp only
  rw [hr']
  dsimp only
  refine wpG_bind (wpG_pure (a := none) ?_)
  rw [if_neg (by simp)]
  refine wpG_bind (wpG_of hΓ (wpAny_rule ?_))
  refine wpG_bind (wpG_pure (a := none) ?_)
  dsimp only
  refine wpG_bind (wpG_of hΓ (wpAny_pyRepr_str ?_ hz))
  refine refuse hΓ hh hst _ ?_ hE
  rw [Str.length_append, sizeLine_eq]
  have h1 : (⟨(reprText x).cps.extract 0 200⟩ : Str).length ≤ 200 := by
    show ((reprText x).cps.extract 0 200).size ≤ 200
    rw [Array.size_extract]; omega
  have h2 : (Str.ofString (toString "invalid literal for int() with base " ++ toString 10 ++ toString ": ")).length ≤ 100 := by decide +kernel
  omega
theorem no_special {n : Str} (h : typeLookup (.type "str") n = pure none) (x : Str) (t : Tok) : specialOf (.str x t) n = pure none := by
  first
  | exact h
  | (unfold specialOf; first | exact h | (simp only [show typeOf (.str x t) = pure (.type "str") from rfl, pure_bind]; exact h))
theorem no_call {n : Str} (h : typeLookup (.type "str") n = pure none) (x : Str) (t : Tok) : callSpecial? (.str x t) n = pure none := by
  simp only [callSpecial?, no_special h, pure_bind]
theorem wpG_eq {α β : Type} {M : Model} {Γ : Ctx} {E : Value → Shared → Prop} {s : Shared} {m : Sem α} {a : α} {f : α → Sem β} {Q : β → Shared → Prop} (e : m = pure a) (h : wpG M Γ (f a) Q E s) : wpG M Γ (m >>= f) Q E s := by
  subst e; exact wpG_bind (wpG_pure h)
theorem intObj_down {prog : Program} {w : World} {E : Value → Shared → Prop} {s : Shared} {x : Str} {t : Tok} {Q : Value → Shared → Prop} {Γ : Ctx}
    (h : wpG (model prog w) Γ ((int_private% "intFromText") (.str x t) (numTextOf x) 10) Q E s) : wpG (model prog w) Γ ((int_private% "intFromObject") (.str x t)) Q E s := by
  refine wpG_eq (no_call W.KIN.str_int x t) ?_
  dsimp only
  refine wpG_eq (no_special W.KIN.str_idx x t) ?_
  rw [if_neg (by simp)]
  refine wpG_eq (no_special W.KIN.str_trunc x t) ?_
  dsimp only
  exact h
theorem intNew_tree (x : Str) (t : Tok) : ∃ K : Value → Sem Fin, Builtin.«int.__new__» ⟨[.type "int", .str x t], []⟩ = ((int_private% "intFromObject") (.str x t) >>= K) := by
  refine ⟨?K, ?_⟩
  rotate_left 1
  · unfold Builtin.«int.__new__»
    have f1 := F.conv_sub_int
    have f2 := F.madeHere_int
    have f7 : isType (.type "int") = pure true := rfl
    simp only [f1, f2, f7, pure_bind, Bool.false_eq_true, if_false, Bool.not_true]
    rfl
end
section
variable {prog : Program} {w : World} {A : Around} {E : Value → Shared → Prop} {s : Shared} {x : Str} {t : Tok} {Q : Value → Shared → Prop}
theorem den_builtin {prog : Program} {w : World} {id : String} {args : Args} {b : Builtin} (hb : entryFor table id = some b) : (model prog w).den (.builtin id args) = b args := by
  show (match entryFor table id with | some b => b args | none => unsupported ((withoutEnding? id "#data").getD id)) = _
  rw [hb]
theorem stack_off (z : Addr) (x : Str) (t : Tok) (rest : List Code) :
    pythonCodeMadeTheCall ["int.__new__"] (Code.builtin "int.__new__" ⟨[.type "int", .str x t], []⟩ :: Code.builtin "type.__call__" ⟨[.type "int", .str x t], []⟩ :: mapCode z :: rest) = false := by
  unfold pythonCodeMadeTheCall
  rw [Bool.and_eq_false_iff]
  right
  rw [List.takeWhile_cons_of_pos rfl, List.takeWhile_cons_of_pos rfl, List.takeWhile_cons_of_pos rfl, List.all_cons, List.all_cons, List.all_cons]
  rw [Bool.and_eq_false_iff]; right
  rw [Bool.and_eq_false_iff]; right
  rw [Bool.and_eq_false_iff]; left
  have h1 : (["int.__new__"].contains "map.__next__") = false := by decide
  have h2 : ("map.__next__" == "type.__call__") = false := by decide
  show (["int.__new__"].contains "map.__next__" || ("map.__next__" == "type.__call__" && _)) = false
  rw [h1, h2]; rfl
section
variable {Γ : Ctx} {R : Result → Shared → Prop} {p : Pos} {id : String} {args : Args} {b : Builtin}
theorem builtin_G (hc : Γ.code = .builtin id args) (hb : entryFor table id = some b) (h : wp (model prog w) Γ (b args) (Sem.finPost (model prog w) Γ R) (fun e _ s' => R (.error e) s') p s) : wpCode (model prog w) Γ R p s := by
  rw [wpCode_iff_wp, hc, den_builtin hb]; exact h
theorem callBuiltin_G (hc : Γ.code = .call (.builtin id) args) (hq : (Code.builtin id args).quiet = true) (hck : checkBuiltinCall id args = pure ()) (h : wpCode (model prog w) (Γ.goto (.builtin id args)) R p s) : wpCode (model prog w) Γ R p s := by
  rw [wpCode_iff_wp, hc]
  show wp _ _ (do checkBuiltinCall id args; again (.builtin id args)) _ _ _ _
  rw [hck, Sem.wp_bind', Sem.wp_pure']
  exact ⟨hq, h⟩
theorem callType_G {T : String} {vs : List Value} (hc : Γ.code = .call (.type T) ⟨vs, []⟩) (hq : (Code.builtin "type.__call__" ⟨.type T :: vs, []⟩).quiet = true) (h : wpCode (model prog w) (Γ.goto (.builtin "type.__call__" ⟨.type T :: vs, []⟩)) R p s) : wpCode (model prog w) Γ R p s := by
  rw [wpCode_iff_wp, hc]
  exact ⟨hq, h⟩
end
theorem int_bad {z : Addr} (hh : A.handled = none) (hs : (numSeenOf x).length ≤ 640) (hr : (int_private% "readNumeral") 0 10 (numSeenOf x) = int_private% "Numeral.invalid") (hz : (reprText x).length ≤ sizeLine)
    (hE : ∀ h' tk e, Heap.NewExc s.heap h' e "ValueError" → E (.ref e) { s with heap := h', toks := tk }) :
    PySem.wpAt (model prog w) A (mapCode z) (call (.type "int") [.str x t]) Q E s := by
  intro Γ p hc hΓ
  unfold call
  rw [Sem.wp_runValue]
  have hB1 := hΓ.enter (.call (.type "int") ⟨[.str x t], []⟩) none p (by intro x; cases x)
  refine callType_G rfl (Code.quiet_builtin _ (by decide +kernel)) ?_
  have hB2 := (hB1.goto (.builtin "type.__call__" ⟨[.type "int", .str x t], []⟩)).in
  refine builtin_G rfl F.entry_type_call ?_
  obtain ⟨K, hK⟩ := typeCall_tree (.str x t)
  rw [hK, Sem.wp_bind', Sem.wp_holding]
  unfold call
  rw [Sem.wp_runValue]
  have hB3 := hB2.enter (.call (.builtin "int.__new__") ⟨[.type "int", .str x t], []⟩) none p (by intro x; cases x)
  refine callBuiltin_G rfl (Code.quiet_builtin _ (by decide +kernel)) (F.newCall_int_1 _) ?_
  have hB4 := (hB3.goto (.builtin "int.__new__" ⟨[.type "int", .str x t], []⟩)).in
  refine builtin_G rfl F.entry_int_new ?_
  obtain ⟨K2, hK2⟩ := intNew_tree x t
  rw [hK2, Sem.wp_bind']
  have fin := intObj_down (text_bad (prog := prog) (w := w) (t := t) (Q := fun _ _ => False) (E := E) (s := s) hB4 hh (by
    show pythonCodeMadeTheCall ["int.__new__"] (Code.builtin "int.__new__" ⟨[.type "int", .str x t], []⟩ :: Code.builtin "type.__call__" ⟨[.type "int", .str x t], []⟩ :: Γ.code :: Γ.below.map (·.1)) = false
    rw [hc]; exact stack_off z x t _) hs hr hz hE)
  exact Sem.wp_mono _ _ _ (fun _ _ _ f => f.elim) (fun _ _ _ e => e) p s (fin p)
end
end Mine
end
section
open PySem PyProof.Rows PySem.NumText
open Sem (wp)
set_option Elab.async false
set_option maxRecDepth 100000
namespace Mine
/-- a text that int() may be asked of here -/
structure Item (x : Str) : Prop where
  len : x.length ≤ 500
  full : ((numSeenOf x).length == (numTextOf x).length) = true
  rep : (reprText x).length ≤ sizeLine
  log : ∀ n, intText? x = some n → n.natAbs.log2 < 1920
/-- list(map(str, map(int, l))) under way -/
structure MapSt (M2 T2 M1 T1 I l : Addr) (vs : List Value) (k : Nat) (h : Heap) : Prop where
  m2 : h.get? M2 = some (mapObj T2 (.type "str"))
  t2 : h.get? T2 = some (oneTup (.ref M1))
  m1 : h.get? M1 = some (mapObj T1 (.type "int"))
  t1 : h.get? T1 = some (oneTup (.ref I))
  it : h.IsListIter I l k
  ls : h.IsList l vs.toArray
structure MapApart (M2 T2 M1 T1 I l : Addr) : Prop where
  m2 : M2 ≠ I
  t2 : T2 ≠ I
  m1 : M1 ≠ I
  t1 : T1 ≠ I
  ls : l ≠ I
section
variable {M2 T2 M1 T1 I l : Addr} {vs : List Value} {k : Nat} {h h' : Heap}
theorem MapSt.frame (S : MapSt M2 T2 M1 T1 I l vs k h) (hk : ∀ b o, h.get? b = some o → h'.get? b = some o) : MapSt M2 T2 M1 T1 I l vs k h' :=
  ⟨hk _ _ S.m2, hk _ _ S.t2, hk _ _ S.m1, hk _ _ S.t1, (let ⟨o, a, b⟩ := S.it; ⟨o, hk _ _ a, b⟩), S.ls.at fun o e => hk _ o e⟩
theorem MapSt.but (S : MapSt M2 T2 M1 T1 I l vs k h) (D : MapApart M2 T2 M1 T1 I l) {S' : Addr} (hk : ∀ b o, b ≠ S' → h.get? b = some o → h'.get? b = some o) (h1 : M2 ≠ S') (h2 : T2 ≠ S') (h3 : M1 ≠ S') (h4 : T1 ≠ S') (h5 : I ≠ S') (h6 : l ≠ S') : MapSt M2 T2 M1 T1 I l vs k h' :=
  ⟨hk _ _ h1 S.m2, hk _ _ h2 S.t2, hk _ _ h3 S.m1, hk _ _ h4 S.t1, (let ⟨o, a, b⟩ := S.it; ⟨o, hk _ _ h5 a, b⟩), S.ls.at fun o e => hk _ o h6 e⟩
theorem MapSt.step (S : MapSt M2 T2 M1 T1 I l vs k h) (D : MapApart M2 T2 M1 T1 I l) (hi : h'.IsListIter I l (k + 1)) (hs : Heap.SameBut I h h') : MapSt M2 T2 M1 T1 I l vs (k + 1) h' :=
  ⟨hs.extBut _ _ D.m2 S.m2, hs.extBut _ _ D.t2 S.t2, hs.extBut _ _ D.m1 S.m1, hs.extBut _ _ D.t1 S.t1, hi, S.ls.extBut hs.extBut D.ls⟩
end
section
variable {prog : Program} {w : World} {A : Around} {E : Value → Shared → Prop} {s : Shared} {M2 T2 M1 T1 I l : Addr} {vs : List Value} {k : Nat}
theorem nextOf_of {z : Value} {Q : Value → Shared → Prop} (h : wpAny (model prog w) A (callSpecial? z "__next__") (fun o s' => ∃ v, o = some v ∧ Q v s') E s) : wpAny (model prog w) A (Builtin.SmallTypes.nextOf z) Q E s := by
  unfold Builtin.SmallTypes.nextOf
  refine wpAny_bind (wpAny_mono h (fun o s' h' => ?_) fun _ _ e => e)
  obtain ⟨v, rfl, hv⟩ := h'
  exact wpAny_pure hv
theorem inner_item {x : Str} {t : Tok} {n : Int} {Q : Value → Shared → Prop} (S : MapSt M2 T2 M1 T1 I l vs k s.heap) (D : MapApart M2 T2 M1 T1 I l) (hx : vs[k]? = some (.str x t)) (hi : Item x) (hn : intText? x = some n)
    (h : ∀ h' tk u, MapSt M2 T2 M1 T1 I l vs (k + 1) h' → Heap.SameBut I s.heap h' → Q (.int n u) { s with heap := h', toks := tk }) : wpAny (model prog w) A (Builtin.SmallTypes.nextOf (.ref M1)) Q E s := by
  refine nextOf_of (nextOf_map S.m1 (map_body S.m1 S.t1 ?_))
  refine wpAny_nextOf_list_item S.it S.ls (x := .str x t) (by simpa using hx) fun h' hit hs => ?_
  have S' := S.step D hit hs
  exact ⟨S'.m1, PySem.wpAt_of_wpAny (W.KIN.call_text hn (Nat.le_trans hi.len (by decide)) (h h' _ _ S' hs))⟩
theorem inner_bad {x : Str} {t : Tok} {Q : Value → Shared → Prop} (hh : A.handled = none) (S : MapSt M2 T2 M1 T1 I l vs k s.heap) (D : MapApart M2 T2 M1 T1 I l) (hx : vs[k]? = some (.str x t)) (hi : Item x) (hn : intText? x = none)
    (h : ∀ h₁ h' tk e, Heap.SameBut I s.heap h₁ → Heap.NewExc h₁ h' e "ValueError" → E (.ref e) { s with heap := h', toks := tk }) : wpAny (model prog w) A (Builtin.SmallTypes.nextOf (.ref M1)) Q E s := by
  refine nextOf_of (nextOf_map S.m1 (map_body S.m1 S.t1 ?_))
  refine wpAny_nextOf_list_item S.it S.ls (x := .str x t) (by simpa using hx) fun h₁ hit hs => ?_
  have S' := S.step D hit hs
  have hlen : (numSeenOf x).length ≤ 640 := Nat.le_trans (seen_length x) (Nat.le_trans hi.len (by decide))
  have hr : (int_private% "readNumeral") 0 10 (numSeenOf x) = int_private% "Numeral.invalid" := by
    rcases read0 x hlen with ⟨m, h1, _, _⟩ | ⟨_, h1 | ⟨_, _, h2⟩⟩
    · rw [hn] at h1; cases h1
    · exact h1
    · exact absurd hi.full h2
  exact ⟨S'.m1, int_bad hh hlen hr hi.rep fun h' tk e hx => h h₁ h' tk e hs hx⟩
theorem inner_end {Q : Value → Shared → Prop} (hh : A.handled = none) (S : MapSt M2 T2 M1 T1 I l vs k s.heap) (hx : vs[k]? = none)
    (h : ∀ h' e, Heap.ExtBut I s.heap h' → (∃ o, h'.get? e = some o ∧ o.cls = .type "StopIteration") → E (.ref e) { s with heap := h' }) : wpAny (model prog w) A (Builtin.SmallTypes.nextOf (.ref M1)) Q E s := by
  refine nextOf_of (nextOf_map S.m1 (map_body S.m1 S.t1 ?_))
  exact wpAny_nextOf_list_end (A := A.in1) hh S.it S.ls (by simpa using hx) h
theorem outer_item {x : Str} {t : Tok} {n : Int} {Q : Option Value → Shared → Prop} (S : MapSt M2 T2 M1 T1 I l vs k s.heap) (D : MapApart M2 T2 M1 T1 I l) (hx : vs[k]? = some (.str x t)) (hi : Item x) (hn : intText? x = some n)
    (h : ∀ h' tk u, MapSt M2 T2 M1 T1 I l vs (k + 1) h' → Heap.SameBut I s.heap h' → Q (some (.str (Str.ofString (toString n)) u)) { s with heap := h', toks := tk }) : wpAny (model prog w) A (pyNext (.ref M2)) Q E s := by
  unfold pyNext
  refine wpAny_bind (wpAny_attempt (wpAny_mono (nextOf_map (Q := fun v s' => Q (some v) s') S.m2 (map_body S.m2 S.t2 (inner_item S D hx hi hn fun h' tk u S' hs => ?_))) (fun o s' h' => ?_) fun _ _ e => e))
  · exact ⟨S'.m2, PySem.wpAt_of_wpAny (P.str_of_int (hi.log n hn) (h h' _ _ S' hs))⟩
  · obtain ⟨v, rfl, hv⟩ := h'
    exact wpAny_pure hv
theorem outer_bad {x : Str} {t : Tok} {Q : Option Value → Shared → Prop} (hh : A.handled = none) (S : MapSt M2 T2 M1 T1 I l vs k s.heap) (D : MapApart M2 T2 M1 T1 I l) (hx : vs[k]? = some (.str x t)) (hi : Item x) (hn : intText? x = none)
    (h : ∀ h₁ h' tk e, Heap.SameBut I s.heap h₁ → Heap.NewExc h₁ h' e "ValueError" → E (.ref e) { s with heap := h', toks := tk }) : wpAny (model prog w) A (pyNext (.ref M2)) Q E s := by
  unfold pyNext
  refine wpAny_bind (wpAny_attempt (wpAny_mono (nextOf_map (Q := fun _ _ => False) S.m2 (map_body S.m2 S.t2 (inner_bad hh S D hx hi hn fun h₁ h' tk e hs hE => ?_))) (fun o s' h' => ?_) fun _ _ e => e))
  · obtain ⟨ob, tp, he, hc, hd⟩ := hE.there
    refine wpAny_bind (wpAny_isInstance (T := "ValueError") (b := false) ⟨ob, he, hc⟩ (by rw [isSubtype_type]; kernel_rfl) ?_)
    exact wpAny_throw (h h₁ h' tk e hs hE)
  · obtain ⟨v, rfl, hv⟩ := h'
    exact hv.elim
theorem outer_end {Q : Option Value → Shared → Prop} (hh : A.handled = none) (S : MapSt M2 T2 M1 T1 I l vs k s.heap) (hx : vs[k]? = none)
    (h : ∀ h', Heap.ExtBut I s.heap h' → Q none { s with heap := h' }) : wpAny (model prog w) A (pyNext (.ref M2)) Q E s := by
  unfold pyNext
  refine wpAny_bind (wpAny_attempt (wpAny_mono (nextOf_map (Q := fun _ _ => False) S.m2 (map_body S.m2 S.t2 (inner_end hh S hx fun h' e hk he => ?_))) (fun o s' h' => ?_) fun _ _ e => e))
  · obtain ⟨o, ho, hc⟩ := he
    refine wpAny_bind (wpAny_isInstance (T := "StopIteration") (b := true) ⟨o, ho, hc⟩ isSubtype_stop ?_)
    exact wpAny_pure (h _ hk)
  · obtain ⟨v, rfl, hv⟩ := h'
    exact hv.elim
end
end Mine
end
section
open PySem PyProof.Rows PySem.NumText
open Sem (wp)
set_option Elab.async false
set_option maxRecDepth 100000
namespace Mine
noncomputable def ints? : List Str → Option (List Int)
  | [] => some []
  | x :: r => match intText? x, ints? r with
    | some n, some ns => some (n :: ns)
    | _, _ => none
noncomputable abbrev tx (n : Int) : Str := Str.ofString (toString n)
theorem strs_at {vs : List Value} {xs : List Str} (h : StrsAre vs xs) : ∀ {k : Nat} {x : Str}, xs[k]? = some x → ∃ t, vs[k]? = some (.str x t) := by
  induction h with
  | nil => intro k x e; simp at e
  | cons y t _ ih =>
    intro k x e
    cases k with
    | zero => simp at e; exact ⟨t, by simp [e]⟩
    | succ k => obtain ⟨t', h'⟩ := ih (k := k) (x := x) (by simpa using e); exact ⟨t', by simpa using h'⟩
theorem strs_snoc' {vs : List Value} {xs : List Str} {y : Str} {t : Tok} (h : StrsAre vs xs) : StrsAre (vs ++ [.str y t]) (xs ++ [y]) := by
  induction h with
  | nil => exact .cons _ _ .nil
  | cons z u _ ih => exact .cons z u ih
theorem strs_length {vs : List Value} {xs : List Str} (h : StrsAre vs xs) : vs.length = xs.length := by
  induction h with
  | nil => rfl
  | cons z u _ ih => simp [ih]
section
variable {prog : Program} {w : World} {A : Around} {R : Result → Shared → Prop} {M2 T2 M1 T1 I l S : Addr} {vs : List Value} {xs : List Str}
/-- apart from the list that is made and the iterator below all stands -/
noncomputable def Kept (S I : Addr) (h h' : Heap) : Prop := ∀ b o, b ≠ S → b ≠ I → h.get? b = some o → h'.get? b = some o
theorem extend_loop (hh : A.handled = none) (D : MapApart M2 T2 M1 T1 I l) (h1 : M2 ≠ S) (h2 : T2 ≠ S) (h3 : M1 ≠ S) (h4 : T1 ≠ S) (h5 : I ≠ S) (h6 : l ≠ S) (hxs : StrsAre vs xs) (hI : ∀ x ∈ xs, Item x) (hz : xs.length ≤ 100000) (H : Heap)
    (res : Value) : ∀ (rest pre : List Str) (ns : List Int) (acc : List Value) (c : Nat) (s : Shared), xs = pre ++ rest → StrsAre acc (ns.map tx) → ns.length = pre.length → MapSt M2 T2 M1 T1 I l vs pre.length s.heap → s.heap.get? S = some (W.listOf acc.toArray c) → Kept S I H s.heap →
    (∀ ms, ints? rest = some ms → ∀ (acc' : List Value) c' h' tk, StrsAre acc' ((ns ++ ms).map tx) → h'.get? S = some (W.listOf acc'.toArray c') → Kept S I H h' → R (.ok (.ret res)) { s with heap := h', toks := tk }) →
    (ints? rest = none → ∀ h₁ h' tk e, Kept S I H h₁ → Heap.NewExc h₁ h' e "ValueError" → R (.error (.ref e)) { s with heap := h', toks := tk }) →
    codeAny (model prog w) A (.builtin "list.extend.loop" ⟨[.ref S, .ref M2, res], []⟩) R s := by
  intro rest
  induction rest with
  | nil =>
    intro pre ns acc c s hx hacc hn hst hS hK hok hbad
    refine codeAny_builtin F.entry_extend_loop ?_
    rw [Around.under_plainId F.plain_extend_loop _]
    show wpAny _ A.in1 (pyNext (.ref M2) >>= _) _ _ s
    have hend : vs[pre.length]? = none := by
      rw [List.getElem?_eq_none]
      rw [strs_length hxs, hx]; simp
    refine wpAny_bind (outer_end (A := A.in1) hh hst hend fun h' hk => ?_)
    refine wpAny_pure (hok [] rfl acc c h' _ (by rw [List.append_nil]; exact hacc) (hk S _ (Ne.symm h5) hS) fun b o hb hi e => hk b o hi (hK b o hb hi e))
  | cons x rest ih =>
    intro pre ns acc c s hx hacc hn hst hS hK hok hbad
    refine codeAny_builtin F.entry_extend_loop ?_
    rw [Around.under_plainId F.plain_extend_loop _]
    show wpAny _ A.in1 (pyNext (.ref M2) >>= _) _ _ s
    obtain ⟨t, hv⟩ := strs_at hxs (k := pre.length) (x := x) (by rw [hx]; simp)
    have hItem := hI x (by rw [hx]; simp)
    have hal : acc.length = pre.length := by rw [strs_length hacc, List.length_map, hn]
    have hpl : pre.length < 100000 := by rw [hx] at hz; simp at hz; omega
    cases hn' : intText? x with
    | none =>
      refine wpAny_bind (outer_bad (A := A.in1) hh hst D hv hItem hn' fun h₁ h' tk e hs hE => ?_)
      exact hbad (by simp [ints?, hn']) h₁ h' tk e (fun b o hb hi e => hs.extBut _ _ hi (hK b o hb hi e)) hE
    | some n =>
      refine wpAny_bind (outer_item (A := A.in1) hst D hv hItem hn' fun h' tk u hst' hs => ?_)
      have hS' : h'.get? S = some (W.listOf acc.toArray c) := hs.extBut _ _ (Ne.symm h5) hS
      show wpAny _ A.in1 (updateSeq S (·.push (.str (tx n) u)) >>= _) _ _ _
      refine wpAny_bind ?_
      refine wpAny_updateSeq hS' rfl (wpAny_pure ⟨plainId_quiet F.plain_extend_loop _, ?_⟩) (by rw [List.size_toArray, hal, sizeLine_eq]; omega) (by show (acc.toArray.push _).size ≤ sizeLine + 1; rw [Array.size_push, List.size_toArray, hal, sizeLine_eq]; omega)
      have hg := Heap.get?_update_self (Obj.mapSeq (·.push (Value.str (tx n) u))) hS' rfl
      have oth : ∀ b o, b ≠ S → h'.get? b = some o → (h'.update S (Obj.mapSeq (·.push (Value.str (tx n) u)))).get? b = some o := fun b o hb e => (Heap.get?_update_other _ _ (Ne.symm hb)).trans e
      refine ih (pre ++ [x]) (ns ++ [n]) (acc ++ [.str (tx n) u]) (c + 1) _ (by rw [hx]; simp) (by rw [List.map_append]; exact strs_snoc' hacc) (by simp [hn]) ?_ ?_ ?_ ?_ ?_
      · rw [List.length_append]; exact hst'.but D oth h1 h2 h3 h4 h5 h6
      · exact hg.trans (by simp [Obj.mapSeq])
      · intro b o hb hi e; exact oth b o hb (hs.extBut _ _ hi (hK b o hb hi e))
      · intro ms hms acc' c' h'' tk' ha hS'' hK''
        refine hok (n :: ms) (by simp [ints?, hn', hms]) acc' c' h'' tk' (by rw [List.append_assoc] at ha; exact ha) hS'' hK''
      · intro hnone h₁ h'' tk' e hK₁ hE
        exact hbad (by simp [ints?, hn', hnone]) h₁ h'' tk' e hK₁ hE
end
end Mine
end
section
open PySem PyProof.Rows PySem.NumText
open Sem (wp)
set_option Elab.async false
set_option maxRecDepth 100000
namespace Mine
section
variable {prog : Program} {w : World} {A : Around} {R : Result → Shared → Prop} {s : Shared} {M2 T2 M1 T1 I l S : Addr} {vs : List Value} {xs : List Str}
theorem extend_map (hh : A.handled = none) (D : MapApart M2 T2 M1 T1 I l) (h1 : M2 ≠ S) (h2 : T2 ≠ S) (h3 : M1 ≠ S) (h4 : T1 ≠ S) (h5 : I ≠ S) (h6 : l ≠ S) (hxs : StrsAre vs xs) (hI : ∀ x ∈ xs, Item x) (hz : xs.length ≤ 100000) (H : Heap)
    (res : Value) (c₀ : Nat) (hst : MapSt M2 T2 M1 T1 I l vs 0 s.heap) (hS : s.heap.get? S = some (W.listOf #[] c₀)) (hK : Kept S I H s.heap)
    (hok : ∀ ms, ints? xs = some ms → ∀ (acc' : List Value) c' h' tk, StrsAre acc' (ms.map tx) → h'.get? S = some (W.listOf acc'.toArray c') → Kept S I H h' → R (.ok (.ret res)) { s with heap := h', toks := tk })
    (hbad : ints? xs = none → ∀ h₁ h' tk e, Kept S I H h₁ → Heap.NewExc h₁ h' e "ValueError" → R (.error (.ref e)) { s with heap := h', toks := tk }) :
    wpAny (model prog w) A.in1 (Builtin.List.listExtendWith (.ref S) (.ref M2) res)
      (fun fin s' => match fin with | .done f => R (.ok f) s' | .again c' => c'.quiet = true ∧ codeAny (model prog w) A c' R s') (fun e s' => R (.error e) s') s := by
  have hT : s.TypeIs (.ref M2) "map" := ⟨_, hst.m2, rfl⟩
  unfold Builtin.List.listExtendWith
  refine wpAny_bind (wpAny_typeOf hT ?_)
  have g1 : Builtin.List.listSameRef (.ref S) (.ref M2) = false := by simp [Builtin.List.listSameRef, Ne.symm h1]
  have g2 : (Value.type "map" == Value.type "list") = false := by decide
  have g3 : (Value.type "map" == Value.type "tuple") = false := by decide
  simp only [g1, g2, g3, Bool.or_false, Bool.false_eq_true, if_false]
  refine wpAny_bind (pyIter_map hst.m2 ?_)
  refine wpAny_bind (wpAny_holding ?_)
  unfold Builtin.List.listLengthHint
  refine wpAny_bind (wpAny_specialOf hT map_no_len ?_)
  show wpAny _ A.in1 (specialOf (Value.ref M2) (Str.ofString "__length_hint__") >>= _) _ _ _
  refine wpAny_bind (wpAny_specialOf hT map_no_hint ?_)
  refine wpAny_pure ?_
  show wpAny _ A.in1 (rule "list.extend.makes-room" >>= fun _ => Builtin.List.listTouch (.ref S) >>= fun _ =>
    again (.builtin "list.extend.loop" ⟨[.ref S, .ref M2, res], []⟩)) _ _ _
  refine wpAny_bind (wpAny_rule ?_)
  refine wpAny_bind ?_
  show wpAny _ A.in1 (updateSeq S (·.push .none) >>= fun _ => updateSeq S (·.pop)) _ _ _
  refine wpAny_bind (wpAny_updateSeq hS rfl ?_)
  have hS₂ := Heap.get?_update_self (Obj.mapSeq (·.push Value.none)) hS rfl
  refine wpAny_updateSeq (hz := by seq_fits) hS₂ rfl ?_
  have hS₃ := Heap.get?_update_self (Obj.mapSeq (·.pop)) hS₂ rfl
  have oth : ∀ b o, b ≠ S → s.heap.get? b = some o → ((s.heap.update S (Obj.mapSeq (·.push Value.none))).update S (Obj.mapSeq (·.pop))).get? b = some o :=
    fun b o hb e => (Heap.get?_update_other _ _ (Ne.symm hb)).trans ((Heap.get?_update_other _ _ (Ne.symm hb)).trans e)
  refine wpAny_pure ⟨plainId_quiet F.plain_extend_loop _, extend_loop hh D h1 h2 h3 h4 h5 h6 hxs hI hz H res xs [] [] [] (c₀ + 1 + 1) _ rfl .nil rfl (hst.but D oth h1 h2 h3 h4 h5 h6) ?_ ?_ ?_ ?_⟩
  · exact hS₃.trans (by simp [Obj.mapSeq])
  · intro b o hb hi e; exact oth b o hb (hK b o hb hi e)
  · intro ms hms acc' c' h' tk ha hS' hK'
    exact hok ms hms acc' c' h' tk ha hS' hK'
  · intro hn h₁ h' tk e hK₁ hE
    exact hbad hn h₁ h' tk e hK₁ hE
theorem init_map (hh : A.handled = none) (D : MapApart M2 T2 M1 T1 I l) (h1 : M2 ≠ S) (h2 : T2 ≠ S) (h3 : M1 ≠ S) (h4 : T1 ≠ S) (h5 : I ≠ S) (h6 : l ≠ S) (hxs : StrsAre vs xs) (hI : ∀ x ∈ xs, Item x) (hz : xs.length ≤ 100000) (H : Heap)
    (hst : MapSt M2 T2 M1 T1 I l vs 0 s.heap) (hS : s.heap.get? S = some (W.listOf #[] 0)) (hK : Kept S I H s.heap)
    (hok : ∀ ms, ints? xs = some ms → ∀ (acc' : List Value) c' h' tk, StrsAre acc' (ms.map tx) → h'.get? S = some (W.listOf acc'.toArray c') → Kept S I H h' → R (.ok (.ret .none)) { s with heap := h', toks := tk })
    (hbad : ints? xs = none → ∀ h₁ h' tk e, Kept S I H h₁ → Heap.NewExc h₁ h' e "ValueError" → R (.error (.ref e)) { s with heap := h', toks := tk }) :
    wpAny (model prog w) A.in1 (Builtin.«list.__init__» ⟨[.ref S, .ref M2], []⟩)
      (fun fin s' => match fin with | .done f => R (.ok f) s' | .again c' => c'.quiet = true ∧ codeAny (model prog w) A c' R s') (fun e s' => R (.error e) s') s := by
  show wpAny _ A.in1 (do let old ← Builtin.List.listItems (.ref S); Builtin.List.listUpdate (.ref S) (fun _ => #[]); letGo old.toList.reverse; Builtin.List.listExtendWith (.ref S) (.ref M2) .none) _ _ s
  refine wpAny_bind ?_
  unfold Builtin.List.listItems
  refine wpAny_bind (wpAny_seqItems hS rfl (wpAny_pure ?_))
  show wpAny _ A.in1 (updateSeq S (fun _ => #[]) >>= fun _ => letGo (#[] : Array Value).toList.reverse >>= fun _ => Builtin.List.listExtendWith (.ref S) (.ref M2) .none) _ _ s
  refine wpAny_bind (wpAny_updateSeq hS rfl ?_)
  have hS₂ := Heap.get?_update_self (Obj.mapSeq (fun _ => (#[] : Array Value))) hS rfl
  have oth : ∀ b o, b ≠ S → s.heap.get? b = some o → (s.heap.update S (Obj.mapSeq (fun _ => (#[] : Array Value)))).get? b = some o :=
    fun b o hb e => (Heap.get?_update_other _ _ (Ne.symm hb)).trans e
  refine wpAny_bind (wpAny_letGo ?_)
  refine extend_map hh D h1 h2 h3 h4 h5 h6 hxs hI hz H .none 0 (hst.but D oth h1 h2 h3 h4 h5 h6) (hS₂.trans (by simp [Obj.mapSeq])) ?_ ?_ ?_
  · intro b o hb hi e; exact oth b o hb (hK b o hb hi e)
  · exact hok
  · exact hbad
end
section
variable {prog : Program} {w : World} {A : Around} {E : Value → Shared → Prop} {s : Shared} {M2 T2 M1 T1 I l : Addr} {vs : List Value} {xs : List Str} {Q : Value → Shared → Prop}
theorem call_list_map (hh : A.handled = none) (D : MapApart M2 T2 M1 T1 I l) (hxs : StrsAre vs xs) (hI : ∀ x ∈ xs, Item x) (hz : xs.length ≤ 100000) (hst : MapSt M2 T2 M1 T1 I l vs 0 s.heap)
    (hok : ∀ ms, ints? xs = some ms → ∀ (acc' : List Value) c' h' tk, StrsAre acc' (ms.map tx) → h'.get? s.heap.objs.size = some (W.listOf acc'.toArray c') → Kept s.heap.objs.size I s.heap h' → Q (.ref s.heap.objs.size) { s with heap := h', toks := tk })
    (hbad : ints? xs = none → ∀ h₁ h' tk e, Kept s.heap.objs.size I s.heap h₁ → Heap.NewExc h₁ h' e "ValueError" → E (.ref e) { s with heap := h', toks := tk }) :
    wpAny (model prog w) A (call (.type "list") [.ref M2]) Q E s := by
  have ne : ∀ {b o}, s.heap.get? b = some o → b ≠ s.heap.objs.size := fun e => Nat.ne_of_lt (Heap.lt_size e)
  obtain ⟨oi, hoi, _⟩ := id hst.it
  obtain ⟨ol, hol, _⟩ := id hst.ls
  refine callType_codes (Q₁ := fun obj s₁ => obj = .ref s.heap.objs.size ∧ s₁ = { s with heap := s.heap.push { cls := .type "list", data := .seq #[] } }) F.called_list (F.typeCall_list_1 _) F.entry_list_init
    (code_list_new _ ⟨rfl, rfl⟩) fun obj s₁ h₁ => ?_
  obtain ⟨rfl, rfl⟩ := h₁
  have hS : (s.heap.push { cls := .type "list", data := .seq #[] }).get? s.heap.objs.size = some { cls := .type "list", data := .seq #[] } := Heap.get?_push_size _ rfl
  refine ⟨⟨_, hS, rfl⟩, F.args_list_init_2 _ _, ?_⟩
  refine init_map (A := A.in1) hh D (ne hst.m2) (ne hst.t2) (ne hst.m1) (ne hst.t1) (ne hoi) (ne hol) hxs hI hz s.heap (hst.frame fun b o e => Heap.get?_push_of_some _ e) hS (fun b o _ _ e => Heap.get?_push_of_some _ e) ?_ ?_
  · intro ms hms acc' c' h' tk ha hS' hK'
    exact ⟨rfl, hok ms hms acc' c' h' tk ha hS' hK'⟩
  · intro hn h₁ h' tk e hK₁ hE
    exact hbad hn h₁ h' tk e hK₁ hE
end
/- the three calls, over a frame and its ledger -/
section
variable {prog : Program} {w : World} {A : Around} {E : Value → Shared → Prop} {s : Shared} {h₀ : Heap} {L : Addr} {m : Str → Option Value} {news : List (Addr × Obj)} {Q : Value → Shared → Prop}
theorem map_list_K {f : Value} {l : Addr} {vs : List Value} {n : Nat} (F : Fr h₀ L s.heap m) (N : News h₀ L s.heap news) (hl : (l, W.listOf vs.toArray n) ∈ news)
    (h : ∀ M T I h', Fr h₀ L h' m → News h₀ L h' ((M, mapObj T f) :: (T, oneTup (.ref I)) :: (I, lIter l 0) :: news) → (∀ p ∈ news, p.1 < I) → @LT.lt Nat _ I T ∧ @LT.lt Nat _ T M → Q (.ref M) { s with heap := h' }) :
    wpAny (model prog w) A (call (.type "map") [f, .ref l]) Q E s := by
  refine callType_new called_map (by decide) (typeCall_map_2 _ _) (newCall_map_2 _ _) (fun obj => PySem.F.args_object_init_3 obj _ _) entry_map_new (meets_map_list f l vs.toArray) ⟨N.isList hl, ?_⟩
  have N1 := News.push F N (lIter l 0)
  have F1 := F.push (lIter l 0)
  have N2 := News.push F1 N1 (oneTup (.ref s.heap.objs.size))
  have F2 := F1.push (oneTup (.ref s.heap.objs.size))
  have N3 := News.push F2 N2 (mapObj (s.heap.objs.size + 1) f)
  have F3 := F2.push (mapObj (s.heap.objs.size + 1) f)
  have z1 : (s.heap.push (lIter l 0)).objs.size = s.heap.objs.size + 1 := Heap.size_push ..
  have z2 : ((s.heap.push (lIter l 0)).push (oneTup (.ref s.heap.objs.size))).objs.size = s.heap.objs.size + 2 := by rw [Heap.size_push, z1]
  rw [z1, z2] at N3
  exact ⟨⟨_, (N3 _ (.head _)).1, rfl⟩, h _ _ _ _ F3 N3 (fun p hp => Heap.lt_size (N p hp).1) ⟨Nat.lt_succ_self _, Nat.lt_succ_self _⟩⟩
theorem map_map_K {f f' : Value} {z T : Addr} (F : Fr h₀ L s.heap m) (N : News h₀ L s.heap news) (hl : (z, mapObj T f') ∈ news)
    (h : ∀ M T' h', Fr h₀ L h' m → News h₀ L h' ((M, mapObj T' f) :: (T', oneTup (.ref z)) :: news) → (∀ p ∈ news, p.1 < T') → @LT.lt Nat _ T' M → Q (.ref M) { s with heap := h' }) :
    wpAny (model prog w) A (call (.type "map") [f, .ref z]) Q E s := by
  refine callType_new called_map (by decide) (typeCall_map_2 _ _) (newCall_map_2 _ _) (fun obj => PySem.F.args_object_init_3 obj _ _) entry_map_new (meets_map_map f f' z T) ⟨(N _ hl).1, ?_⟩
  have N1 := News.push F N (oneTup (.ref z))
  have F1 := F.push (oneTup (.ref z))
  have N2 := News.push F1 N1 (mapObj s.heap.objs.size f)
  have F2 := F1.push (mapObj s.heap.objs.size f)
  have z1 : (s.heap.push (oneTup (.ref z))).objs.size = s.heap.objs.size + 1 := Heap.size_push ..
  rw [z1] at N2
  exact ⟨⟨_, (N2 _ (.head _)).1, rfl⟩, h _ _ _ F2 N2 (fun p hp => Heap.lt_size (N p hp).1) (Nat.lt_succ_self _)⟩
theorem list_map_K {M2 T2 M1 T1 I l : Addr} {vs : List Value} {xs : List Str} {n : Nat} (hh : A.handled = none) (F : Fr h₀ L s.heap m)
    (N : News h₀ L s.heap ((M2, mapObj T2 (.type "str")) :: (T2, oneTup (.ref M1)) :: (M1, mapObj T1 (.type "int")) :: (T1, oneTup (.ref I)) :: (I, lIter l 0) :: news)) (hl : (l, W.listOf vs.toArray n) ∈ news)
    (a1 : ∀ p ∈ news, p.1 ≠ I) (a2 : @Ne Nat T1 I) (a3 : @Ne Nat M1 I) (a4 : @Ne Nat T2 I) (a5 : @Ne Nat M2 I) (hxs : StrsAre vs xs) (hI : ∀ x ∈ xs, Item x) (hz : xs.length ≤ 100000)
    (hok : ∀ ms, ints? xs = some ms → ∀ D (acc' : List Value) c' h' tk, StrsAre acc' (ms.map tx) → Fr h₀ L h' m → News h₀ L h' ((D, W.listOf acc'.toArray c') :: news) → (∀ p ∈ news, p.1 < D) → Q (.ref D) { s with heap := h', toks := tk })
    (hbad : ints? xs = none → ∀ h₁ h' tk e, Fr h₀ L h₁ m → News h₀ L h₁ news → Heap.NewExc h₁ h' e "ValueError" → E (.ref e) { s with heap := h', toks := tk }) :
    wpAny (model prog w) A (call (.type "list") [.ref M2]) Q E s := by
  have g := fun p hp => (N p hp).1
  have gI : s.heap.get? I = some (lIter l 0) := g (I, lIter l 0) (.tail _ (.tail _ (.tail _ (.tail _ (.head _)))))
  have Nn : News h₀ L s.heap news := fun p hp => N p (.tail _ (.tail _ (.tail _ (.tail _ (.tail _ hp)))))
  have hst : MapSt M2 T2 M1 T1 I l vs 0 s.heap := ⟨g _ (.head _), g _ (.tail _ (.head _)), g _ (.tail _ (.tail _ (.head _))), g _ (.tail _ (.tail _ (.tail _ (.head _)))), ⟨_, gI, rfl, rfl⟩, Nn.isList hl⟩
  have hIL : I ≠ L := (N (I, lIter l 0) (.tail _ (.tail _ (.tail _ (.tail _ (.head _)))))).2.1
  have hI0 : h₀.get? I = none := (N (I, lIter l 0) (.tail _ (.tail _ (.tail _ (.tail _ (.head _)))))).2.2
  have keepF : ∀ h', Kept s.heap.objs.size I s.heap h' → Fr h₀ L h' m := fun h' hk =>
    ⟨F.ns.at' fun o e => hk L o (Nat.ne_of_lt F.ns.lt) (Ne.symm hIL) e, fun b o e => hk b o (Nat.ne_of_lt (Heap.lt_size (F.keep b o e))) (fun q => by rw [q, hI0] at e; cases e) (F.keep b o e), F.above⟩
  have keepN : ∀ h', Kept s.heap.objs.size I s.heap h' → News h₀ L h' news := fun h' hk p hp => ⟨hk p.1 p.2 (Nat.ne_of_lt (Heap.lt_size (Nn p hp).1)) (a1 p hp) (Nn p hp).1, (Nn p hp).2⟩
  refine call_list_map hh ⟨a5, a4, a3, a2, a1 _ hl⟩ hxs hI hz hst ?_ ?_
  · intro ms hms acc' c' h' tk ha hS' hK'
    refine hok ms hms _ acc' c' h' tk ha (keepF h' hK') ?_ (fun p hp => Heap.lt_size (Nn p hp).1)
    intro p hp
    rcases List.mem_cons.mp hp with rfl | hp
    · exact ⟨hS', Nat.ne_of_gt F.ns.lt, next_is_new F⟩
    · exact keepN h' hK' p hp
  · intro hn h₁ h' tk e hK₁ hE
    exact hbad hn h₁ h' tk e (keepF h₁ hK₁) (keepN h₁ hK₁) hE
end
end Mine
end
section
open PySem PySem.W PyProof.Rows PySem.Calls
set_option Elab.async false
set_option maxRecDepth 100000
namespace Mine
/-- a text of at most n signs, all of them plain -/
noncomputable def gB (n : Nat) (y : Str) : Bool := y.cps.toList.all (fun c => 32 ≤ c && c ≤ 126) && decide (y.length ≤ n)
noncomputable def G (n : Nat) (y : Str) : Prop := gB n y = true
theorem G.chars {n : Nat} {y : Str} (h : G n y) : ∀ c ∈ y.cps.toList, 32 ≤ c ∧ c ≤ 126 := by
  unfold G gB at h
  rw [Bool.and_eq_true] at h
  intro c hc
  have := List.all_eq_true.mp h.1 c hc
  simpa using this
theorem G.len {n : Nat} {y : Str} (h : G n y) : y.length ≤ n := by
  unfold G gB at h
  rw [Bool.and_eq_true] at h
  exact of_decide_eq_true h.2
theorem G.mk {n : Nat} {y : Str} (h1 : ∀ c ∈ y.cps.toList, 32 ≤ c ∧ c ≤ 126) (h2 : y.length ≤ n) : G n y := by
  unfold G gB
  rw [Bool.and_eq_true]
  refine ⟨List.all_eq_true.mpr fun c hc => ?_, decide_eq_true h2⟩
  have := h1 c hc
  simp; (first | lia | omega)
theorem G.mono {n k : Nat} {y : Str} (h : G n y) (hk : n ≤ k) : G k y := .mk h.chars (Nat.le_trans h.len hk)
theorem G.app {n k : Nat} {x y : Str} (h : G n x) (h' : G k y) : G (n + k) (x ++ y) := by
  refine .mk (fun c hc => ?_) (by rw [Str.length_append]; have := h.len; have := h'.len; (first | lia | omega))
  rw [append_toList] at hc
  rcases List.mem_append.mp hc with hc | hc
  · exact h.chars c hc
  · exact h'.chars c hc
theorem digit_range (d : Nat) (h : d < 10) : 32 ≤ (Nat.digitChar d).toNat ∧ (Nat.digitChar d).toNat ≤ 126 := by
  have : ∀ d : Nat, d < 10 → 32 ≤ (Nat.digitChar d).toNat ∧ (Nat.digitChar d).toNat ≤ 126 := by decide
  exact this d h
theorem digits_plain (m : Nat) : ∀ c ∈ (Nat.toDigits 10 m).map Char.toNat, 32 ≤ c ∧ c ≤ 126 := by
  induction m using Nat.strongRecOn with
  | _ m ih =>
    by_cases h : m < 10
    · rw [Nat.toDigits_of_lt_base h]
      intro c hc
      simp only [List.map_cons, List.map_nil, List.mem_singleton] at hc
      rw [hc]; exact digit_range m h
    · have hm : m % 10 < 10 := Nat.mod_lt m (by decide)
      have t : Nat.toDigits 10 (m / 10) ++ Nat.toDigits 10 (m % 10) = Nat.toDigits 10 (10 * (m / 10) + m % 10) := Nat.toDigits_append_toDigits (by decide) (by (first | lia | omega)) hm
      rw [Nat.div_add_mod] at t
      rw [← t, List.map_append]
      intro c hc
      rcases List.mem_append.mp hc with hc | hc
      · exact ih (m / 10) (by (first | lia | omega)) c hc
      · rw [Nat.toDigits_of_lt_base hm] at hc
        simp only [List.map_cons, List.map_nil, List.mem_singleton] at hc
        rw [hc]; exact digit_range _ hm
theorem digits_short : ∀ (k m : Nat), m < 10 ^ (k + 1) → ((Nat.toDigits 10 m).map Char.toNat).length ≤ k + 1 := by
  intro k
  induction k with
  | zero =>
    intro m h
    have h' : m < 10 := by simpa using h
    rw [Nat.toDigits_of_lt_base h']; simp
  | succ k ih =>
    intro m h
    by_cases h' : m < 10
    · rw [Nat.toDigits_of_lt_base h']; simp
    · have hm : m % 10 < 10 := Nat.mod_lt m (by decide)
      have t : Nat.toDigits 10 (m / 10) ++ Nat.toDigits 10 (m % 10) = Nat.toDigits 10 (10 * (m / 10) + m % 10) := Nat.toDigits_append_toDigits (by decide) (by (first | lia | omega)) hm
      rw [Nat.div_add_mod] at t
      have := ih (m / 10) (by rw [Nat.pow_succ] at h; (first | lia | omega))
      rw [← t, List.map_append, List.length_append, Nat.toDigits_of_lt_base hm]
      simp only [List.map_cons, List.map_nil, List.length_cons, List.length_nil]; (first | lia | omega)
theorem G_num {x : Int} (h0 : 0 ≤ x) (h1 : x < 1000000) : G 5 (Str.ofString (toString (x.fdiv 16))) := by
  obtain ⟨k, hk⟩ := Int.eq_ofNat_of_zero_le h0
  subst hk
  have e : ((k : Int)).fdiv 16 = ((k / 16 : Nat) : Int) := by
    rw [Int.fdiv_eq_ediv_of_nonneg _ (by decide)]; rfl
  rw [e]
  have es := W.KIN.signs_num (k / 16)
  refine .mk ?_ ?_
  · rw [es]; exact digits_plain _
  · rw [← len_toList, es]; exact digits_short 4 _ (by simp; (first | lia | omega))
inductive AllG : List Value → Prop
  | nil : AllG []
  | cons {y : Str} {t : Tok} {vs : List Value} (h : G 40 y) (r : AllG vs) : AllG (.str y t :: vs)
theorem AllG.get {vs : List Value} (h : AllG vs) : ∀ {k : Nat}, k < vs.length → ∃ y t, vs[k]? = some (.str y t) ∧ G 40 y := by
  induction h with
  | nil => intro k hk; simp at hk
  | cons hy _ ih =>
    intro k hk
    cases k with
    | zero => exact ⟨_, _, rfl, hy⟩
    | succ k => obtain ⟨y, t, h1, h2⟩ := ih (k := k) (by simpa using hk); exact ⟨y, t, by simpa using h1, h2⟩
section
variable {prog : Program} {w : World} {A : Around} {E : Value → Shared → Prop} {s : Shared} {h₀ : Heap} {L : Addr} {news : List (Addr × Obj)} {n : Nat} {Q : Value → Shared → Prop}
theorem item_good {value slice : PySem.Expr} {l : Addr} {vs : List Value} {k : Int} {u : Tok}
    (N : News h₀ L s.heap news) (hl : (l, W.listOf vs.toArray n) ∈ news) (hv : AllG vs) (h0 : 0 ≤ k) (h1 : k < vs.length) (h2 : k < 1000) (h : ∀ y t, G 40 y → Q (.str y t) s)
    (hs : subscripted slice false (.ref l) (.int k u) = operate [.ref l, .int k u] (getItem (.ref l) (.int k u))) :
    wpAny (model prog w) A (subscriptTail value slice (.ref l) (.int k u)) Q E s := by
  obtain ⟨y, t, hy, hg⟩ := hv.get (k := k.toNat) (by (first | lia | omega))
  exact tail_any (N.isList hl).typeIs slot_list_getitem.lookup (wpAny_getItem_list (N.isList hl) h0 (by (first | lia | omega)) (by simpa using hy) (h y t hg)) hs
end
theorem mod_lo (x : Int) {m : Int} (h : 0 < m) : 0 ≤ x.fmod m := Int.fmod_nonneg_of_pos _ h
theorem mod_hi (x : Int) {m : Int} (h : 0 < m) : x.fmod m < m := Int.fmod_lt_of_pos _ h
theorem glit {y : Str} (h : gB 14 y = true) : G 14 y := h
end Mine
end
section
open PySem PySem.W PyProof.Rows PySem.Calls
set_option Elab.async false
set_option maxRecDepth 100000
namespace Mine
theorem list_no_inplace : fillsInplaceSlot (.type "list") "add" (Operator.Add == .Add) = pure false := by
  unfold fillsInplaceSlot
  show (typeLookup (.type "list") (dunderI "add") >>= fun fi => pure (fi.isSome && !isSeqSlot fi)) = pure false
  rw [show typeLookup (.type "list") (dunderI "add") = pure (some (.builtin "list.__iadd__")) from PySem.F.slot_list_iadd.lookup, pure_bind]
  have : ((some (Value.builtin "list.__iadd__")).isSome && !isSeqSlot (some (Value.builtin "list.__iadd__"))) = false := by decide +kernel
  rw [this]
theorem seq_list_iadd : seqSlot? (.type "list") (dunderI "add") = pure (some (.builtin "list.__iadd__")) := PySem.seqSlot_of PySem.F.slot_list_iadd.lookup (by decide +kernel)
section
variable {prog : Program} {w : World} {A : Around} {E : Value → Shared → Prop} {s : Shared} {h₀ : Heap} {L D b : Addr} {m : Str → Option Value} {news news' : List (Addr × Obj)} {n n2 : Nat} {Q : Value → Shared → Prop}
theorem iadd_lists {vs ws : List Value} (F : Fr h₀ L s.heap m) (N : News h₀ L s.heap news) (hb : (b, W.listOf ws.toArray n2) ∈ news) (hne : ws ≠ []) (U : Upd D (W.listOf vs.toArray n) (W.listOf (vs ++ ws).toArray (n + 1)) news news')
    (hz : vs.length ≤ 700000) (hz2 : ws.length ≤ 700000) (h : ∀ h', Fr h₀ L h' m → News h₀ L h' news' → Q (.ref D) { s with heap := h' }) : wpAny (model prog w) A (inplaceOp .Add (.ref D) (.ref b)) Q E s := by
  refine Classical.byContradiction fun hng => ?_
  obtain ⟨pre, post, rfl, rfl, a, c⟩ := U.split
  refine hng ?_
  have z := N (D, W.listOf vs.toArray n) (List.mem_append.mpr (.inr (.head _)))
  have ha : s.TypeIs (.ref D) "list" := ⟨_, z.1, rfl⟩
  have hb' : s.TypeIs (.ref b) "list" := ⟨_, (N _ hb).1, rfl⟩
  have hd : ¬(!vs.toArray.isEmpty && Builtin.List.listTooLong (vs.toArray.size + ws.toArray.size)) = true := by
    rw [List.size_toArray, List.size_toArray]
    have : Builtin.List.listTooLong (vs.length + ws.length) = false := by
      unfold Builtin.List.listTooLong
      rw [sizeLine_eq]; simp; omega
    rw [this]; simp
  unfold inplaceOp
  refine wpAny_holding ?_
  refine wpAny_bind (wpAny_typeOf ha (wpAny_bind (wpAny_of_eq list_no_inplace ?_)))
  show wpAny _ A (if false = true then _ else _) Q E s
  rw [if_neg Bool.false_ne_true]
  refine wpAny_bind (wpAny_binaryOp1_none (nm := "add") ha hb' noFill_list_add ?_)
  refine wpAny_bind (wpAny_of_eq seq_list_iadd ?_)
  refine wpAny_bind (wpAny_rule ?_)
  refine call_meets PySem.F.slot_list_iadd ⟨_, z.1, rfl⟩ PySem.F.entry_list_iadd (PySem.F.args_list_iadd_2 _ _) (PySem.AutoSeq1.list___iadd___list_list_0 D vs.toArray n b ws.toArray n2 hd (by rw [List.size_toArray, sizeLine_eq]; omega) (by rw [List.size_toArray, List.size_toArray, sizeLine_eq]; omega)) ⟨z.1, (N _ hb).1, h _ (F.change (Heap.SameBut.update ..) z.2.1 z.2.2) (kl_turn _ N a c ?_ ?_)⟩
  · simp
  · rw [List.size_toArray, List.size_toArray, List.length_append]
    have := List.length_pos_iff.mpr hne
    omega
end
end Mine
end
section
open PySem PySem.W PyProof.Rows PySem.Calls
set_option Elab.async false
set_option maxRecDepth 100000
set_option maxHeartbeats 8000000
namespace Mine
theorem piece_walk (w : World) (dp un : Nat) (gd : Option (List Code)) (cn : Str) (cs : Scope) (a : Addr) (ccd : Value) (cl : List (Str × Addr)) (outer : List Env) (A₀ : Around) (base h₀ : Heap) (L : Addr) (m mg mb : Str → Option Value) (mean : ExcName → Option Value) (s : Shared) (Q E : Value → Shared → Prop)
   (x : Int) (t1 : Tok) (hx0 : 0 ≤ x) (hx1 : x < 1000000)
   (B : Below A₀ base outer h₀) (F : Fr h₀ L s.heap m) (X : (hd.heap_39 w.params).In h₀) (T : Top VV LL mean mg mb h₀) (hk : cs.kind = .function)
   (hdp : dp + 8 < recursionLimit) (hun : un + 40 < cLine)
   (ret : ∀ (h' : Heap) (tk' : Nat) (t : Tok) (y : Str), G 40 y → s.heap.StaysIn h' → Q (.str y t) { s with heap := h', toks := tk' }) :
   wpAny (model PySem.Challenge.rw_mj0140_01.row.prog w) (ktrTop dp un gd cn cs L a ccd cl outer) (call (.ref 53) [.int x t1]) Q E s := by
  have hq5 := G_num hx0 hx1
  revert X; k_fill; intro X
  refine wpAny_call ?_
  k_with_none; (k_with "ne" => (refine neN ?_; (try dsimp only); first | assumption | exact Ne.symm (by assumption) | exact And.left (by assumption) | exact And.right (by assumption) | exact Ne.symm (And.left (by assumption)) | exact Ne.symm (And.right (by assumption)) | ((refine' ne_lt ?hne ?mne); (case hne => assumption); (case mne => ((repeat (first | exact List.Mem.head _ | refine List.Mem.tail _ ?_)); done))) | ((refine' ne_gt ?hne ?mne); (case hne => assumption); (case mne => ((repeat (first | exact List.Mem.head _ | refine List.Mem.tail _ ?_)); done))) | ((refine' ne_all ?hne ?mne); (case hne => assumption); (case mne => ((repeat (first | exact List.Mem.head _ | refine List.Mem.tail _ ?_)); done))) | ((refine' ne_lla ?hne ?mne); (case hne => assumption); (case mne => ((repeat (first | exact List.Mem.head _ | refine List.Mem.tail _ ?_)); done))) | exact And.left (And.right (by assumption)) | exact And.right (And.right (by assumption)) | exact And.left (And.right (And.right (by assumption))) | exact And.right (And.right (And.right (by assumption))) | exact And.left (And.right (And.right (And.right (by assumption)))) | exact And.right (And.right (And.right (And.right (by assumption)))) | exact And.left (And.right (And.right (And.right (And.right (by assumption))))) | exact And.right (And.right (And.right (And.right (And.right (by assumption))))) | exact And.left (And.right (And.right (And.right (And.right (And.right (by assumption)))))) | exact And.right (And.right (And.right (And.right (And.right (And.right (by assumption)))))) | exact And.left (And.right (And.right (And.right (And.right (And.right (And.right (by assumption))))))) | exact And.right (And.right (And.right (And.right (And.right (And.right (And.right (by assumption))))))) | exact And.left (And.right (And.right (And.right (And.right (And.right (And.right (And.right (by assumption)))))))) | exact And.right (And.right (And.right (And.right (And.right (And.right (And.right (And.right (by assumption)))))))) | exact And.left (And.right (And.right (And.right (And.right (And.right (And.right (And.right (And.right (by assumption))))))))) | exact And.right (And.right (And.right (And.right (And.right (And.right (And.right (And.right (And.right (by assumption))))))))) | exact And.left (And.right (And.right (And.right (And.right (And.right (And.right (And.right (And.right (And.right (by assumption)))))))))) | exact And.right (And.right (And.right (And.right (And.right (And.right (And.right (And.right (And.right (And.right (by assumption)))))))))) | exact Ne.symm (And.left (And.right (by assumption))) | exact Ne.symm (And.right (And.right (by assumption))) | exact Ne.symm (And.left (And.right (And.right (by assumption)))) | exact Ne.symm (And.right (And.right (And.right (by assumption)))) | exact Ne.symm (And.left (And.right (And.right (And.right (by assumption))))) | exact Ne.symm (And.right (And.right (And.right (And.right (by assumption))))) | exact Ne.symm (And.left (And.right (And.right (And.right (And.right (by assumption)))))) | exact Ne.symm (And.right (And.right (And.right (And.right (And.right (by assumption)))))) | exact Ne.symm (And.left (And.right (And.right (And.right (And.right (And.right (by assumption))))))) | exact Ne.symm (And.right (And.right (And.right (And.right (And.right (And.right (by assumption))))))) | exact Ne.symm (And.left (And.right (And.right (And.right (And.right (And.right (And.right (by assumption)))))))) | exact Ne.symm (And.right (And.right (And.right (And.right (And.right (And.right (And.right (by assumption)))))))) | exact Ne.symm (And.left (And.right (And.right (And.right (And.right (And.right (And.right (And.right (by assumption))))))))) | exact Ne.symm (And.right (And.right (And.right (And.right (And.right (And.right (And.right (And.right (by assumption))))))))) | exact Ne.symm (And.left (And.right (And.right (And.right (And.right (And.right (And.right (And.right (And.right (by assumption)))))))))) | exact Ne.symm (And.right (And.right (And.right (And.right (And.right (And.right (And.right (And.right (And.right (by assumption)))))))))) | exact Ne.symm (And.left (And.right (And.right (And.right (And.right (And.right (And.right (And.right (And.right (And.right (by assumption))))))))))) | exact Ne.symm (And.right (And.right (And.right (And.right (And.right (And.right (And.right (And.right (And.right (And.right (by assumption))))))))))) | ((repeat (rename ∀ _ ∈ _, _ => hk9; replace hk9 := allLt_of hk9; simp only [AllLt, and_true] at hk9)); omega))); (k_with "lt" => (refine ltN ?_; (try dsimp only); first | assumption | ((refine' lt_mem ?hlt ?mlt); (case hlt => assumption); (case mlt => ((repeat (first | exact List.Mem.head _ | refine List.Mem.tail _ ?_)); done))) | omega)); (k_with "room" => ((try simp only [depth_under_make, depth_under_kw, depth_in1, depth_deeper, depth_caller]); (try dsimp only [ktrTop]); first | exact room2 (by assumption) (by decide) | exact room1 (by assumption) (by decide) | exact room3 (by assumption) (by decide) | exact room0 (by assumption))); (k_with "units" => ((try simp only [units_in1, units_deeper, Around.mark_units, units_caller]); (try dsimp only [ktrTop]); first | exact room2 (by assumption) (by decide) | exact room1 (by assumption) (by decide) | exact room3 (by assumption) (by decide) | exact room0 (by assumption))); (k_with "subscriptTail" => ((with_reducible show wpAny _ _ (subscriptTail _ _ (Value.ref _) (Value.int _ _)) _ _ _); k_dflt (refine item_good (by k_asm) (by k_mem) (by repeat (first | exact AllG.nil | (refine AllG.cons ?_ ?_; (first | assumption | exact (G.mono (glit (by decide +kernel)) (by decide)) | exact G.mono (by with_reducible assumption) (by decide) | exact G.mono (G.app (glit (by decide +kernel)) (by with_reducible assumption)) (by decide) | exact G.mono (G.app (by with_reducible assumption) (glit (by decide +kernel))) (by decide) | exact G.mono (G.app (G.app (by with_reducible assumption) (glit (by decide +kernel))) (by with_reducible assumption)) (by decide))))) (mod_lo _ (by decide)) (Int.lt_of_lt_of_le (mod_hi _ (by decide)) (by simp)) (Int.lt_of_lt_of_le (mod_hi _ (by decide)) (by decide)) ?_ (by with_unfolding_all rfl)); intro y9kw t9kw hg9kw)); (k_with "inplaceOp Add ref ref" => (k_dflt (refine' iadd_lists ?kwFz ?kwNz ?kwbz ?kwnez ?kwUz ?kwzz ?kwyz ?_; (case kwFz => k_asm); (case kwNz => k_asm); (case kwbz => k_mem); (case kwnez => exact List.cons_ne_nil _ _); (case kwUz => k_upd); (case kwzz => simp); (case kwyz => simp)); intro hkwp Fkwp Nkwp; (try dsimp only [List.nil_append, List.cons_append] at Nkwp))); w_top off; w_strict ( (k_dflt (refine' code_pure ?k1 ?k2 ?k3 ?k5 ?kA ?kF ?kK ?k6 ?k7 ?k8 ?k9 ?kB ?_ ?c2 ?c3 ?c4 ?c5; (case kA => exact rfl); (case kF => exact rfl); (case kK => assumption); (case k1 => k_asm); (case k2 => k_asm); (case k3 => k_asm); (case k5 => k_asm); (case k6 => k_is); (case k7 => k_is); (case k8 => ktr_room); (case k9 => exact BindsTo.of_eq rfl); (case c5 => decide); (case kB => exact locs rfl); (case c2 => exact rfl); (case c3 => exact rfl); (case c4 => exact rfl); k_whole; intro L' h' F' N' B' X' T'; (try dsimp only); (try k_fold))); (replace F' : Fr s.heap L' h' (fun y => List.lookup y [(Str.ofString "x", Value.int x t1)]) := F'); k_steps; (all_goals ((dsimp only); (try k_unfold); (try dsimp only); exact ret _ _ _ _ (by assumption) (Fr.keep (by assumption)))))
end Mine
end
section
open PySem PySem.W PyProof.Rows PySem.Calls PySem.Spec
set_option Elab.async false
set_option maxRecDepth 100000
namespace Mine
/-- the end of an element that is a plain text -/
structure EltG (s₂ : Shared) (y : Value) (s₃ : Shared) : Prop where
  c : ∃ z u, y = .str z u ∧ G 40 z
  k : Keeps s₂ s₃
theorem paired_texts {F : Value → Value → Prop} (hF : ∀ v y, F v y → ∃ z u, y = .str z u ∧ G 40 z) : ∀ {vs ys : List Value}, Paired F vs ys → ∃ zs, StrsAre ys zs ∧ (∀ z ∈ zs, G 40 z) ∧ zs.length = vs.length
  | _, _, .nil => ⟨[], .nil, fun _ h => (nomatch h), rfl⟩
  | _, _, .cons h r => by
    obtain ⟨z, u, rfl, hz⟩ := hF _ _ h
    obtain ⟨zs, h1, h2, h3⟩ := paired_texts hF r
    refine ⟨z :: zs, .cons z u h1, fun y hy => ?_, by simp [h3]⟩
    rcases List.mem_cons.mp hy with rfl | hy
    · exact hz
    · exact h2 y hy
/-- what the source of such a comprehension owes -/
noncomputable def SrcG (prog : Program) (w : World) (A : Around) (h₀ : Heap) (L : Addr) (m : Str → Option Value) (env : Env) (scope : Scope) (cl : List (Str × Addr)) (x y : Str) (elt : Expr) (Q : Flow → Shared → Prop) (xv : Value) (s₁ : Shared) : Prop :=
  ∃ news : List (Addr × Obj), ∃ ax vs ns n, xv = .ref ax ∧ (ax, W.listOf vs.toArray n) ∈ news ∧ IntsAre vs ns ∧ ns.length ≤ 700000 ∧ Fr h₀ L s₁.heap m ∧ News h₀ L s₁.heap news ∧
      (∀ C k t s₂ m₂ E', k ∈ ns → s₂.heap.Ns (compEnvC scope cl C env).locals m₂ → m₂ x = some (.int k t) → Fr h₀ L s₂.heap m → News h₀ L s₂.heap news → wpAny (model prog w) A (eval elt (compEnvC scope cl C env)) (fun y s₃ => EltG s₂ y s₃) E' s₂) ∧
      (∀ D (ys : List Value) zs c h' tk, Fr h₀ L h' (fun z => if z = y then some (.ref D) else m z) → News h₀ L h' ((D, W.listOf ys.toArray c) :: news) → AllNe D news → StrsAre ys zs → (∀ z ∈ zs, G 40 z) → zs.length = ns.length → Q .next { s₁ with heap := h', toks := tk })
section
variable {prog : Program} {w : World} {A : Around} {E : Value → Shared → Prop} {s : Shared} {h₀ : Heap} {L : Addr} {m : Str → Option Value} {env : Env}
theorem assign_comp {elt iter : Expr} {x y : Str} {px py : Pos} {scope : Scope} {cl : List (Str × Addr)} {pos spos : Pos} {Q : Flow → Shared → Prop}
    (_F₀ : Fr h₀ L s.heap m) (hsw : swapsWith (.ListComp elt [⟨.Name x px, iter, [], 0⟩] scope pos) (some (.Name y py)) spos.line env = pure true) (hL : env.locals = L)
    (hh : A.handled = none) (hclos : closureFor scope env = pure cl) (hcell : ∀ z ∈ scope.names, z.2 ≠ .cell) (hkind : scope.kind = .function)
    (hnames : ∀ z ∈ scope.names, z.2 = .local → scope.names.lookup z.1 = some .local) (hx : scope.names.lookup x = some .local)
    (hy : env.kindOf y = some .local) (hp : (env.scope.kind == .class || (env.scope.kind == .module && env.locals != env.globals)) = false)
    (h : wpAny (model prog w) A (eval iter env) (SrcG prog w A h₀ L m env scope cl x y elt Q) E s)
    (hs : ∀ x, foldedSetIterable iter env x = pure x) :
    wpAny (model prog w) A (exec (.Assign [.Name y py] (.ListComp elt [⟨.Name x px, iter, [], 0⟩] scope pos) spos) env) Q E s := by
  subst hL
  refine wpAny_Assign_ListComp_free (fun _ => true) (fun _ y => ∃ z u, y = .str z u ∧ G 40 z) hsw hclos hcell hkind hnames hx hy hp (wpAny_mono h (fun xv s₁ h₁ => ?_) fun _ _ e => e) hs
  refine Classical.byContradiction fun hng => ?_
  obtain ⟨news, ax, vs, ns, n, rfl, hm, hi, hsz, F, N, helt, hQ⟩ := h₁
  refine hng ?_
  have hl := N.isList hm
  have hlt : ax < s₁.heap.objs.size := by obtain ⟨_, e, _⟩ := hl; exact Heap.lt_size e
  have up : ∀ (s₃ : Shared), (∀ b o, b ∉ [s₁.heap.objs.size] → (s₁.heap.push { cls := .type "list_iterator", data := .fields #[.ref ax, .int 0 0] }).get? b = some o → s₃.heap.get? b = some o) → ∀ b o, s₁.heap.get? b = some o → s₃.heap.get? b = some o :=
    fun s₃ hk b o e => hk b o (fun hm => by rcases List.mem_cons.mp hm with rfl | hm; exact Nat.lt_irrefl _ (Heap.lt_size e); cases hm) (Heap.get?_push_of_some _ e)
  refine wpAny_pyIter_list hl ⟨s₁.heap.objs.size, [s₁.heap.objs.size, ax], [s₁.heap.objs.size], vs.toArray.size, _, _, m, rfl, Walks.list hh _ _ (Nat.ne_of_lt hlt) vs.toArray, (by rw [List.size_toArray, hi.length, sizeLine_eq]; omega), ⟨⟨_, Heap.get?_push_size _ rfl, rfl, rfl⟩, hl.push _⟩, ?_, ?_, F.ns.push _, ⟨?_, ?_⟩, ?_⟩
  · intro b hb
    show b < (s₁.heap.push _).objs.size
    rw [Heap.size_push]
    rcases List.mem_cons.mp hb with rfl | hb
    · exact Nat.lt_succ_self _
    · rcases List.mem_cons.mp hb with rfl | hb
      · exact Nat.lt_succ_of_lt hlt
      · cases hb
  · intro hm
    rcases List.mem_cons.mp hm with e | hm
    · exact Nat.lt_irrefl _ (e ▸ F.ns.lt)
    · cases hm
  · intro C i v s₃ m₃ E' hC hP hn hm hk _
    exact wpAny_pure ⟨rfl, s₃.heap, s₃.toks, rfl, fun _ _ e => e⟩
  · intro C i v s₃ m₃ E' hC hP hp' hn hm' hk _
    have hv : vs[i]? = some v := by simpa using hP
    have hi' : i < ns.length := by rw [← hi.length]; exact (List.getElem?_eq_some_iff.mp hv).1
    obtain ⟨t, hx'⟩ := hi.get i ns[i] (List.getElem?_eq_getElem hi')
    have ev : v = .int ns[i] t := by rw [hx'] at hv; exact (Option.some.inj hv).symm
    subst ev
    have kk := up s₃ hk
    exact wpAny_mono (helt C ns[i] t s₃ m₃ E' (List.getElem_mem hi') hn hm' (F.keeps kk) (N.grown kk)) (fun y s₄ h₄ => ⟨h₄.c, h₄.k⟩) fun _ _ e => e
  · intro D h' tk ys vs' hnew hlD hplD hlen hP hF hn' hk
    have keep : ∀ b o, b ≠ env.locals → s₁.heap.get? b = some o → h'.get? b = some o := fun b o hb e =>
      hk b o hb (fun hm => by rcases List.mem_cons.mp hm with rfl | hm; exact Nat.lt_irrefl _ (Heap.lt_size e); cases hm) (Heap.get?_push_of_some _ e)
    have ef : vs'.filter (fun _ => true) = vs' := by simp
    rw [ef] at hF
    obtain ⟨zs, h1, h2, h3⟩ := paired_texts (fun _ _ q => q) hF
    obtain ⟨c, hc⟩ := id hplD
    have hDs : s₁.heap.get? D = none := by
      cases q : s₁.heap.get? D with
      | none => rfl
      | some o => rw [Heap.get?_push_of_some _ q] at hnew; cases hnew
    refine hQ D ys.toList zs c h' tk ⟨hn', fun b o e => keep b o (Nat.ne_of_lt (Nat.lt_of_lt_of_le (Heap.lt_size e) F.above)) (F.keep b o e), F.above⟩ ?_ (news_ne N hDs) h1 h2 (by rw [h3, hlen, List.size_toArray, hi.length])
    intro p hp
    rcases List.mem_cons.mp hp with rfl | hp
    · refine ⟨by rw [Array.toArray_toList]; exact hc, fun e => ?_, ?_⟩
      · obtain ⟨_, _, _, ho, _⟩ := F.ns
        have e' : D = env.locals := e
        rw [← e', hDs] at ho; cases ho
      · cases q : h₀.get? D with
        | none => rfl
        | some o' => rw [F.keep _ _ q] at hDs; cases hDs
    · exact ⟨keep _ _ (N p hp).2.1 (N p hp).1, (N p hp).2⟩
end
end Mine
end
section
open PySem PySem.W PyProof.Rows PySem.Calls PySem.Spec
set_option Elab.async false
set_option maxRecDepth 100000
namespace Mine
section
variable {prog : Program} {w : World} {A : Around} {E : Value → Shared → Prop} {s : Shared} {env : Env} {h₀ : Heap} {x : Str} {body : List Stmt} {Q : Flow → Shared → Prop}
/-- a for over range(n), n not written, by a word over its number, the frame and the ledger -/
theorem iter_range {r : Addr} {t₀ u₀ v₀ : Tok} {n : Nat} {m₀ : Str → Option Value} {news : List (Addr × Obj)} (J : Nat → (Str → Option Value) → List (Addr × Obj) → Prop)
    (hh : A.handled = none) (hr : IsRange s.heap r 0 (n : Int) 1 t₀ u₀ v₀) (hsmall : Builtin.Range.small 0 (n : Int) 1 = true) (F : Fr h₀ env.locals s.heap m₀) (N : News h₀ env.locals s.heap news) (hj : J 0 m₀ news)
    (turn : ∀ i t m₁ news₁ h tk own, i < n → OwnOff own (news.map (·.1)) → J i m₁ news₁ → Fr h₀ env.locals h (fun y => if y = x then some (.int (i : Int) t) else m₁ y) → News h₀ env.locals h (news₁ ++ own) →
      wpAny (model prog w) A (execs body env) (InvPostN h₀ env.locals (J (i + 1)) own (news.map (·.1)) { s with heap := h, toks := tk } Q) E { s with heap := h, toks := tk })
    (done : ∀ m₁ news₁ h tk, J n m₁ news₁ → Fr h₀ env.locals h m₁ → News h₀ env.locals h news₁ → Q .next { s with heap := h, toks := tk }) :
    wpAny (model prog w) A (pyIter (.ref r)) (fun it s₂ => LoopAtV prog w A h₀ env x body Q E it s₂) E s := by
  refine wpAny_pyIter_range hr hsmall ?_
  have hsz : Builtin.Range.rangeSize 0 (n : Int) 1 = (n : Int) := by
    unfold Builtin.Range.rangeSize
    rw [if_pos (by decide)]
    split
    · rw [Int.ediv_one]; (first | lia | omega)
    · (first | lia | omega)
  refine loop_invN J (Walks.range hh _ 0 1 n) ?_ ?_ ?_ ?_ (by show IsRangeIter _ _ _ _ _; rw [hsz]; simpa using Heap.get?_push_size _ rfl) (F.push _) (fun p hp => ⟨Heap.get?_push_of_some _ (N p hp).1, (N p hp).2⟩) hj ?_ ?_
  · intro hm
    exact absurd F.ns.lt ((List.mem_singleton.mp hm) ▸ Nat.lt_irrefl _)
  · intro b' hb
    rw [List.mem_singleton.mp hb]
    exact next_is_new F
  · intro p hp hI
    exact absurd (Heap.lt_size (N p hp).1) ((List.mem_singleton.mp hI) ▸ Nat.lt_irrefl _)
  · intro p hp hI
    exact absurd (Heap.lt_size (N p hp).1) ((List.mem_singleton.mp hI) ▸ Nat.lt_irrefl _)
  · rintro i v m₁ nx h tk own hi ⟨t, rfl⟩ _ hoff hJ F₁ N₁
    have e : (0 : Int) + (i : Int) * 1 = (i : Int) := by (first | lia | omega)
    rw [e] at F₁
    exact turn i t m₁ nx h tk own hi hoff hJ F₁ N₁
  · intro m₁ nx h tk hJ F₁ N₁
    exact done m₁ nx h tk hJ F₁ N₁
end
section
variable {prog : Program} {w : World} {A : Around} {E : Value → Shared → Prop} {s : Shared} {h₀ : Heap} {L D l : Addr} {m : Str → Option Value} {news : List (Addr × Obj)} {n : Nat} {Q : Value → Shared → Prop} {vs : List Value} {zs : List Str} {value slice : PySem.Expr} {t u : Tok}
theorem join_upto {k : Nat} {y : Str} (N : News h₀ L s.heap news) (hm : (D, W.listOf (vs.take k).toArray n) ∈ news) (hs : StrsAre vs zs) (hy : y.length = 1) (hl : zs.length ≤ 6) (hb : ∀ z ∈ zs, G 40 z)
    (h : ∀ t' k', Q (.str (Txt.join y (zs.take k)) t') { s with toks := k' }) : wpAny (model prog w) A (call (.builtin "str.join") [.str y t, .ref D]) Q E s :=
  join_list (N.isList hm) (strs_take k hs) (by
    have h2 : (zs.take k).length ≤ 6 := by rw [List.length_take]; (first | lia | omega)
    have h1 := sum_small 6 (zs.take k) h2 (fun z hz => Nat.le_trans (hb z (List.mem_of_mem_take hz)).len (by decide))
    rw [hy]; (first | lia | omega)) h
theorem last_tail {p : List Value} {y : Value} (N : News h₀ L s.heap news) (hm : (D, W.listOf (p ++ [y]).toArray n) ∈ news) (h : Q y s)
    (hs : subscripted slice false (.ref D) (.int (-1) t) = operate [.ref D, .int (-1) t] (getItem (.ref D) (.int (-1) t))) :
    wpAny (model prog w) A (subscriptTail value slice (.ref D) (.int (-1) t)) Q E s :=
  tail_any (N.isList hm).typeIs slot_list_getitem.lookup (last_get N hm h) hs
theorem first_tail {p : List Value} {y : Value} (N : News h₀ L s.heap news) (hm : (D, W.listOf (y :: p).toArray n) ∈ news) (h : Q y s)
    (hs : subscripted slice false (.ref D) (.int 0 t) = operate [.ref D, .int 0 t] (getItem (.ref D) (.int 0 t))) :
    wpAny (model prog w) A (subscriptTail value slice (.ref D) (.int 0 t)) Q E s :=
  tail_any (N.isList hm).typeIs slot_list_getitem.lookup (wpAny_getItem_list (N.isList hm) (by decide) (by decide) (by simp) h) hs
theorem item_three {y0 y1 y2 : Str} {t0 t1 t2 : Tok} {k : Int} (N : News h₀ L s.heap news) (hm : (D, W.listOf #[.str y0 t0, .str y1 t1, .str y2 t2] n) ∈ news) (h0 : 0 ≤ k) (h3 : k < 3) {P : Str → Prop} (p0 : P y0) (p1 : P y1) (p2 : P y2)
    (h : ∀ y t', P y → Q (.str y t') s)
    (hs : subscripted slice false (.ref D) (.int k t) = operate [.ref D, .int k t] (getItem (.ref D) (.int k t))) :
    wpAny (model prog w) A (subscriptTail value slice (.ref D) (.int k t)) Q E s := by
  have hk : k = 0 ∨ k = 1 ∨ k = 2 := by (first | lia | omega)
  rcases hk with rfl | rfl | rfl
  · exact tail_any (N.isList hm).typeIs slot_list_getitem.lookup (wpAny_getItem_list (N.isList hm) (by decide) (by decide) (x := .str y0 t0) rfl (h _ _ p0)) hs
  · exact tail_any (N.isList hm).typeIs slot_list_getitem.lookup (wpAny_getItem_list (N.isList hm) (by decide) (by decide) (x := .str y1 t1) rfl (h _ _ p1)) hs
  · exact tail_any (N.isList hm).typeIs slot_list_getitem.lookup (wpAny_getItem_list (N.isList hm) (by decide) (by decide) (x := .str y2 t2) rfl (h _ _ p2)) hs
end
theorem G.join {zs : List Str} (hb : ∀ z ∈ zs, G 40 z) : G (zs.length * 41) (Txt.join (Str.ofString ".") zs) := by
  have e : Txt.join (Str.ofString ".") zs = Str.join (Str.ofString ".") zs := StrLaws.glued_eq_join _ _
  rw [e]
  induction zs with
  | nil => exact .mk (fun c hc => by simp [Str.join, Str.empty] at hc) (by simp [Str.join, Str.empty, Str.length])
  | cons z r ih =>
    have hz := hb z (.head _)
    cases r with
    | nil => exact G.mono hz (by simp)
    | cons y r =>
      have h1 := ih (fun q hq => hb q (.tail _ hq)) (StrLaws.glued_eq_join _ _)
      have h2 : G 1 (Str.ofString ".") := by
        show gB 1 (Str.ofString ".") = true
        decide +kernel
      have := G.app (G.app hz h2) h1
      refine G.mono this ?_
      simp only [List.length_cons]; (first | lia | omega)
theorem piece_bound {ns : List Int} {k : Int} (h : k ∈ List.take 6 (List.map (fun k' => k'.fmod (10 ^ 6)) ns ++ [160, 68, 120])) : 0 ≤ k ∧ k < 1000000 := by
  have h' := List.mem_of_mem_take h
  rcases List.mem_append.mp h' with q | q
  · obtain ⟨a, _, rfl⟩ := List.mem_map.mp q
    have e : ((10 : Int) ^ 6) = 1000000 := by decide
    rw [e]
    exact ⟨Int.fmod_nonneg_of_pos _ (by decide), Int.fmod_lt_of_pos _ (by decide)⟩
  · simp only [List.mem_cons, List.not_mem_nil, or_false] at q
    (first | lia | omega)
theorem piece_count (ns : List Int) : 3 ≤ (List.take 6 (List.map (fun k' => k'.fmod (10 ^ 6)) ns ++ [160, 68, 120])).length ∧ (List.take 6 (List.map (fun k' => k'.fmod (10 ^ 6)) ns ++ [160, 68, 120])).length ≤ 6 := by
  rw [List.length_take, List.length_append, List.length_map]
  simp only [List.length_cons, List.length_nil]
  (first | lia | omega)
/-- the texts of a list of three or more: the first, the rest, the last -/
theorem strs_ends {ys : List Value} {zs : List Str} (h : StrsAre ys zs) (hl : 3 ≤ zs.length) : ∃ z0 t0 mid zl tl, ys = (Value.str z0 t0 :: mid) ++ [Value.str zl tl] ∧ z0 ∈ zs ∧ zl ∈ zs := by
  cases h with
  | nil => simp at hl
  | cons z0 t0 r =>
    rename_i vs' ys'
    obtain ⟨zs', zl, rfl⟩ : ∃ a b, ys' = a ++ [b] := by
      rcases List.eq_nil_or_concat ys' with q | ⟨a, b, q⟩
      · subst q; simp at hl
      · exact ⟨a, b, by rw [q, List.concat_eq_append]⟩
    obtain ⟨mid, tl, rfl, _⟩ := Mine.strs_snoc r
    exact ⟨z0, t0, mid, zl, tl, rfl, List.mem_cons_self .., by simp⟩
theorem for_K {prog : Program} {w : World} {A : Around} {E : Value → Shared → Prop} {s : Shared} {env : Env} {Q : Flow → Shared → Prop} {x : Str} {px pos : Pos} {iter : Expr} {body : List Stmt} {h₀ : Heap} {L : Addr} {m : Str → Option Value} (_F₀ : Fr h₀ L s.heap m)
    (hx : env.kindOf x = some .local) (hp : (env.scope.kind == .class || (env.scope.kind == .module && env.locals != env.globals)) = false)
    (h : wpAny (model prog w) A (eval iter env) (fun xv s₁ => wpAny (model prog w) A (pyIter xv) (fun it s₂ => LoopAtV prog w A h₀ env x body Q E it s₂) E s₁) E s)
    (hs : ∀ x, foldedSetIterable iter env x = pure x) (hE : PassesOwn (model prog w) A env E) : wpAny (model prog w) A (exec (.For (.Name x px) iter body [] pos) env) Q E s := For_invV h₀ hx hp h hs hE
@[elab_as_elim] theorem strs_elim {ys : List Value} {zs : List Str} {C : List Value → Prop} (h : StrsAre ys zs) (hl : 3 ≤ zs.length)
    (k : ∀ (z0 : Str) (t0 : Tok) (mid : List Value) (zl : Str) (tl : Tok), StrsAre ((Value.str z0 t0 :: mid) ++ [Value.str zl tl]) zs → z0 ∈ zs → zl ∈ zs → C ((Value.str z0 t0 :: mid) ++ [Value.str zl tl])) : C ys := by
  obtain ⟨z0, t0, mid, zl, tl, e, h1, h2⟩ := strs_ends h hl
  rw [e] at h ⊢
  exact k z0 t0 mid zl tl h h1 h2
end Mine
end
section
open PySem PySem.W PyProof.Rows PySem.Calls PySem.Spec
set_option Elab.async false
set_option maxRecDepth 100000
namespace Mine
theorem small_upto {n : Nat} (h : n ≤ 6) : Builtin.Range.small 0 ((n : Int) + 1) 1 = true := by
  exact (by decide : ∀ n < 7, Builtin.Range.small 0 ((n : Nat) + (1 : Int)) 1 = true) n (Nat.lt_succ_of_le h)
section
variable {prog : Program} {w : World} {A : Around} {E : Value → Shared → Prop} {s : Shared} {env : Env} {h₀ : Heap} {x : Str} {body : List Stmt} {Q : Flow → Shared → Prop}
theorem law_range {r : Addr} {t₀ u₀ v₀ : Tok} {n : Nat} {m₀ : Str → Option Value} {news : List (Addr × Obj)} (stored : List Str)
    (hh : A.handled = none) (hr : IsRange s.heap r 0 ((n : Int) + 1) 1 t₀ u₀ v₀) (h6 : n ≤ 6) (F : Fr h₀ env.locals s.heap m₀) (N : News h₀ env.locals s.heap news)
    (turn : ∀ (i : Nat) t (u : Str → Option Value) h tk I oI, i ≤ n → Fr h₀ env.locals h (fun y => if y = x then some (.int (i : Int) t) else if stored.contains y then u y else m₀ y) → News h₀ env.locals h ((I, oI) :: news) → (∀ p ∈ news, p.1 < I) →
      wpAny (model prog w) A (execs body env) (TurnPost h₀ env.locals x stored m₀ ((I, oI) :: news) { s with heap := h, toks := tk } Q) E { s with heap := h, toks := tk })
    (done : ∀ (u : Str → Option Value) h tk, Fr h₀ env.locals h (fun y => if y = x then u y else if stored.contains y then u y else m₀ y) → News h₀ env.locals h news → Q .next { s with heap := h, toks := tk }) :
    wpAny (model prog w) A (pyIter (.ref r)) (fun it s₂ => LoopAtV prog w A h₀ env x body Q E it s₂) E s := by
  have hsz : Builtin.Range.rangeSize 0 ((n : Int) + 1) 1 = ((n + 1 : Nat) : Int) := by
    unfold Builtin.Range.rangeSize
    rw [if_pos (by decide)]
    split
    · rw [Int.ediv_one]; omega
    · omega
  refine kow_range stored hh hr (small_upto h6) hsz F N ?_ done
  intro k t u h tk I oI h0 h1 F₁ N₁ l₁
  obtain ⟨i, rfl⟩ := Int.eq_ofNat_of_zero_le h0
  exact turn i t u h tk I oI (by omega) F₁ N₁ l₁
end
theorem as_fr {h₀ h h' : Heap} {L : Addr} {m m' : Str → Option Value} (_ : Fr h₀ L h m) (x : Fr h₀ L h' m') : Fr h₀ L h' m' := x
theorem as_news {h₀ h h' : Heap} {L : Addr} {n n' : List (Addr × Obj)} (_ : News h₀ L h n) (x : News h₀ L h' n') : News h₀ L h' n' := x
theorem glit9 : G 300 (Str.ofString "") := by show gB 300 (Str.ofString "") = true; decide +kernel
theorem gdot9 : G 1 (Str.ofString ".") := by show gB 1 (Str.ofString ".") = true; decide +kernel
/-- what _norm_version cuts -/
noncomputable def xsOf (v b : Str) : List Str := Txt.split v (Str.ofString ".") ++ (if (b == Str.ofString "") = true then [] else [b])
end Mine
end
section
open PySem PySem.W PyProof.Rows PySem.Calls
set_option Elab.async false
set_option maxRecDepth 100000
namespace Mine
theorem due_call (w : World) (dp un : Nat) (gd : Option (List Code)) (cn : Str) (cs : Scope) (a : Addr) (ccd : Value) (cl : List (Str × Addr)) (outer : List Env) (A₀ : Around) (base h₀ : Heap) (L : Addr) (m mg mb : Str → Option Value) (mean : ExcName → Option Value) (s : Shared) (Q E : Value → Shared → Prop)
   (v b : Str) (t1 t2 : Tok) (hv : v.length ≤ 4000) (hb : b.length ≤ 4000) (nv nb : Nat) (rv rb : Option (List (List Nat))) (hnv : nv ≤ 100000) (hnb : nb ≤ 100000)
   (hrv : runF nv [256, 0] (tokensL v.cps.toList) [] [] = some rv) (hrb : runF nb [257, 0] (tokensL b.cps.toList) [] [] = some rb) (hsv : sumR (tokensL v.cps.toList) ≤ 4000) (hsb : sumR (tokensL b.cps.toList) ≤ 4000)
   (B : Below A₀ base outer h₀) (F : Fr h₀ L s.heap m) (X : (hd.heap_39 w.params).In h₀) (T : Top VV LL mean mg mb h₀) (hk : cs.kind = .function) {news : List (Addr × Obj)} (N : News h₀ L s.heap news)
   (hdp : dp + 40 < recursionLimit) (hun : un + 200 < cLine)
   (ret : ∀ (h' : Heap) (tk' : Nat) (t : Tok), Fr h₀ L h' m → News h₀ L h' news → Q (.str (Txt.join (Str.ofString ".") ((dueT v b rv rb).take 3)) t) { s with heap := h', toks := tk' }) :
   wpAny (model PySem.Challenge.rw_mj0140_01.row.prog w) (ktrTop dp un gd cn cs L a ccd cl outer) (call (.ref 82) [.str v t1, .str b t2]) Q E s :=
  due_walk w dp un gd cn cs a ccd cl outer A₀ base h₀ L m mg mb mean s Q E v b t1 t2 hv hb nv nb rv rb hnv hnb hrv hrb hsv hsb B F X T hk hdp hun
    fun h' tk' t st => ret h' tk' t (fr_on F st) (fun p hp => ⟨st _ _ (N p hp).1, (N p hp).2⟩)
end Mine
end
section
open PySem PySem.W PyProof.Rows PySem.Calls
set_option Elab.async false
set_option maxRecDepth 100000
namespace Mine
structure Due8 (v b : Str) (nv nb : Nat) (rv rb : Option (List (List Nat))) : Prop where
  hnv : nv ≤ 100000
  hnb : nb ≤ 100000
  hrv : runF nv [256, 0] (tokensL v.cps.toList) [] [] = some rv
  hrb : runF nb [257, 0] (tokensL b.cps.toList) [] [] = some rb
  hsv : sumR (tokensL v.cps.toList) ≤ 4000
  hsb : sumR (tokensL b.cps.toList) ≤ 4000
  hv : v.length ≤ 4000
  hb : b.length ≤ 4000
  some : ∀ ms, ints? (xsOf v b) = some ms → dueT v b rv rb = ms.map tx ∧ ∀ z ∈ ms.map tx, z.length ≤ 5000
  none : ints? (xsOf v b) = none → dueT v b rv rb = xsOf v b
  items : ∀ x ∈ xsOf v b, Item x
  few : (xsOf v b).length ≤ 100000
  short : ∀ x ∈ xsOf v b, x.length ≤ 5000
section
variable (w : World) (dp un : Nat) (gd : Option (List Code)) (cn : Str) (cs : Scope) (a : Addr) (ccd : Value) (cl : List (Str × Addr)) (outer : List Env) (A₀ : Around) (base h₀ : Heap) (L : Addr) (m mg mb : Str → Option Value) (mean : ExcName → Option Value) (s : Shared) (Q E : Value → Shared → Prop)
   (v b : Str) (t1 t2 : Tok) (nv nb : Nat) (rv rb : Option (List (List Nat))) (D : Due8 v b nv nb rv rb)
   (B : Below A₀ base outer h₀) (F : Fr h₀ L s.heap m) (X : (hd.heap_39 w.params).In h₀) (T : Top VV LL mean mg mb h₀) (hk : cs.kind = .function) {news : List (Addr × Obj)} (N : News h₀ L s.heap news)
   (hdp : dp + 40 < recursionLimit) (hun : un + 200 < cLine)
include D B F X T hk N hdp hun
theorem due_some (ms : List Int) (hms : ints? (xsOf v b) = some ms)
   (ret : ∀ (h' : Heap) (tk' : Nat) (t : Tok), Fr h₀ L h' m → News h₀ L h' news → Q (.str (Txt.join (Str.ofString ".") ((ms.map tx).take 3)) t) { s with heap := h', toks := tk' }) :
   wpAny (model PySem.Challenge.rw_mj0140_01.row.prog w) (ktrTop dp un gd cn cs L a ccd cl outer) (call (.ref 82) [.str v t1, .str b t2]) Q E s :=
  due_call w dp un gd cn cs a ccd cl outer A₀ base h₀ L m mg mb mean s Q E v b t1 t2 D.hv D.hb nv nb rv rb D.hnv D.hnb D.hrv D.hrb D.hsv D.hsb B F X T hk N hdp hun
    fun h' tk' t F' N' => (D.some ms hms).1.symm ▸ ret h' tk' t F' N'
theorem due_none (hn : ints? (xsOf v b) = none)
   (ret : ∀ (h' : Heap) (tk' : Nat) (t : Tok), Fr h₀ L h' m → News h₀ L h' news → Q (.str (Txt.join (Str.ofString ".") ((xsOf v b).take 3)) t) { s with heap := h', toks := tk' }) :
   wpAny (model PySem.Challenge.rw_mj0140_01.row.prog w) (ktrTop dp un gd cn cs L a ccd cl outer) (call (.ref 82) [.str v t1, .str b t2]) Q E s :=
  due_call w dp un gd cn cs a ccd cl outer A₀ base h₀ L m mg mb mean s Q E v b t1 t2 D.hv D.hb nv nb rv rb D.hnv D.hnb D.hrv D.hrb D.hsv D.hsb B F X T hk N hdp hun
    fun h' tk' t F' N' => (D.none hn).symm ▸ ret h' tk' t F' N'
end
theorem xs_app {vs : List Value} {v y : Str} {t : Tok} (h : StrsAre vs (Txt.split v (Str.ofString "."))) (hne : (y.length : Int) ≠ 0) : StrsAre (vs ++ [Value.str y t]) (xsOf v y) := by
  unfold xsOf
  rw [if_neg]
  · exact strs_app h (.cons _ _ .nil)
  · intro q
    have : y = Str.ofString "" := by simpa using q
    rw [this] at hne
    exact hne (by decide +kernel)
theorem xs_nil {vs : List Value} {v y : Str} (h : StrsAre vs (Txt.split v (Str.ofString "."))) (he : (y.length : Int) = 0) : StrsAre vs (xsOf v y) := by
  unfold xsOf
  rw [if_pos, List.append_nil]
  · exact h
  · have h0 : y.cps.toList = [] := List.length_eq_zero_iff.mp (by rw [len_toList]; omega)
    have : y = Str.ofString "" := str_eq (h0.trans (by decide +kernel))
    rw [this]; decide +kernel
section
variable {prog : Program} {w : World} {A : Around} {E : Value → Shared → Prop} {s : Shared} {h₀ : Heap} {L : Addr} {m : Str → Option Value} {news : List (Addr × Obj)} {Q : Value → Shared → Prop}
theorem list_map_8 {M2 T2 M1 T1 I l : Addr} {vs : List Value} {v b : Str} {nv nb : Nat} {rv rb : Option (List (List Nat))} {n : Nat} (D8 : Due8 v b nv nb rv rb) (hh : A.handled = none) (F : Fr h₀ L s.heap m)
    (N : News h₀ L s.heap ((M2, mapObj T2 (.type "str")) :: (T2, oneTup (.ref M1)) :: (M1, mapObj T1 (.type "int")) :: (T1, oneTup (.ref I)) :: (I, lIter l 0) :: news)) (hl : (l, W.listOf vs.toArray n) ∈ news)
    (a1 : ∀ p ∈ news, p.1 < I) (a2 : @LT.lt Nat _ I T1 ∧ @LT.lt Nat _ T1 M1) (a4 : ∀ p ∈ ((M1, mapObj T1 (.type "int")) :: (T1, oneTup (.ref I)) :: (I, lIter l 0) :: news), p.1 < T2) (a5 : @LT.lt Nat _ T2 M2) (hxs : StrsAre vs (xsOf v b))
    (hok : ∀ ms, ints? (xsOf v b) = some ms → (∀ z ∈ ms.map tx, z.length ≤ 5000) → ∀ D (acc' : List Value) c' h' tk, StrsAre acc' (ms.map tx) → acc'.length ≤ 100000 → Fr h₀ L h' m → News h₀ L h' ((D, W.listOf acc'.toArray c') :: news) → (∀ p ∈ news, p.1 < D) → Q (.ref D) { s with heap := h', toks := tk })
    (hbad : ints? (xsOf v b) = none → ∀ h₁ h' tk e, Fr h₀ L h₁ m → News h₀ L h₁ news → Heap.NewExc h₁ h' e "ValueError" → E (.ref e) { s with heap := h', toks := tk }) :
    wpAny (model prog w) A (call (.type "list") [.ref M2]) Q E s := by
  have q4 : @LT.lt Nat _ I T2 := a4 (I, lIter l 0) (.tail _ (.tail _ (.head _)))
  refine list_map_K hh F N hl (fun p hp => Nat.ne_of_lt (a1 p hp)) (Nat.ne_of_gt a2.1) (Nat.ne_of_gt (Nat.lt_trans a2.1 a2.2)) (Nat.ne_of_gt q4) (Nat.ne_of_gt (Nat.lt_trans q4 a5)) hxs D8.items D8.few ?_ hbad
  intro ms hms D acc' c' h' tk hacc
  refine hok ms hms (D8.some ms hms).2 D acc' c' h' tk hacc ?_
  have h1 := strs_len hacc
  have h2 := D8.few
  have h3 : ∀ (xs : List Str) (ms : List Int), ints? xs = some ms → ms.length = xs.length := by
    intro xs
    induction xs with
    | nil => intro ms e; unfold ints? at e; cases e; rfl
    | cons x r ih =>
      intro ms e
      unfold ints? at e
      split at e
      · rename_i k ns e1 e2; cases e; simp [ih ns e2]
      · cases e
  rw [h1, List.length_map, h3 _ _ hms]; exact h2
end
end Mine
end
section
open PySem PySem.W PyProof.Rows PySem.Calls
set_option Elab.async false
set_option maxRecDepth 100000
namespace Mine
inductive PS | A | C | D | E
noncomputable def pfin : PS → Bool | .D => true | .E => true | _ => false
/-- one sign that is no point -/
noncomputable def pstep : PS → Nat → Option PS
  | .A, c => if c = 32 then some .A else if c = 43 ∨ c = 45 then some .C else if isFig c then some .D else none
  | .C, c => if isFig c then some .D else none
  | .D, c => if isFig c then some .D else if c = 95 then some .C else if c = 32 then some .E else none
  | .E, c => if c = 32 then some .E else none
noncomputable def go (b : Bool) : PS → List Nat → List (List Nat) → List Nat → Option (List (List Nat))
  | st, [], done, cur => if pfin st then some (done ++ [cur]) else none
  | st, c :: r, done, cur => if c = 46 then (if pfin st && b then go b .A r (done ++ [cur]) [] else none) else match pstep st c with
    | some st' => go b st' r done (cur ++ [c])
    | none => none
noncomputable def tailS : Bool → List Int | true => [258, 0] | false => [0]
noncomputable def stk (b : Bool) : PS → List Int
  | .A => 259 :: 260 :: 2 :: 261 :: 259 :: tailS b
  | .C => 2 :: 261 :: 259 :: tailS b
  | .D => 261 :: 259 :: tailS b
  | .E => 259 :: tailS b
noncomputable def eB (k : Int) : List Nat → Bool
  | [] => false
  | [c] => decide ((c = 43 ↔ k = 14) ∧ (c = 45 ↔ k = 15) ∧ (c = 46 ↔ k = 23))
  | c :: x :: _ => decide (k ≠ 14 ∧ k ≠ 15 ∧ k ≠ 23 ∧ (c = 43 → x = 61) ∧ (c = 45 → x = 61 ∨ x = 62) ∧ (c = 46 → x = 46))
theorem etab_facts : ∀ e ∈ etab, e.2.2.1 ≠ 0 ∧ e.2.2.1 ≠ 1 ∧ e.2.2.1 ≠ 2 ∧ e.2.2.1 ≠ 5 ∧ e.2.2.1 < 256 ∧ eB e.2.2.1 (Str.ofString e.1).cps.toList = true := by
  decide +kernel
theorem opFind_mem {y : Str} {k : Int} (h : opKind y = some k) : ∃ e ∈ etab, Str.ofString e.1 = y ∧ e.2.2.1 = k := by
  unfold opKind opFind at h
  cases hf : etab.find? (fun e => Str.ofString e.1 == y) with
  | none => rw [hf] at h; simp at h
  | some e =>
    rw [hf] at h
    exact ⟨e, List.mem_of_find?_eq_some hf, by simpa using List.find?_some hf, by simpa using h⟩
theorem opStep_cases (l : List Nat) (st : Int × Nat) (n : Nat) : opStep l st n = st ∧ opKind (S (l.take n)) = none ∨ ∃ k, opKind (S (l.take n)) = some k ∧ opStep l st n = (k, (l.take n).length) := by
  unfold opStep
  cases h : opKind (S (l.take n)) with
  | none => exact .inl ⟨rfl, rfl⟩
  | some k => exact .inr ⟨k, rfl, rfl⟩
theorem opTok_cases (l : List Nat) : opTok l = (64, 1) ∧ opKind (S (l.take 1)) = none ∨ ∃ e ∈ etab, (Str.ofString e.1).cps.toList = l.take (opTok l).2 ∧ e.2.2.1 = (opTok l).1 ∧ (opTok l).2 = (l.take (opTok l).2).length := by
  have key : ∀ n k, opKind (S (l.take n)) = some k → ∀ q : Int × Nat, q = (k, (l.take n).length) → ∃ e ∈ etab, (Str.ofString e.1).cps.toList = l.take q.2 ∧ e.2.2.1 = q.1 ∧ q.2 = (l.take q.2).length := by
    intro n k h q hq
    subst hq
    obtain ⟨e, he, h1, h2⟩ := opFind_mem h
    have e2 : l.take (l.take n).length = l.take n := by
      rw [List.length_take]
      rcases Nat.le_total n l.length with q | q
      · rw [Nat.min_eq_left q]
      · rw [Nat.min_eq_right q, List.take_of_length_le (Nat.le_refl _), List.take_of_length_le q]
    refine ⟨e, he, ?_, h2, ?_⟩
    · rw [h1, e2]
    · rw [e2]
  unfold opTok
  rcases opStep_cases l (opStep l (opStep l (64, 1) 1) 2) 3 with ⟨h3, _⟩ | ⟨k, hk, h3⟩
  · rw [h3]
    rcases opStep_cases l (opStep l (64, 1) 1) 2 with ⟨h2, _⟩ | ⟨k, hk, h2⟩
    · rw [h2]
      rcases opStep_cases l (64, 1) 1 with ⟨h1, hn⟩ | ⟨k, hk, h1⟩
      · exact .inl ⟨h1, hn⟩
      · exact .inr (key _ _ hk _ h1)
    · exact .inr (key _ _ hk _ h2)
  · exact .inr (key _ _ hk _ h3)
/-- the token at a sign that is neither figure nor underscore nor blank -/
theorem opTok_of (c : Nat) (r : List Nat) : (opTok (c :: r) = (14, 1) ∧ c = 43) ∨ (opTok (c :: r) = (15, 1) ∧ c = 45) ∨ (opTok (c :: r) = (23, 1) ∧ c = 46) ∨
    ((opTok (c :: r)).1 ≠ 0 ∧ (opTok (c :: r)).1 ≠ 1 ∧ (opTok (c :: r)).1 ≠ 2 ∧ (opTok (c :: r)).1 ≠ 5 ∧ (opTok (c :: r)).1 ≠ 14 ∧ (opTok (c :: r)).1 ≠ 15 ∧ (opTok (c :: r)).1 ≠ 23 ∧
      (c = 43 → ∃ r', r = 61 :: r') ∧ (c = 45 → ∃ x r', r = x :: r' ∧ (x = 61 ∨ x = 62)) ∧ (c = 46 → ∃ r', r = 46 :: r')) := by
  rcases opTok_cases (c :: r) with ⟨h, hn⟩ | ⟨e, he, h1, h2, h3⟩
  · refine .inr (.inr (.inr ?_))
    rw [h]
    have hn' : opKind (S [c]) = none := hn
    refine ⟨by decide, by decide, by decide, by decide, by decide, by decide, by decide, ?_, ?_, ?_⟩
    · intro q; subst q; exact absurd hn' (by decide +kernel)
    · intro q; subst q; exact absurd hn' (by decide +kernel)
    · intro q; subst q; exact absurd hn' (by decide +kernel)
  · obtain ⟨a1, a2, a3, a4, a5, a6⟩ := etab_facts e he
    rw [h1] at a6
    rw [h2] at a1 a2 a3 a4 a5 a6
    generalize ho : opTok (c :: r) = o at *
    obtain ⟨k, sz⟩ := o
    dsimp only at *
    match sz, r with
    | 0, _ => simp [eB] at a6
    | 1, _ =>
      simp only [List.take_succ_cons, List.take_zero] at a6
      replace a6 := of_decide_eq_true a6
      by_cases q1 : k = 14
      · subst q1; exact .inl ⟨rfl, a6.1.mpr rfl⟩
      by_cases q2 : k = 15
      · subst q2; exact .inr (.inl ⟨rfl, a6.2.1.mpr rfl⟩)
      by_cases q3 : k = 23
      · subst q3; exact .inr (.inr (.inl ⟨rfl, a6.2.2.mpr rfl⟩))
      exact .inr (.inr (.inr ⟨a1, a2, a3, a4, q1, q2, q3, fun q => absurd (a6.1.mp q) q1, fun q => absurd (a6.2.1.mp q) q2, fun q => absurd (a6.2.2.mp q) q3⟩))
    | n + 2, [] => simp at h3
    | n + 2, x :: r' =>
      simp only [List.take_succ_cons] at a6
      replace a6 := of_decide_eq_true a6
      obtain ⟨b1, b2, b3, b4, b5, b6⟩ := a6
      exact .inr (.inr (.inr ⟨a1, a2, a3, a4, b1, b2, b3, fun q => ⟨r', by rw [b4 q]⟩, fun q => ⟨x, r', rfl, b5 q⟩, fun q => ⟨r', by rw [b6 q]⟩⟩))
theorem tokensL_cons {l : List Nat} (h : l ≠ []) : tokensL l = ((nextTok l).1, l.take (nextTok l).2) :: tokensL (l.drop (nextTok l).2) := by
  unfold tokensL
  rw [tokF_cons h]; rfl
theorem tokensL_nil : tokensL [] = [(0, [])] := rfl
theorem sumR_tokensL : ∀ (n : Nat) (l : List Nat), l.length ≤ n → sumR (tokensL l) = l.length := by
  intro n
  induction n with
  | zero => intro l h; cases l with
    | nil => rfl
    | cons c r => simp at h
  | succ n ih =>
    intro l h
    cases l with
    | nil => rfl
    | cons c r =>
      have h1 := nextTok_pos c r
      have h2 := nextTok_le c r
      rw [tokensL_cons (List.cons_ne_nil _ _)]
      show ((c :: r).take _).length + sumR (tokensL ((c :: r).drop (nextTok (c :: r)).2)) = _
      rw [ih _ (by rw [List.length_drop]; simp only [List.length_cons] at *; omega), List.length_drop, List.length_take]
      omega
end Mine
end
section
open PySem PySem.W PyProof.Rows PySem.Calls
set_option Elab.async false
set_option maxRecDepth 100000
namespace Mine
theorem r256 (k : Int) : ruleF 256 k = [257, 258] := by simp [ruleF]
theorem r257 (k : Int) : ruleF 257 k = [259, 260, 2, 261, 259] := by simp [ruleF]
theorem r258y : ruleF 258 23 = [23, 257, 258] := by simp [ruleF]
theorem r258n {k : Int} (h : k ≠ 23) : ruleF 258 k = [] := by simp [ruleF, h]
theorem r259y : ruleF 259 5 = [5, 259] := by simp [ruleF]
theorem r259n {k : Int} (h : k ≠ 5) : ruleF 259 k = [] := by simp [ruleF, h]
theorem r260y {k : Int} (h : k = 14 ∨ k = 15) : ruleF 260 k = [k] := by rcases h with rfl | rfl <;> simp [ruleF]
theorem r260n {k : Int} (h : k ≠ 14) (h' : k ≠ 15) : ruleF 260 k = [] := by simp [ruleF, h, h']
theorem r261y : ruleF 261 1 = [1, 2, 261] := by simp [ruleF]
theorem r261n {k : Int} (h : k ≠ 1) : ruleF 261 k = [] := by simp [ruleF, h]
section
variable {n : Nat} {top kind : Int} {st st' : List Int} {part : List Nat} {rest : List (Int × List Nat)} {done : List (List Nat)} {cur : List Nat} {r : Option (List (List Nat))}
theorem rf_rule (h1 : 256 ≤ top) (e : ruleF top kind = st') (h : runF n (st' ++ st) ((kind, part) :: rest) done cur = some r) : runF (n + 1) (top :: st) ((kind, part) :: rest) done cur = some r := by
  rw [runF, if_neg (fun q => by omega), if_pos h1, e]; exact h
theorem rf_part (h1 : kind < 256) (h3 : kind ≠ 0) (h4 : kind ≠ 23) (h : runF n st rest done (cur ++ part) = some r) : runF (n + 1) (kind :: st) ((kind, part) :: rest) done cur = some r := by
  rw [runF, if_pos ⟨h1, rfl⟩, if_neg h3, if_neg h4]; exact h
theorem rf_dot (h : runF n st rest (done ++ [cur]) [] = some r) : runF (n + 1) (23 :: st) ((23, part) :: rest) done cur = some r := by
  rw [runF, if_pos ⟨by decide, rfl⟩, if_neg (by decide), if_pos rfl]; exact h
theorem rf_eof : runF (n + 1) (0 :: st) ((0, part) :: rest) done cur = some (some (done ++ [cur])) := by
  rw [runF, if_pos ⟨by decide, rfl⟩, if_pos rfl]
theorem rf_fail (h1 : top < 256) (h2 : top ≠ kind) : runF (n + 1) (top :: st) ((kind, part) :: rest) done cur = some none := by
  rw [runF, if_neg (fun q => h2 q.2), if_neg (by omega)]
theorem tail_fail {b : Bool} (h0 : kind ≠ 0) (h1 : kind ≠ 23 ∨ b = false) : runF (n + 2) (tailS b) ((kind, part) :: rest) done cur = some none := by
  cases b with
  | false => exact rf_fail (by decide) (Ne.symm h0)
  | true =>
    have h2 : kind ≠ 23 := h1.elim id (fun q => nomatch q)
    exact rf_rule (by decide) (r258n h2) (rf_fail (by decide) (Ne.symm h0))
theorem tail_eof {b : Bool} : runF (n + 2) (tailS b) ((0, part) :: rest) done cur = some (some (done ++ [cur])) := by
  cases b with
  | false => exact rf_eof
  | true => exact rf_rule (by decide) (r258n (by decide)) rf_eof
end
theorem tokensL_ne (l : List Nat) : ∃ k p rest, tokensL l = (k, p) :: rest := by
  cases l with
  | nil => exact ⟨_, _, _, rfl⟩
  | cons c r => exact ⟨_, _, _, tokensL_cons (List.cons_ne_nil _ _)⟩
theorem tail_dot {n : Nat} {part : List Nat} {l : List Nat} {done : List (List Nat)} {cur : List Nat} {r : Option (List (List Nat))} (h : runF n (stk true .A) (tokensL l) (done ++ [cur]) [] = some r) :
    runF (n + 3) (tailS true) ((23, part) :: tokensL l) done cur = some r := by
  obtain ⟨k, p, rest, e⟩ := tokensL_ne l
  refine rf_rule (by decide) r258y (rf_dot ?_)
  rw [e] at h ⊢
  exact rf_rule (by decide) (r257 _) h
theorem isFig_iff {c : Nat} : isFig c = true ↔ 48 ≤ c ∧ c ≤ 57 := by simp [isFig]
theorem take_tw (p : Nat → Bool) : ∀ l : List Nat, l.take (l.takeWhile p).length = l.takeWhile p
  | [] => rfl
  | c :: r => by
    rw [List.takeWhile_cons]
    split
    · simp [take_tw p r]
    · simp
theorem drop_tw (p : Nat → Bool) : ∀ l : List Nat, l.drop (l.takeWhile p).length = l.dropWhile p
  | [] => rfl
  | c :: r => by
    rw [List.takeWhile_cons, List.dropWhile_cons]
    split
    · simp [drop_tw p r]
    · simp
theorem dw_head (p : Nat → Bool) : ∀ (l : List Nat) c r, l.dropWhile p = c :: r → p c = false
  | [], _, _, h => by simp at h
  | a :: l, c, r, h => by
    rw [List.dropWhile_cons] at h
    split at h
    · exact dw_head p l c r h
    · rename_i q; cases h; simpa using q
theorem go_figs (b : Bool) : ∀ (l : List Nat) (done : List (List Nat)) (cur : List Nat), go b .D l done cur = go b .D (l.dropWhile isFig) done (cur ++ l.takeWhile isFig)
  | [], done, cur => by simp
  | c :: r, done, cur => by
    rw [List.takeWhile_cons, List.dropWhile_cons]
    by_cases h : isFig c = true
    · have h' := isFig_iff.mp h
      rw [if_pos h, if_pos h, go, if_neg (by omega)]
      simp only [pstep, if_pos h]
      rw [go_figs b r]
      simp
    · rw [if_neg h, if_neg h]; simp
theorem run_nil (b : Bool) (st : PS) (done : List (List Nat)) (cur : List Nat) : ∃ k, k ≤ 10 ∧ runF k (stk b st) (tokensL []) done cur = some (go b st [] done cur) := by
  rw [tokensL_nil]
  cases st with
  | A => exact ⟨3, by decide, rf_rule (by decide) (r259n (by decide)) (rf_rule (by decide) (r260n (by decide) (by decide)) (rf_fail (by decide) (by decide)))⟩
  | C => exact ⟨1, by decide, rf_fail (by decide) (by decide)⟩
  | D => exact ⟨4, by decide, rf_rule (by decide) (r261n (by decide)) (rf_rule (by decide) (r259n (by decide)) tail_eof)⟩
  | E => exact ⟨3, by decide, rf_rule (by decide) (r259n (by decide)) tail_eof⟩
/-- a token that no state takes -/
theorem run_odd (b : Bool) (st : PS) {kind : Int} {part : List Nat} {rest : List (Int × List Nat)} {done : List (List Nat)} {cur : List Nat} (h0 : kind ≠ 0) (h1 : kind ≠ 1) (h2 : kind ≠ 2) (h5 : kind ≠ 5) (h14 : kind ≠ 14) (h15 : kind ≠ 15) (h23 : kind ≠ 23) :
    ∃ k, k ≤ 10 ∧ runF k (stk b st) ((kind, part) :: rest) done cur = some none := by
  cases st with
  | A => exact ⟨3, by decide, rf_rule (by decide) (r259n h5) (rf_rule (by decide) (r260n h14 h15) (rf_fail (by decide) (Ne.symm h2)))⟩
  | C => exact ⟨1, by decide, rf_fail (by decide) (Ne.symm h2)⟩
  | D => exact ⟨4, by decide, rf_rule (by decide) (r261n h1) (rf_rule (by decide) (r259n h5) (tail_fail h0 (.inl h23)))⟩
  | E => exact ⟨3, by decide, rf_rule (by decide) (r259n h5) (tail_fail h0 (.inl h23))⟩
theorem bk0 {j n : Nat} (h : j ≤ 10) : j ≤ 10 * (n + 1) + 10 := Nat.le_trans h (Nat.le_add_left _ _)
theorem bk {k j n : Nat} (h : k ≤ 10 * n + 10) (hj : j ≤ 10) : k + j ≤ 10 * (n + 1) + 10 := by
  rw [Nat.mul_add, Nat.mul_one, Nat.add_right_comm]
  exact Nat.add_le_add (Nat.le_trans h (Nat.le_refl _)) hj
theorem bd {d n : Nat} (h : d ≤ n) : 10 * d + 10 ≤ 10 * n + 10 := Nat.add_le_add_right (Nat.mul_le_mul_left 10 h) 10
theorem run_go (b : Bool) : ∀ (n : Nat) (l : List Nat), l.length ≤ n → ∀ st done cur, (st = .D → ∀ c r, l = c :: r → isFig c = false) → ∃ k, k ≤ 10 * l.length + 10 ∧ runF k (stk b st) (tokensL l) done cur = some (go b st l done cur) := by
  intro n
  induction n with
  | zero =>
    intro l hl st done cur hp
    have : l = [] := List.length_eq_zero_iff.mp (Nat.le_zero.mp hl)
    subst this
    exact run_nil b st done cur
  | succ n ih =>
    intro l hl st done cur hp
    match l, hl, hp with
    | [], _, _ => exact run_nil b st done cur
    | c :: r, hl, hp =>
      have hr : r.length ≤ n := Nat.le_of_succ_le_succ hl
      have hL : (c :: r).length = r.length + 1 := rfl
      rw [tokensL_cons (List.cons_ne_nil _ _), hL]
      simp only [nextTok]
      by_cases hf : isFig c = true
      · have hf' := isFig_iff.mp hf
        have n32 : ¬ c = 32 := fun e => absurd hf'.1 (by rw [e]; decide)
        have n43 : ¬ (c = 43 ∨ c = 45) := fun e => e.elim (fun e => absurd hf'.1 (by rw [e]; decide)) (fun e => absurd hf'.1 (by rw [e]; decide))
        have n46 : ¬ c = 46 := fun e => absurd hf'.1 (by rw [e]; decide)
        rw [if_pos hf]
        dsimp only
        have e1 : (c :: r).take (1 + (r.takeWhile isFig).length) = c :: r.takeWhile isFig := by rw [Nat.add_comm, List.take_succ_cons, take_tw]
        have e2 : (c :: r).drop (1 + (r.takeWhile isFig).length) = r.dropWhile isFig := by rw [Nat.add_comm, List.drop_succ_cons, drop_tw]
        rw [e1, e2]
        have hd : (r.dropWhile isFig).length ≤ r.length := NumText.len_dropWhile _ _
        obtain ⟨k, hk, hk'⟩ := ih (r.dropWhile isFig) (Nat.le_trans hd hr) .D done (cur ++ c :: r.takeWhile isFig) (fun _ c' r' e => dw_head _ _ _ _ e)
        have eg : go b .D r done (cur ++ [c]) = go b .D (r.dropWhile isFig) done (cur ++ c :: r.takeWhile isFig) := by rw [go_figs]; simp
        replace hk := Nat.le_trans hk (bd hd)
        cases st with
        | A =>
          refine ⟨k + 3, bk hk (by decide), rf_rule (by decide) (r259n (by decide)) (rf_rule (by decide) (r260n (by decide) (by decide)) (rf_part (by decide) (by decide) (by decide) (hk'.trans ?_)))⟩
          rw [go, if_neg n46]
          simp only [pstep, if_pos hf, if_neg n32, if_neg n43]
          rw [eg]
        | C =>
          refine ⟨k + 1, bk hk (by decide), rf_part (by decide) (by decide) (by decide) (hk'.trans ?_)⟩
          rw [go, if_neg n46]
          simp only [pstep, if_pos hf]
          rw [eg]
        | D => rw [hp rfl c r rfl] at hf; cases hf
        | E =>
          refine ⟨3, bk0 (by decide), rf_rule (by decide) (r259n (by decide)) ((tail_fail (by decide) (.inl (by decide))).trans ?_)⟩
          rw [go, if_neg n46]
          simp only [pstep, if_neg n32]
      · rw [if_neg hf]
        by_cases h95 : c = 95
        · subst h95
          rw [if_pos rfl]
          show ∃ k, k ≤ _ ∧ runF k _ ((1, [95]) :: tokensL r) done cur = _
          obtain ⟨k, hk, hk'⟩ := ih r hr .C done (cur ++ [95]) (fun q => nomatch q)
          cases st with
          | A => exact ⟨3, bk0 (by decide), rf_rule (by decide) (r259n (by decide)) (rf_rule (by decide) (r260n (by decide) (by decide)) (rf_fail (by decide) (by decide)))⟩
          | C => exact ⟨1, bk0 (by decide), rf_fail (by decide) (by decide)⟩
          | D => exact ⟨k + 2, bk hk (by decide), rf_rule (by decide) r261y (rf_part (by decide) (by decide) (by decide) hk')⟩
          | E => exact ⟨3, bk0 (by decide), rf_rule (by decide) (r259n (by decide)) (tail_fail (by decide) (.inl (by decide)))⟩
        · rw [if_neg h95]
          by_cases h32 : c = 32
          · subst h32
            rw [if_pos rfl]
            show ∃ k, k ≤ _ ∧ runF k _ ((5, [32]) :: tokensL r) done cur = _
            cases st with
            | A =>
              obtain ⟨k, hk, hk'⟩ := ih r hr .A done (cur ++ [32]) (fun q => nomatch q)
              exact ⟨k + 2, bk hk (by decide), rf_rule (by decide) r259y (rf_part (by decide) (by decide) (by decide) hk')⟩
            | C => exact ⟨1, bk0 (by decide), rf_fail (by decide) (by decide)⟩
            | D =>
              obtain ⟨k, hk, hk'⟩ := ih r hr .E done (cur ++ [32]) (fun q => nomatch q)
              exact ⟨k + 3, bk hk (by decide), rf_rule (by decide) (r261n (by decide)) (rf_rule (by decide) r259y (rf_part (by decide) (by decide) (by decide) hk'))⟩
            | E =>
              obtain ⟨k, hk, hk'⟩ := ih r hr .E done (cur ++ [32]) (fun q => nomatch q)
              exact ⟨k + 2, bk hk (by decide), rf_rule (by decide) r259y (rf_part (by decide) (by decide) (by decide) hk')⟩
          · rw [if_neg h32]
            rcases opTok_of c r with ⟨e, rfl⟩ | ⟨e, rfl⟩ | ⟨e, rfl⟩ | ⟨a0, a1, a2, a5, a14, a15, a23, b1, b2, b3⟩
            · rw [e]
              show ∃ k, k ≤ _ ∧ runF k _ ((14, [43]) :: tokensL r) done cur = _
              cases st with
              | A =>
                obtain ⟨k, hk, hk'⟩ := ih r hr .C done (cur ++ [43]) (fun q => nomatch q)
                exact ⟨k + 3, bk hk (by decide), rf_rule (by decide) (r259n (by decide)) (rf_rule (by decide) (r260y (.inl rfl)) (rf_part (by decide) (by decide) (by decide) hk'))⟩
              | C => exact ⟨1, bk0 (by decide), rf_fail (by decide) (by decide)⟩
              | D => exact ⟨4, bk0 (by decide), rf_rule (by decide) (r261n (by decide)) (rf_rule (by decide) (r259n (by decide)) (tail_fail (by decide) (.inl (by decide))))⟩
              | E => exact ⟨3, bk0 (by decide), rf_rule (by decide) (r259n (by decide)) (tail_fail (by decide) (.inl (by decide)))⟩
            · rw [e]
              show ∃ k, k ≤ _ ∧ runF k _ ((15, [45]) :: tokensL r) done cur = _
              cases st with
              | A =>
                obtain ⟨k, hk, hk'⟩ := ih r hr .C done (cur ++ [45]) (fun q => nomatch q)
                exact ⟨k + 3, bk hk (by decide), rf_rule (by decide) (r259n (by decide)) (rf_rule (by decide) (r260y (.inr rfl)) (rf_part (by decide) (by decide) (by decide) hk'))⟩
              | C => exact ⟨1, bk0 (by decide), rf_fail (by decide) (by decide)⟩
              | D => exact ⟨4, bk0 (by decide), rf_rule (by decide) (r261n (by decide)) (rf_rule (by decide) (r259n (by decide)) (tail_fail (by decide) (.inl (by decide))))⟩
              | E => exact ⟨3, bk0 (by decide), rf_rule (by decide) (r259n (by decide)) (tail_fail (by decide) (.inl (by decide)))⟩
            · rw [e]
              show ∃ k, k ≤ _ ∧ runF k _ ((23, [46]) :: tokensL r) done cur = _
              cases st with
              | A => exact ⟨3, bk0 (by decide), rf_rule (by decide) (r259n (by decide)) (rf_rule (by decide) (r260n (by decide) (by decide)) (rf_fail (by decide) (by decide)))⟩
              | C => exact ⟨1, bk0 (by decide), rf_fail (by decide) (by decide)⟩
              | D =>
                cases b with
                | false => exact ⟨4, bk0 (by decide), rf_rule (by decide) (r261n (by decide)) (rf_rule (by decide) (r259n (by decide)) (tail_fail (by decide) (.inr rfl)))⟩
                | true =>
                  obtain ⟨k, hk, hk'⟩ := ih r hr .A (done ++ [cur]) [] (fun q => nomatch q)
                  exact ⟨k + 5, bk hk (by decide), rf_rule (by decide) (r261n (by decide)) (rf_rule (by decide) (r259n (by decide)) (tail_dot hk'))⟩
              | E =>
                cases b with
                | false => exact ⟨3, bk0 (by decide), rf_rule (by decide) (r259n (by decide)) (tail_fail (by decide) (.inr rfl))⟩
                | true =>
                  obtain ⟨k, hk, hk'⟩ := ih r hr .A (done ++ [cur]) [] (fun q => nomatch q)
                  exact ⟨k + 4, bk hk (by decide), rf_rule (by decide) (r259n (by decide)) (tail_dot hk')⟩
            · have en : go b st (c :: r) done cur = none := by
                have hff : isFig c = false := by simpa using hf
                by_cases q46 : c = 46
                · obtain ⟨r', rfl⟩ := b3 q46
                  subst q46
                  rw [go, if_pos rfl]
                  split
                  · rw [go, if_pos rfl]; rfl
                  · rfl
                · rw [go, if_neg q46]
                  by_cases q43 : c = 43
                  · obtain ⟨r', rfl⟩ := b1 q43
                    subst q43
                    cases st <;> rfl
                  · by_cases q45 : c = 45
                    · obtain ⟨x, r', rfl, hx⟩ := b2 q45
                      subst q45
                      rcases hx with rfl | rfl <;> cases st <;> rfl
                    · cases st <;> simp [pstep, hff, h32, h95, q43, q45]
              rw [en]
              obtain ⟨k, hk, hk'⟩ := run_odd b st (part := (c :: r).take (opTok (c :: r)).2) (rest := tokensL ((c :: r).drop (opTok (c :: r)).2)) (done := done) (cur := cur) a0 a1 a2 a5 a14 a15 a23
              exact ⟨k, bk0 hk, hk'⟩
end Mine
end
section
open PySem PySem.W PyProof.Rows PySem.Calls
set_option Elab.async false
set_option maxRecDepth 100000
namespace Mine
/-- a stretch that the automaton takes -/
noncomputable def acc : PS → List Nat → Bool
  | st, [] => pfin st
  | st, c :: r => if c = 46 then false else match pstep st c with
    | some st' => acc st' r
    | none => false
theorem cutF_from : ∀ (l : List Nat) (d : List (List Nat)) (e : List Nat), (l.foldl cutStep (d, e)).1 = d ++ (l.foldl cutStep ([], e)).1 ∧ (l.foldl cutStep (d, e)).2 = (l.foldl cutStep ([], e)).2
  | [], d, e => by simp
  | c :: r, d, e => by
    simp only [List.foldl_cons, cutStep]
    split
    · have h1 := cutF_from r (d ++ [e]) []
      have h2 := cutF_from r ([] ++ [e]) []
      simp only [List.nil_append] at h2 ⊢
      rw [h1.1, h1.2, h2.1, h2.2]
      simp
    · exact cutF_from r d (e ++ [c])
theorem cutF_cur : ∀ (l : List Nat) (e : List Nat), ∃ x xs, (l.foldl cutStep ([], [])).1 ++ [(l.foldl cutStep ([], [])).2] = x :: xs ∧ (l.foldl cutStep ([], e)).1 ++ [(l.foldl cutStep ([], e)).2] = (e ++ x) :: xs
  | [], e => ⟨[], [], by simp, by simp⟩
  | c :: r, e => by
    simp only [List.foldl_cons, cutStep]
    split
    · have h1 := cutF_from r ([] ++ [e]) []
      have h2 := cutF_from r ([] ++ [[]]) []
      refine ⟨[], (r.foldl cutStep ([], [])).1 ++ [(r.foldl cutStep ([], [])).2], ?_, ?_⟩
      · rw [h2.1, h2.2]; simp
      · rw [h1.1, h1.2]; simp
    · obtain ⟨x, xs, h1, h2⟩ := cutF_cur r (e ++ [c])
      obtain ⟨x', xs', h1', h2'⟩ := cutF_cur r ([] ++ [c])
      rw [h1] at h1'
      obtain ⟨rfl, rfl⟩ := List.cons.inj h1'
      exact ⟨_, _, h2', by rw [h2]; simp⟩
theorem cutL_nil : cutL [] = [[]] := rfl
theorem cutL_dot (r : List Nat) : cutL (46 :: r) = [] :: cutL r := by
  unfold cutL cutF
  simp only [List.foldl_cons, cutStep, if_true]
  have h := cutF_from r ([] ++ [[]]) []
  rw [h.1, h.2]; simp
theorem cutL_cons {c : Nat} (h : c ≠ 46) (r : List Nat) : ∃ x xs, cutL r = x :: xs ∧ cutL (c :: r) = (c :: x) :: xs := by
  obtain ⟨x, xs, h1, h2⟩ := cutF_cur r ([] ++ [c])
  refine ⟨x, xs, h1, ?_⟩
  unfold cutL cutF
  simp only [List.foldl_cons, cutStep, if_neg h]
  rw [h2]; simp
theorem go_true : ∀ (l : List Nat) (st : PS) (done : List (List Nat)) (cur : List Nat), ∃ x xs, cutL l = x :: xs ∧ go true st l done cur = if (acc st x && xs.all (acc .A)) = true then some (done ++ (cur ++ x) :: xs) else none
  | [], st, done, cur => ⟨[], [], rfl, by simp [go, acc]⟩
  | c :: r, st, done, cur => by
    by_cases h : c = 46
    · subst h
      obtain ⟨x, xs, h1, h2⟩ := go_true r .A (done ++ [cur]) []
      refine ⟨[], cutL r, cutL_dot r, ?_⟩
      rw [h1, go, if_pos rfl]
      cases hp : pfin st with
      | false => simp [acc, hp]
      | true =>
        simp only [Bool.and_true, if_true, h2, acc, hp, Bool.true_and, List.all_cons]
        simp
    · obtain ⟨x, xs, h1, h2⟩ := cutL_cons h r
      refine ⟨c :: x, xs, h2, ?_⟩
      rw [go, if_neg h]
      cases hs : pstep st c with
      | none => simp [acc, h, hs]
      | some st' =>
        obtain ⟨x', xs', h1', h2'⟩ := go_true r st' done (cur ++ [c])
        rw [h1] at h1'
        obtain ⟨rfl, rfl⟩ := List.cons.inj h1'
        simp only [h2', acc, if_neg h, hs]
        simp
theorem go_false : ∀ (l : List Nat) (st : PS) (done : List (List Nat)) (cur : List Nat), go false st l done cur = if acc st l = true then some (done ++ [cur ++ l]) else none
  | [], st, done, cur => by simp [go, acc]
  | c :: r, st, done, cur => by
    by_cases h : c = 46
    · subst h; rw [go, if_pos rfl]; simp [acc]
    · rw [go, if_neg h]
      cases hs : pstep st c with
      | none => simp [acc, h, hs]
      | some st' =>
        simp only [go_false r st', acc, if_neg h, hs]
        simp
theorem read_v (l : List Nat) : ∃ n, n ≤ 10 * l.length + 12 ∧ runF n [256, 0] (tokensL l) [] [] = some (if (cutL l).all (acc .A) = true then some (cutL l) else none) := by
  obtain ⟨k, hk, h⟩ := run_go true l.length l (Nat.le_refl _) .A [] [] (fun q => nomatch q)
  obtain ⟨x, xs, h1, h2⟩ := go_true l .A [] []
  obtain ⟨kd, p, rest, e⟩ := tokensL_ne l
  refine ⟨k + 2, by omega, ?_⟩
  rw [e] at h ⊢
  refine rf_rule (by decide) (r256 _) (rf_rule (by decide) (r257 _) (h.trans ?_))
  rw [h2, h1]
  simp
theorem read_b (l : List Nat) : ∃ n, n ≤ 10 * l.length + 12 ∧ runF n [257, 0] (tokensL l) [] [] = some (if acc .A l = true then some [l] else none) := by
  obtain ⟨k, hk, h⟩ := run_go false l.length l (Nat.le_refl _) .A [] [] (fun q => nomatch q)
  obtain ⟨kd, p, rest, e⟩ := tokensL_ne l
  refine ⟨k + 1, by omega, ?_⟩
  rw [e] at h ⊢
  refine rf_rule (by decide) (r257 _) (h.trans ?_)
  rw [go_false]
  simp
end Mine
end
section
open PySem PySem.W PyProof.Rows PySem.Calls PySem.NumText
set_option Elab.async false
set_option maxRecDepth 100000
namespace Mine
noncomputable abbrev rst (l : List Nat) : List Nat := (l.reverse.dropWhile blank).reverse
theorem rst_cons (c : Nat) (r : List Nat) : rst (c :: r) = if rst r = [] ∧ blank c = true then [] else c :: rst r := by
  unfold rst
  rw [List.reverse_cons, List.dropWhile_append]
  by_cases h : (r.reverse.dropWhile blank).isEmpty = true
  · have h' := List.isEmpty_iff.mp h
    rw [if_pos h, h', List.reverse_nil, List.dropWhile_cons]
    cases hb : blank c <;> simp
  · have h' : r.reverse.dropWhile blank ≠ [] := fun q => h (List.isEmpty_iff.mpr q)
    rw [if_neg h, if_neg (fun q => h' (by simpa using q.1))]
    simp
theorem blank_iff {c : Nat} (h : 32 ≤ c) : blank c = true ↔ c = 32 := by
  unfold blank
  simp only [Bool.or_eq_true, beq_iff_eq, Bool.and_eq_true, decide_eq_true_eq]
  omega
theorem rst_cons' {c : Nat} (h : 32 ≤ c) (r : List Nat) : rst (c :: r) = if rst r = [] ∧ c = 32 then [] else c :: rst r := by
  rw [rst_cons]
  by_cases q : c = 32
  · subst q
    have e : blank 32 = true := by decide
    by_cases z : rst r = [] <;> simp [e, z]
  · have : blank c = false := by
      cases hb : blank c with
      | false => rfl
      | true => exact absurd ((blank_iff h).mp hb) q
    simp [this, q]
theorem rst_E : ∀ (l : List Nat), (∀ c ∈ l, 32 ≤ c) → (acc .E l = true ↔ rst l = []) ∧ (acc .E l = true → l.filter isFig = [] ∧ 45 ∉ l)
  | [], _ => ⟨by simp [acc, pfin, rst], by simp⟩
  | c :: r, h => by
    have ih := rst_E r (fun d hd => h d (.tail _ hd))
    have hc := h c (.head _)
    rw [rst_cons' hc]
    by_cases q : c = 32
    · subst q
      have e : acc .E (32 :: r) = acc .E r := by simp [acc, pstep]
      rw [e]
      refine ⟨?_, fun x => ?_⟩
      · rw [ih.1]
        by_cases z : rst r = [] <;> simp [z]
      · obtain ⟨a, b⟩ := ih.2 x
        refine ⟨?_, by simp [b]⟩
        rw [List.filter_cons, if_neg (by decide)]; exact a
    · have e : acc .E (c :: r) = false := by
        simp only [acc, pstep, if_neg q]
        split <;> rfl
      rw [e]
      refine ⟨?_, fun x => nomatch x⟩
      rw [if_neg (fun z => q z.2)]
      simp
theorem step_odd {p : Array Nat × Bool} {c : Nat} (h1 : c ≠ 95) (h2 : isFig c = false) : step 10 p c = none := by
  have h3 : ¬ (48 ≤ c ∧ c ≤ 57) := fun q => by rw [isFig_iff.mpr q] at h2; cases h2
  unfold NumText.step digit?
  simp only [beq_iff_eq, if_neg h1, Bool.and_eq_true, decide_eq_true_eq, if_neg h3]
  by_cases a : 97 ≤ c ∧ c ≤ 122
  · simp only [if_pos a]; rw [if_neg (by omega)]
  · simp only [if_neg a]
    by_cases b : 65 ≤ c ∧ c ≤ 90
    · simp only [if_pos b]; rw [if_neg (by omega)]
    · simp only [if_neg b]
noncomputable def fin? (x : Option (Array Nat × Bool)) : Option (Array Nat) := x.bind fun p => if p.2 then some p.1 else none
noncomputable def stOf : Bool → PS | true => .D | false => .C
theorem dig_acc : ∀ (l : List Nat), (∀ c ∈ l, 32 ≤ c) → ∀ (fl : Bool) (ds : Array Nat),
    (acc (stOf fl) l = true → ∃ ds', fin? ((rst l).foldlM (step 10) (ds, fl)) = some ds' ∧ ds'.toList = ds.toList ++ (l.filter isFig).map (· - 48) ∧ 45 ∉ l) ∧
    (acc (stOf fl) l = false → fin? ((rst l).foldlM (step 10) (ds, fl)) = none)
  | [], _, fl, ds => by cases fl <;> simp [acc, pfin, fin?, rst, stOf]
  | c :: r, h, fl, ds => by
    have hr : ∀ d ∈ r, 32 ≤ d := fun d hd => h d (.tail _ hd)
    have hc := h c (.head _)
    rw [rst_cons' hc]
    by_cases hf : isFig c = true
    · have hf' := isFig_iff.mp hf
      have ih := dig_acc r hr true (ds.push (c - 48))
      have e : acc (stOf fl) (c :: r) = acc .D r := by
        have h46 : c ≠ 46 := by omega
        cases fl <;> simp [stOf, acc, pstep, hf, h46]
      rw [e, if_neg (fun z => by omega), List.foldlM_cons, step_digit hf']
      refine ⟨fun x => ?_, fun x => ih.2 x⟩
      obtain ⟨ds', a1, a2, a3⟩ := ih.1 x
      refine ⟨ds', a1, ?_, ?_⟩
      · rw [a2, List.filter_cons, if_pos hf]; simp
      · simp only [List.mem_cons, not_or]; exact ⟨by omega, a3⟩
    · have hff : isFig c = false := by simpa using hf
      by_cases h95 : c = 95
      · subst h95
        rw [if_neg (fun z => by omega), List.foldlM_cons]
        cases fl with
        | false =>
          have e : acc (stOf false) (95 :: r) = false := by simp [stOf, acc, pstep, hff]
          refine ⟨fun x => (by rw [e] at x; cases x), fun _ => rfl⟩
        | true =>
          have ih := dig_acc r hr false ds
          have e : acc (stOf true) (95 :: r) = acc .C r := by simp [stOf, acc, pstep, hff]
          rw [e]
          refine ⟨fun x => ?_, fun x => ih.2 x⟩
          obtain ⟨ds', a1, a2, a3⟩ := ih.1 x
          refine ⟨ds', a1, ?_, ?_⟩
          · rw [a2, List.filter_cons, if_neg (by decide)]
          · simp only [List.mem_cons, not_or]; exact ⟨by omega, a3⟩
      · by_cases h32 : c = 32
        · subst h32
          have hE := rst_E r hr
          cases fl with
          | false =>
            have e : acc (stOf false) (32 :: r) = false := by simp [stOf, acc, pstep, hff]
            refine ⟨fun x => (by rw [e] at x; cases x), fun _ => ?_⟩
            split
            · rfl
            · rw [List.foldlM_cons, step_odd h95 hff]; rfl
          | true =>
            have e : acc (stOf true) (32 :: r) = acc .E r := by simp [stOf, acc, pstep, hff]
            rw [e]
            refine ⟨fun x => ?_, fun x => ?_⟩
            · obtain ⟨a, b⟩ := hE.2 x
              rw [if_pos ⟨hE.1.mp x, rfl⟩]
              refine ⟨ds, rfl, ?_, by simp [b]⟩
              rw [List.filter_cons, if_neg (by decide), a]; simp
            · have z : rst r ≠ [] := fun q => by rw [hE.1.mpr q] at x; cases x
              rw [if_neg (fun q => z q.1), List.foldlM_cons, step_odd h95 hff]; rfl
        · have e : acc (stOf fl) (c :: r) = false := by cases fl <;> simp [stOf, acc, pstep, hff, h95, h32]
          rw [if_neg (fun z => h32 z.2), List.foldlM_cons, step_odd h95 hff, e]
          exact ⟨fun x => (nomatch x), fun _ => rfl⟩
theorem acc_C_ne {l : List Nat} (h : acc .C l = true) : l.filter isFig ≠ [] := by
  cases l with
  | nil => simp [acc, pfin] at h
  | cons c r =>
    by_cases hf : isFig c = true
    · rw [List.filter_cons, if_pos hf]; simp
    · simp [acc, pstep, hf] at h
theorem acc_A : ∀ (d : List Nat), (∀ c ∈ d, 32 ≤ c) → acc .A d = acc .C (sign (d.dropWhile blank)).2 ∧ d.filter isFig = (sign (d.dropWhile blank)).2.filter isFig ∧ (45 ∈ d ↔ (sign (d.dropWhile blank)).1 = true ∨ 45 ∈ (sign (d.dropWhile blank)).2)
  | [], _ => ⟨rfl, rfl, by simp [sign]⟩
  | c :: r, h => by
    have hc := h c (.head _)
    by_cases q : c = 32
    · subst q
      have ih := acc_A r (fun d hd => h d (.tail _ hd))
      have e : (32 :: r).dropWhile blank = r.dropWhile blank := by rw [List.dropWhile_cons, if_pos (by decide)]
      rw [e]
      have e2 : acc .A (32 :: r) = acc .A r := by simp [acc, pstep]
      rw [e2, List.filter_cons, if_neg (by decide)]
      refine ⟨ih.1, ih.2.1, ?_⟩
      rw [← ih.2.2]
      simp
    · have e : (c :: r).dropWhile blank = c :: r := by
        rw [List.dropWhile_cons, if_neg (fun z => q ((blank_iff hc).mp z))]
      rw [e]
      by_cases q45 : c = 45
      · subst q45
        refine ⟨by simp [acc, pstep, sign], ?_, by simp [sign]⟩
        rw [List.filter_cons, if_neg (by decide)]; rfl
      · by_cases q43 : c = 43
        · subst q43
          refine ⟨by simp [acc, pstep, sign], ?_, by simp [sign]⟩
          rw [List.filter_cons, if_neg (by decide)]; rfl
        · rw [sign_of q45 q43]
          refine ⟨?_, rfl, by simp⟩
          simp [acc, pstep, q, q43, q45]
end Mine
end
section
open PySem PySem.W PyProof.Rows PySem.Calls PySem.NumText
set_option Elab.async false
set_option maxRecDepth 100000
namespace Mine
theorem figs_all (l : List Nat) : AllDigits (l.filter isFig) := fun c hc => isFig_iff.mp (List.mem_filter.mp hc).2
theorem strip_eq : ∀ (l : List Nat), l ≠ [] → strip0 l = match l.dropWhile (· == 48) with
    | [] => [48]
    | c :: r => c :: r
  | [], h => absurd rfl h
  | [c], _ => by
    by_cases q : c = 48
    · subst q; rfl
    · have e : List.dropWhile (· == 48) [c] = [c] := by rw [List.dropWhile_cons, if_neg (by simpa using q)]
      rw [e]; unfold strip0; split
      · rename_i h; injection h with _ h2; cases h2
      · rfl
  | c :: d :: r, _ => by
    by_cases q : c = 48
    · subst q
      have e : List.dropWhile (· == 48) (48 :: d :: r) = List.dropWhile (· == 48) (d :: r) := by rw [List.dropWhile_cons, if_pos (by decide)]
      rw [e]
      show strip0 (d :: r) = _
      exact strip_eq (d :: r) (List.cons_ne_nil _ _)
    · have e : List.dropWhile (· == 48) (c :: d :: r) = c :: d :: r := by rw [List.dropWhile_cons, if_neg (by simpa using q)]
      rw [e]
      unfold strip0
      split
      · rename_i h; injection h with h1 _; exact absurd h1 q
      · rfl
theorem back_of : ∀ c : Nat, 48 ≤ c ∧ c ≤ 57 → (Char.ofNat c).toNat = c := by
  intro c h
  have : ∀ k : Fin 10, (Char.ofNat (48 + k.val)).toNat = 48 + k.val := by decide
  have h2 := this ⟨c - 48, by (first | lia | omega)⟩
  have e : 48 + (c - 48) = c := by (first | lia | omega)
  simp only [e] at h2
  exact h2
theorem back_map : ∀ (l : List Nat), AllDigits l → (l.map Char.ofNat).map Char.toNat = l
  | [], _ => rfl
  | c :: r, h => by
    simp only [List.map_cons]
    rw [back_of c h.head, back_map r h.tail]
theorem dw_all {l : List Nat} (h : AllDigits l) : AllDigits (l.dropWhile (· == 48)) := fun c hc => h c ((List.dropWhile_suffix _).subset hc)
theorem strip_digits {l : List Nat} (h : AllDigits l) (hne : l ≠ []) : (Nat.toDigits 10 (digitsVal l)).map Char.toNat = strip0 l := by
  rw [toDigits_all l h, strip_eq l hne]
  have hd := dw_all h
  revert hd
  cases l.dropWhile (· == 48) with
  | nil => intro _; rfl
  | cons c r => intro hd; exact back_map (c :: r) hd
theorem digitsVal_dw : ∀ (l : List Nat), digitsVal l = digitsVal (l.dropWhile (· == 48))
  | [] => rfl
  | c :: r => by
    by_cases q : c = 48
    · subst q
      rw [digitsVal_zero, List.dropWhile_cons, if_pos (by decide)]; exact digitsVal_dw r
    · rw [List.dropWhile_cons, if_neg (by simpa using q)]
theorem strip_zero {l : List Nat} (h : AllDigits l) (hne : l ≠ []) : strip0 l = [48] ↔ digitsVal l = 0 := by
  rw [strip_eq l hne, digitsVal_dw]
  have hd := dw_all h
  have hh := dw_head (· == 48) l
  revert hd hh
  cases l.dropWhile (· == 48) with
  | nil => intro _ _; simp [digitsVal]
  | cons c r =>
    intro hd hh
    have h1 := hh c r rfl
    have h2 := hd.head
    have h3 : c ≠ 48 := by simpa using h1
    have := digitsVal_pos (cs := r) (show 49 ≤ c by (first | lia | omega))
    constructor
    · intro q; injection q with q1 _; exact absurd q1 h3
    · intro q; (first | lia | omega)
theorem digitsVal_lt : ∀ (l : List Nat), AllDigits l → digitsVal l < 10 ^ l.length := by
  intro l
  have key : ∀ (l : List Nat) (a : Nat), AllDigits l → l.foldl (fun acc c => acc * 10 + (c - 48)) a < (a + 1) * 10 ^ l.length := by
    intro l
    induction l with
    | nil => intro a _; simp
    | cons c r ih =>
      intro a h
      have h1 := h.head
      have h2 := ih (a * 10 + (c - 48)) h.tail
      rw [List.foldl_cons, List.length_cons, Nat.pow_succ]
      refine Nat.lt_of_lt_of_le h2 ?_
      have h3 : a * 10 + (c - 48) + 1 ≤ (a + 1) * 10 := by (first | lia | omega)
      have := Nat.mul_le_mul_right (10 ^ r.length) h3
      rw [Nat.mul_assoc, Nat.mul_comm 10] at this
      exact this
  intro h
  have := key l 0 h
  unfold digitsVal
  (first | lia | omega)
theorem log_small {k : Nat} {l : List Nat} (h : AllDigits l) (hl : l.length ≤ 500) (hk : k = digitsVal l) : k.log2 < 1920 := by
  have h1 := digitsVal_lt l h
  have h2 : 10 ^ l.length ≤ 10 ^ 500 := Nat.pow_le_pow_right (by decide) hl
  have h3 : 10 ^ 500 < 2 ^ 1920 := by decide +kernel
  subst hk
  by_cases q : digitsVal l = 0
  · rw [q]; decide
  · exact (Nat.log2_lt q).mpr (by (first | lia | omega))
theorem foldl_map (ls : List Nat) : ∀ a : Nat, (ls.map (· - 48)).foldl (fun acc d => acc * 10 + d) a = ls.foldl (fun acc c => acc * 10 + (c - 48)) a := by
  induction ls with
  | nil => intro a; rfl
  | cons c r ih => intro a; exact ih _
theorem tx_nat (k : Nat) : (tx (k : Int)).cps.toList = (Nat.toDigits 10 k).map Char.toNat := W.KIN.signs_num k
theorem tx_neg {k : Nat} (h : k ≠ 0) : (tx (-(k : Int))).cps.toList = 45 :: (Nat.toDigits 10 k).map Char.toNat := by
  obtain ⟨j, rfl⟩ : ∃ j, k = j + 1 := ⟨k - 1, by (first | lia | omega)⟩
  have e : (-((j + 1 : Nat) : Int)) = Int.negSucc j := rfl
  rw [e]
  show (Str.ofString ("-" ++ Nat.repr (j + 1))).cps.toList = _
  rw [signs_ofString, String.toList_append, Nat.toList_repr, List.map_append]
  rfl
theorem seen_S {d : List Nat} (h : ∀ c ∈ d, 32 ≤ c ∧ c ≤ 126) : numTextOf (S d) = d ∧ numSeenOf (S d) = d := by
  have e1 : numTextOf (S d) = d := by
    refine if_pos ?_
    rw [← Array.all_toList, List.all_eq_true]
    intro c hc
    have := h c hc
    exact decide_eq_true (by (first | lia | omega))
  refine ⟨e1, ?_⟩
  show (numTextOf (S d)).takeWhile _ = _
  rw [e1]
  refine takeWhile_all fun c hc => ?_
  have := h c hc
  exact bne_iff_ne.mpr (by (first | lia | omega))
theorem int_acc {d : List Nat} (h : ∀ c ∈ d, 32 ≤ c ∧ c ≤ 126) (hl : d.length ≤ 500) :
    (acc .A d = true → ∃ n, PySem.intText? (S d) = some n ∧ S (numberL d) = tx n ∧ n.natAbs.log2 < 1920) ∧ (acc .A d = false → PySem.intText? (S d) = none) := by
  obtain ⟨s1, s2⟩ := seen_S h
  have h32 : ∀ c ∈ d, 32 ≤ c := fun c hc => (h c hc).1
  obtain ⟨a1, a2, a3⟩ := acc_A d h32
  have h32' : ∀ c ∈ (sign (d.dropWhile blank)).2, 32 ≤ c := by
    intro c hc
    have : c ∈ d.dropWhile blank := by
      revert hc; unfold sign; split
      · rename_i e; intro q; rw [e]; exact .tail _ q
      · rename_i e; intro q; rw [e]; exact .tail _ q
      · exact id
    exact h32 c ((List.dropWhile_suffix _).subset this)
  have hd := dig_acc (sign (d.dropWhile blank)).2 h32' false #[]
  have e0 : digits? 10 (core d) = fin? ((rst (sign (d.dropWhile blank)).2).foldlM (NumText.step 10) (#[], false)) := rfl
  rw [a1]
  constructor
  · intro hA
    obtain ⟨ds, b1, b2, b3⟩ := hd.1 hA
    have hne : d.filter isFig ≠ [] := by rw [a2]; exact acc_C_ne hA
    have hall := figs_all d
    have hval : ds.foldl (fun acc d => acc * 10 + d) 0 = digitsVal (d.filter isFig) := by
      rw [← Array.foldl_toList, b2, a2]
      exact foldl_map _ 0
    have hsz : ds.size ≤ 4300 := by
      have q : ds.toList.length = ds.size := Array.length_toList
      rw [b2] at q
      simp only [List.length_append, List.length_map, List.length_nil] at q
      rw [← a2] at q
      have := List.length_filter_le isFig d
      have q0 : (#[] : Array Nat).toList.length = 0 := rfl
      (first | lia | omega)
    have hi : PySem.intText? (S d) = some (worth (sign (d.dropWhile blank)).1 ds) := by
      unfold PySem.intText?
      rw [s1, s2, if_pos (by simp), e0, b1]
      exact if_pos hsz
    have h45 : 45 ∈ d ↔ (sign (d.dropWhile blank)).1 = true := by
      rw [a3]; exact ⟨fun q => q.elim id (fun q => absurd q b3), .inl⟩
    refine ⟨_, hi, ?_, ?_⟩
    · unfold worth
      rw [hval]
      refine str_eq ?_
      rw [S_cps]
      unfold numberL
      by_cases hs : (sign (d.dropWhile blank)).1 = true
      · rw [if_pos hs]
        by_cases hz : digitsVal (d.filter isFig) = 0
        · rw [if_neg (fun q => q.2 ((strip_zero hall hne).mpr hz)), (strip_zero hall hne).mpr hz, hz]
          decide +kernel
        · rw [if_pos ⟨h45.mpr hs, fun q => hz ((strip_zero hall hne).mp q)⟩, tx_neg hz, strip_digits hall hne]
      · rw [if_neg hs, if_neg (fun q => hs (h45.mp q.1)), tx_nat, strip_digits hall hne]
    · have hlf : (d.filter isFig).length ≤ 500 := Nat.le_trans (List.length_filter_le _ _) hl
      refine log_small hall hlf ?_
      unfold worth
      rw [hval]
      split <;> (first | lia | omega)
  · intro hA
    have b := hd.2 hA
    unfold PySem.intText?
    rw [s1, s2, if_pos (by simp), e0, b]
end Mine
end
section
open PySem PySem.W PyProof.Rows PySem.Calls PySem.NumText
set_option Elab.async false
set_option maxRecDepth 100000
namespace Mine
theorem cut_free : ∀ p : List Nat, 46 ∉ p → cutL p = [p]
  | [], _ => rfl
  | c :: r, h => by
    have h1 : c ≠ 46 := fun q => h (q ▸ .head _)
    obtain ⟨x, xs, e1, e2⟩ := cutL_cons h1 r
    rw [cut_free r (fun q => h (.tail _ q))] at e1
    cases e1
    exact e2
theorem cut_app : ∀ (p r : List Nat), 46 ∉ p → cutL (p ++ 46 :: r) = p :: cutL r
  | [], r, _ => cutL_dot r
  | c :: p, r, h => by
    have h1 : c ≠ 46 := fun q => h (q ▸ .head _)
    obtain ⟨x, xs, e1, e2⟩ := cutL_cons h1 (p ++ 46 :: r)
    rw [cut_app p r (fun q => h (.tail _ q))] at e1
    cases e1
    exact e2
theorem dot_eq : Str.ofString "." = ⟨#[46]⟩ := by decide +kernel
theorem cut_join : ∀ ps : List Str, ps ≠ [] → (∀ p ∈ ps, 46 ∉ p.cps.toList) → cutL (Str.join ⟨#[46]⟩ ps).cps.toList = ps.map (·.cps.toList)
  | [], h, _ => absurd rfl h
  | [p], _, h => cut_free _ (h p (.head _))
  | p :: q :: r, _, h => by
    have ih := cut_join (q :: r) (List.cons_ne_nil _ _) (fun x hx => h x (.tail _ hx))
    have e : Str.join ⟨#[46]⟩ (p :: q :: r) = p ++ ⟨#[46]⟩ ++ Str.join ⟨#[46]⟩ (q :: r) := rfl
    rw [e, append_toList, append_toList]
    have e2 : (p.cps.toList ++ [46]) ++ (Str.join ⟨#[46]⟩ (q :: r)).cps.toList = p.cps.toList ++ 46 :: (Str.join ⟨#[46]⟩ (q :: r)).cps.toList := by simp
    show cutL ((p.cps.toList ++ [46]) ++ (Str.join ⟨#[46]⟩ (q :: r)).cps.toList) = _
    rw [e2, cut_app _ _ (h p (.head _)), ih]; rfl
theorem split_cut (v : Str) : Txt.split v (Str.ofString ".") = (cutL v.cps.toList).map S := by
  rw [dot_eq]
  have h1 := StrLaws.join_split v ⟨#[46]⟩
  have h2 := StrLaws.split_free v 46
  have h3 : Txt.split v ⟨#[46]⟩ ≠ [] := fun q => by
    have := split_pos v ⟨#[46]⟩
    rw [q] at this; exact absurd this (by decide)
  have h4 := cut_join _ h3 h2
  rw [h1] at h4
  rw [h4, List.map_map]
  conv => lhs; rw [← List.map_id (Txt.split v ⟨#[46]⟩)]
  exact List.map_congr_left fun x _ => (S_toList x).symm
theorem cut_parts : ∀ (l : List Nat), (∀ d ∈ cutL l, (∀ c ∈ d, c ∈ l) ∧ d.length ≤ l.length) ∧ (cutL l).length ≤ l.length + 1
  | [] => ⟨by intro d hd; rw [cutL_nil] at hd; rw [List.mem_singleton.mp hd]; exact ⟨fun c hc => (nomatch hc), Nat.le_refl _⟩, Nat.le_refl _⟩
  | c :: r => by
    have ih := cut_parts r
    by_cases h : c = 46
    · subst h
      rw [cutL_dot]
      refine ⟨?_, by simp only [List.length_cons]; (first | lia | omega)⟩
      intro d hd
      rcases List.mem_cons.mp hd with rfl | hd
      · exact ⟨fun c hc => (nomatch hc), Nat.zero_le _⟩
      · have := ih.1 d hd
        exact ⟨fun c hc => .tail _ (this.1 c hc), by simp only [List.length_cons]; (first | lia | omega)⟩
    · obtain ⟨x, xs, e1, e2⟩ := cutL_cons h r
      rw [e1] at ih
      rw [e2]
      refine ⟨?_, by have := ih.2; simp only [List.length_cons] at *; (first | lia | omega)⟩
      intro d hd
      rcases List.mem_cons.mp hd with rfl | hd
      · have := ih.1 x (.head _)
        refine ⟨fun c' hc => ?_, by simp only [List.length_cons]; (first | lia | omega)⟩
        rcases List.mem_cons.mp hc with rfl | hc
        · exact .head _
        · exact .tail _ (this.1 c' hc)
      · have := ih.1 d (.tail _ hd)
        exact ⟨fun c hc => .tail _ (this.1 c hc), by simp only [List.length_cons]; (first | lia | omega)⟩
/-- a plain stretch -/
noncomputable def Pl (d : List Nat) : Prop := (∀ c ∈ d, 32 ≤ c ∧ c ≤ 126) ∧ d.length ≤ 300
theorem Pl.item {d : List Nat} (h : Pl d) : Item (S d) := by
  obtain ⟨s1, s2⟩ := seen_S h.1
  have hl : (S d).length = d.length := S_len d
  refine ⟨by rw [hl]; have := h.2; (first | lia | omega), by rw [s1, s2]; simp, ?_, ?_⟩
  · refine Nat.le_trans (StrLaws.reprText_len _ (fun c hc => ?_)) ?_
    · have := h.1 c hc; have e : (16 : Nat) ^ 8 = 4294967296 := by decide
      (first | lia | omega)
    · rw [hl, sizeLine_eq]; have := h.2; (first | lia | omega)
  · intro n hn
    have hi := int_acc h.1 (by have := h.2; (first | lia | omega))
    cases ha : acc .A d with
    | false => rw [hi.2 ha] at hn; cases hn
    | true =>
      obtain ⟨n', e1, _, e3⟩ := hi.1 ha
      rw [e1] at hn
      cases hn
      exact e3
theorem ints_all : ∀ (ds : List (List Nat)), (∀ d ∈ ds, Pl d) → (ds.all (acc .A) = true → ∃ ms, ints? (ds.map S) = some ms ∧ ms.map tx = ds.map (fun d => S (numberL d))) ∧ (ds.all (acc .A) = false → ints? (ds.map S) = none)
  | [], _ => ⟨fun _ => ⟨[], rfl, rfl⟩, fun h => (nomatch h)⟩
  | d :: r, h => by
    have ih := ints_all r (fun x hx => h x (.tail _ hx))
    have hd := h d (.head _)
    have hi := int_acc hd.1 (by have := hd.2; (first | lia | omega))
    rw [List.all_cons, List.map_cons, List.map_cons]
    cases ha : acc .A d with
    | false =>
      refine ⟨fun x => (nomatch x), fun _ => ?_⟩
      unfold ints?
      rw [hi.2 ha]
    | true =>
      obtain ⟨n, e1, e2, _⟩ := hi.1 ha
      rw [Bool.true_and]
      refine ⟨fun x => ?_, fun x => ?_⟩
      · obtain ⟨ms, f1, f2⟩ := ih.1 x
        refine ⟨n :: ms, ?_, ?_⟩
        · unfold ints?
          rw [e1, f1]
        · rw [List.map_cons, f2, e2]
      · unfold ints?
        rw [e1, ih.2 x]
theorem pl_short {ds : List (List Nat)} (h : ∀ d ∈ ds, Pl d) : ∀ z ∈ ds.map (fun d => S (numberL d)), z.length ≤ 5000 := by
  intro z hz
  obtain ⟨d, hd, rfl⟩ := List.mem_map.mp hz
  have := numberL_len d
  have := (h d hd).2
  show (S (numberL d)).length ≤ 5000
  rw [S_len]; (first | lia | omega)
theorem due_all {v b : Str} (hv : G 300 v) (hb : G 300 b) : ∃ nv nb rv rb, Due8 v b nv nb rv rb := by
  obtain ⟨nv, hnv, hrv⟩ := read_v v.cps.toList
  obtain ⟨nb, hnb, hrb⟩ := read_b b.cps.toList
  have lv := hv.len
  have lb := hb.len
  have tv := len_toList v
  have tb := len_toList b
  have hpb : Pl b.cps.toList := ⟨hb.chars, by (first | lia | omega)⟩
  have hpv : ∀ d ∈ cutL v.cps.toList, Pl d := fun d hd => by
    have := (cut_parts v.cps.toList).1 d hd
    exact ⟨fun c hc => hv.chars c (this.1 c hc), by (first | lia | omega)⟩
  have hcount := (cut_parts v.cps.toList).2
  have hds : ∃ ds : List (List Nat), xsOf v b = ds.map S ∧ (∀ d ∈ ds, Pl d) ∧ ds.length ≤ 400 ∧
      ((ds.all (acc .A) = true → dueT v b (if (cutL v.cps.toList).all (acc .A) = true then some (cutL v.cps.toList) else none) (if acc .A b.cps.toList = true then some [b.cps.toList] else none) = ds.map (fun d => S (numberL d))) ∧
       (ds.all (acc .A) = false → dueT v b (if (cutL v.cps.toList).all (acc .A) = true then some (cutL v.cps.toList) else none) (if acc .A b.cps.toList = true then some [b.cps.toList] else none) = xsOf v b)) := by
    unfold xsOf
    rw [split_cut]
    cases he : (b == Str.ofString "") with
    | true =>
      refine ⟨cutL v.cps.toList, by simp, hpv, by (first | lia | omega), fun h => ?_, fun h => ?_⟩
      · rw [if_pos h, dueT_E he]; simp
      · rw [if_neg (by rw [h]; decide), dueT_NE he]; rfl
    | false =>
      refine ⟨cutL v.cps.toList ++ [b.cps.toList], ?_, ?_, ?_, fun h => ?_, fun h => ?_⟩
      · rw [if_neg (by decide), List.map_append, List.map_cons, S_toList]; rfl
      · intro d hd
        rcases List.mem_append.mp hd with hd | hd
        · exact hpv d hd
        · rw [List.mem_singleton.mp hd]; exact hpb
      · rw [List.length_append, List.length_singleton]; (first | lia | omega)
      · rw [List.all_append, Bool.and_eq_true] at h
        have h2 : acc .A b.cps.toList = true := by simpa using h.2
        rw [if_pos h.1, if_pos h2, dueT_B he, List.map_append]
      · show dueT v b _ _ = List.map S (cutL v.cps.toList) ++ [b]
        rw [List.all_append, Bool.and_eq_false_iff] at h
        by_cases ha : (cutL v.cps.toList).all (acc .A) = true
        · have h2 : acc .A b.cps.toList = false := by
            rcases h with h | h
            · rw [ha] at h; cases h
            · simpa using h
          rw [if_pos ha, if_neg (by rw [h2]; decide), dueT_BN he]
        · rw [if_neg ha, dueT_NB he]
  obtain ⟨ds, e1, e2, e3, e4, e5⟩ := hds
  have hi := ints_all ds e2
  refine ⟨nv, nb, _, _, ⟨by (first | lia | omega), by (first | lia | omega), hrv, hrb, by rw [sumR_tokensL _ _ (Nat.le_refl _)]; (first | lia | omega), by rw [sumR_tokensL _ _ (Nat.le_refl _)]; (first | lia | omega), by (first | lia | omega), by (first | lia | omega), ?_, ?_, ?_, ?_, ?_⟩⟩
  · intro ms hms
    rw [e1] at hms
    cases ha : ds.all (acc .A) with
    | false => rw [hi.2 ha] at hms; cases hms
    | true =>
      obtain ⟨ms', f1, f2⟩ := hi.1 ha
      rw [f1] at hms
      cases hms
      rw [f2]
      exact ⟨e4 ha, pl_short e2⟩
  · intro hn
    rw [e1] at hn
    cases ha : ds.all (acc .A) with
    | false => exact e5 ha
    | true =>
      obtain ⟨ms', f1, f2⟩ := hi.1 ha
      rw [f1] at hn; cases hn
  · rw [e1]
    intro x hx
    obtain ⟨d, hd, rfl⟩ := List.mem_map.mp hx
    exact (e2 d hd).item
  · rw [e1, List.length_map]; (first | lia | omega)
  · rw [e1]
    intro x hx
    obtain ⟨d, hd, rfl⟩ := List.mem_map.mp hx
    have := (e2 d hd).2
    rw [S_len]; (first | lia | omega)
theorem due_elim {v b : Str} {P : Prop} (hv : G 300 v) (hb : G 300 b) (k : ∀ nv nb rv rb, Due8 v b nv nb rv rb → P) : P := by
  obtain ⟨nv, nb, rv, rb, d⟩ := due_all hv hb
  exact k nv nb rv rb d
end Mine
end
section
open PySem PySem.W PyProof.Rows PySem.Calls
set_option Elab.async false
set_option maxRecDepth 100000
set_option maxHeartbeats 8000000
namespace Mine
theorem law_try : PySem.Challenge.rw_mj0140_01.Holds := hd (by (k_with_none; (k_with "ne" => (refine neN ?_; (try dsimp only); first | assumption | exact Ne.symm (by assumption) | exact And.left (by assumption) | exact And.right (by assumption) | exact Ne.symm (And.left (by assumption)) | exact Ne.symm (And.right (by assumption)) | ((refine' ne_lt ?hne ?mne); (case hne => assumption); (case mne => ((repeat (first | exact List.Mem.head _ | refine List.Mem.tail _ ?_)); done))) | ((refine' ne_gt ?hne ?mne); (case hne => assumption); (case mne => ((repeat (first | exact List.Mem.head _ | refine List.Mem.tail _ ?_)); done))) | ((refine' ne_all ?hne ?mne); (case hne => assumption); (case mne => ((repeat (first | exact List.Mem.head _ | refine List.Mem.tail _ ?_)); done))) | ((refine' ne_lla ?hne ?mne); (case hne => assumption); (case mne => ((repeat (first | exact List.Mem.head _ | refine List.Mem.tail _ ?_)); done))) | exact And.left (And.right (by assumption)) | exact And.right (And.right (by assumption)) | exact And.left (And.right (And.right (by assumption))) | exact And.right (And.right (And.right (by assumption))) | exact And.left (And.right (And.right (And.right (by assumption)))) | exact And.right (And.right (And.right (And.right (by assumption)))) | exact And.left (And.right (And.right (And.right (And.right (by assumption))))) | exact And.right (And.right (And.right (And.right (And.right (by assumption))))) | exact And.left (And.right (And.right (And.right (And.right (And.right (by assumption)))))) | exact And.right (And.right (And.right (And.right (And.right (And.right (by assumption)))))) | exact And.left (And.right (And.right (And.right (And.right (And.right (And.right (by assumption))))))) | exact And.right (And.right (And.right (And.right (And.right (And.right (And.right (by assumption))))))) | exact And.left (And.right (And.right (And.right (And.right (And.right (And.right (And.right (by assumption)))))))) | exact And.right (And.right (And.right (And.right (And.right (And.right (And.right (And.right (by assumption)))))))) | exact And.left (And.right (And.right (And.right (And.right (And.right (And.right (And.right (And.right (by assumption))))))))) | exact And.right (And.right (And.right (And.right (And.right (And.right (And.right (And.right (And.right (by assumption))))))))) | exact And.left (And.right (And.right (And.right (And.right (And.right (And.right (And.right (And.right (And.right (by assumption)))))))))) | exact And.right (And.right (And.right (And.right (And.right (And.right (And.right (And.right (And.right (And.right (by assumption)))))))))) | exact Ne.symm (And.left (And.right (by assumption))) | exact Ne.symm (And.right (And.right (by assumption))) | exact Ne.symm (And.left (And.right (And.right (by assumption)))) | exact Ne.symm (And.right (And.right (And.right (by assumption)))) | exact Ne.symm (And.left (And.right (And.right (And.right (by assumption))))) | exact Ne.symm (And.right (And.right (And.right (And.right (by assumption))))) | exact Ne.symm (And.left (And.right (And.right (And.right (And.right (by assumption)))))) | exact Ne.symm (And.right (And.right (And.right (And.right (And.right (by assumption)))))) | exact Ne.symm (And.left (And.right (And.right (And.right (And.right (And.right (by assumption))))))) | exact Ne.symm (And.right (And.right (And.right (And.right (And.right (And.right (by assumption))))))) | exact Ne.symm (And.left (And.right (And.right (And.right (And.right (And.right (And.right (by assumption)))))))) | exact Ne.symm (And.right (And.right (And.right (And.right (And.right (And.right (And.right (by assumption)))))))) | exact Ne.symm (And.left (And.right (And.right (And.right (And.right (And.right (And.right (And.right (by assumption))))))))) | exact Ne.symm (And.right (And.right (And.right (And.right (And.right (And.right (And.right (And.right (by assumption))))))))) | exact Ne.symm (And.left (And.right (And.right (And.right (And.right (And.right (And.right (And.right (And.right (by assumption)))))))))) | exact Ne.symm (And.right (And.right (And.right (And.right (And.right (And.right (And.right (And.right (And.right (by assumption)))))))))) | exact Ne.symm (And.left (And.right (And.right (And.right (And.right (And.right (And.right (And.right (And.right (And.right (by assumption))))))))))) | exact Ne.symm (And.right (And.right (And.right (And.right (And.right (And.right (And.right (And.right (And.right (And.right (by assumption))))))))))) | ((repeat (rename ∀ _ ∈ _, _ => hk9; replace hk9 := allLt_of hk9; simp only [AllLt, and_true] at hk9)); omega))); (k_with "lt" => (refine ltN ?_; (try dsimp only); first | assumption | ((refine' lt_mem ?hlt ?mlt); (case hlt => assumption); (case mlt => ((repeat (first | exact List.Mem.head _ | refine List.Mem.tail _ ?_)); done))) | omega)); (k_with "room" => ((try simp only [depth_under_make, depth_under_kw, depth_in1, depth_deeper, depth_caller]); (try dsimp only [ktrTop]); first | exact room2 (by assumption) (by decide) | exact room1 (by assumption) (by decide) | exact room3 (by assumption) (by decide) | exact room0 (by assumption))); (k_with "units" => ((try simp only [units_in1, units_deeper, Around.mark_units, units_caller]); (try dsimp only [ktrTop]); first | exact room2 (by assumption) (by decide) | exact room1 (by assumption) (by decide) | exact room3 (by assumption) (by decide) | exact room0 (by assumption))); (k_with "exec For" => refine stop ?_); (k_with "exec For Name Call" => refine stop ?_); (k_with "exec For Name Call cons" => refine stop ?_); (k_with "exec For Name Call cons nil" => refine stop ?_); (k_with "exec Assign cons ListComp" => ((with_reducible show wpAny _ _ (exec (Stmt.Assign _ (Expr.ListComp (Expr.Call _ _ _ _) _ _ _) _) _) _ _ _); refine stop ?_)); (k_with "call ref" => (first | ((with_reducible show wpAny _ _ (call (Value.ref 82) [Value.str _ _, Value.str _ _]) _ _ _); k_dflt (refine' due_some _ _ _ _ _ _ _ _ _ _ _ _ _ _ _ _ _ _ _ _ _ _ _ _ _ _ _ _ _ ?kwDz ?kwk1z ?kwk2z ?kwk3z ?kwk5z ?kwkKz ?kwk4z ?kwkdz ?kwkuz _ ?kwmsz ?_; (case kwmsz => assumption); (case kwDz => assumption); (case kwk1z => k_asm); (case kwk2z => k_asm); (case kwk3z => k_asm); (case kwk5z => k_asm); (case kwkKz => exact rfl); (case kwk4z => k_asm); (case kwkdz => first | ktr_room | k_room | decide); (case kwkuz => first | ktr_units | decide)); (intro h9kw tk9kw t9kw F9kw N9kw); (try dsimp only)) | ((with_reducible show wpAny _ _ (call (Value.ref 82) [Value.str _ _, Value.str _ _]) _ _ _); k_dflt (refine' due_none _ _ _ _ _ _ _ _ _ _ _ _ _ _ _ _ _ _ _ _ _ _ _ _ _ _ _ _ _ ?kwDz ?kwk1z ?kwk2z ?kwk3z ?kwk5z ?kwkKz ?kwk4z ?kwkdz ?kwkuz ?kwmsz ?_; (case kwmsz => assumption); (case kwDz => assumption); (case kwk1z => k_asm); (case kwk2z => k_asm); (case kwk3z => k_asm); (case kwk5z => k_asm); (case kwkKz => exact rfl); (case kwk4z => k_asm); (case kwkdz => first | ktr_room | k_room | decide); (case kwkuz => first | ktr_units | decide)); (intro h9kw tk9kw t9kw F9kw N9kw); (try dsimp only)) | ((with_reducible show wpAny _ _ (call (Value.ref 53) [Value.int _ _]) _ _ _); k_dflt (refine' piece_walk _ _ _ _ _ _ _ _ _ _ _ _ _ _ _ _ _ _ _ _ _ _ _ ?kwh0z ?kwh1z ?kwk1z ?kwk2z ?kwk3z ?kwk5z ?kwkKz ?kwkdz ?kwkuz ?_; (case kwh0z => assumption); (case kwh1z => assumption); (case kwk1z => k_asm); (case kwk2z => k_asm); (case kwk3z => k_asm); (case kwk5z => k_asm); (case kwkKz => exact rfl); (case kwkdz => first | ktr_room | k_room | decide); (case kwkuz => first | ktr_units | decide)); (intro h9kw tk9kw t9kw y9kw hg9kw st9kw); (try dsimp only)))); (k_with "subscriptTail" => (first | ((with_reducible show wpAny _ _ (subscriptTail _ _ (Value.ref _) (Value.int (-1) _)) _ _ _); k_dflt (refine' last_tail ?kwNz ?kwmz ?_ ?kwsz; (case kwNz => k_asm); (case kwmz => k_mem); (case kwsz => with_unfolding_all rfl))) | ((with_reducible show wpAny _ _ (subscriptTail _ _ (Value.ref _) (Value.int 0 _)) _ _ _); k_dflt (refine' first_tail ?kwNz ?kwmz ?_ ?kwsz; (case kwNz => k_asm); (case kwmz => k_mem); (case kwsz => with_unfolding_all rfl))))); (k_with "subscriptTail Name Constant ref int" => ( ((with_reducible show wpAny _ _ (subscriptTail _ _ (Value.ref _) (Value.int 0 _)) _ _ _); k_dflt (refine' first_tail ?kwNz ?kwmz ?_ ?kwsz; (case kwNz => k_asm); (case kwmz => k_mem); (case kwsz => with_unfolding_all rfl))))); (k_with "pyIter ref" => refine stop ?_); (k_with "subscriptTail Name Slice ref ref" => (k_dflt (first | (refine' upto_list (k := 3) ?kwFz ?kwNz ?kwmz ?_ ?kwsz ?kwtz ?kwzz; (case kwFz => k_asm); (case kwNz => k_asm); (case kwmz => k_mem); (case kwsz => with_unfolding_all rfl); (case kwtz => kmk_pure); (case kwzz => first | ((with_reducible refine Nat.le_trans (by assumption) ?_); decide) | omega | ((simp only [List.length_append, List.length_map, List.length_cons, List.length_nil]); omega))) | (refine' upto_list ?kwFz ?kwNz ?kwmz ?_ ?kwsz ?kwtz ?kwzz; (case kwFz => k_asm); (case kwNz => k_asm); (case kwmz => k_mem); (case kwsz => with_unfolding_all rfl); (case kwtz => kmk_pure); (case kwzz => first | (refine Nat.le_trans (by assumption) ?_; decide) | ((simp only [List.length_append, List.length_cons, List.length_nil]); omega) | omega))); intro Dkwp hkwp Fkwp Nkwp l1kw; (try k_lt l1kw))); (k_with "call builtin:str.join" => (first | ((k_dflt (refine' join_three ?kwNz ?kwmz ?kwsz ?kwyz ?kwbz ?_; (case kwNz => k_asm); (case kwmz => k_mem); (case kwsz => first | exact xs_app (by assumption) (by assumption) | exact xs_nil (by assumption) (by assumption) | assumption); (case kwyz => decide +kernel); (case kwbz => assumption))); intro t8kw k8kw) | ((k_dflt (refine' join_upto ?kwNz ?kwmz ?kwsz ?kwyz ?kwlz ?kwbz ?_; (case kwNz => k_asm); (case kwmz => k_mem); (case kwsz => assumption); (case kwyz => decide +kernel); (case kwlz => assumption); (case kwbz => assumption))); intro t8kw k8kw))); (k_with "call builtin:str.split" => (k_dflt (refine' KSpl.split1 ?kwFz ?kwNz ?kwyz ?_ ?kwzz; (case kwFz => k_asm); (case kwNz => k_asm); (case kwyz => decide +kernel); (case kwzz => (rw [sizeLine_eq]; omega))); intro Dkwp lkwp hkwp kkwp ekwp akwp Fkwp Nkwp l1kw; (rw [ekwp] at akwp); (try k_lt l1kw); (have hlz9kw := strs_len akwp))); (k_with "call type:map" => (first | ((rename News _ _ _ (_ :: _) => N9kw); (try rw [List.push_toArray] at N9kw); k_dflt (refine' map_list_K ?kwFz ?kwNz ?kwmz ?_; (case kwFz => k_asm); (case kwNz => k_asm); (case kwmz => k_mem)); (intro M9kw T9kw I9kw h9kw F9kw N9kw l9kw l8kw); (have lq9kw := l9kw); (try k_lt l9kw); (try dsimp only)) | (k_dflt (refine' map_map_K ?kwFz ?kwNz ?kwmz ?_; (case kwFz => k_asm); (case kwNz => k_asm); (case kwmz => k_mem)); (intro M9kw T9kw h9kw F9kw N9kw l9kw l8kw); (have lq9kw := l9kw); (try k_lt l9kw); (try dsimp only)))); (k_with "call type:list" => ((with_reducible show wpAny _ _ (call (Value.type "list") [Value.ref _]) _ _ _); k_dflt (refine' list_map_8 ?kwDz ?kwhz ?kwFz ?kwNz ?kwmz ?kwa1z ?kwa2z ?kwa4z ?kwa5z ?kwsz ?_ ?_; (case kwDz => assumption); (case kwhz => exact rfl); (case kwFz => k_asm); (case kwNz => k_asm); (case kwmz => k_mem); (case kwa1z => assumption); (case kwa2z => assumption); (case kwa4z => assumption); (case kwa5z => assumption); (case kwsz => first | exact xs_app (by assumption) (by assumption) | exact xs_nil (by assumption) (by assumption))); (intro ms9kw hms9kw hml9kw D9kw acc9kw c9kw h9kw tk9kw hacc9kw hal9kw F9kw N9kw l9kw); (try k_lt l9kw); (try dsimp only); rotate_left 1; (intro hn9kw h9kw h8kw tk9kw e9kw F9kw N9kw X9kw); (try dsimp only); rotate_left 1)); (k_with "subscriptTail Name BinOp ref int" => (k_dflt (refine' item_three (P := G 300) ?kwNz ?kwmz ?kwaz ?kwbz ?kwpz ?kwqz ?kwrz ?_ ?kwsz; (case kwNz => k_asm); (case kwmz => k_mem); (case kwaz => exact mod_lo _ (by decide)); (case kwbz => exact mod_hi _ (by decide)); (case kwpz => assumption); (case kwqz => assumption); (case kwrz => assumption); (case kwsz => with_unfolding_all rfl)); intro y8kw t8kw hy8kw; (rename G 300 (Txt.join _ _) => gv8kw); (have hyl8kw := hy8kw.len); (refine due_elim gv8kw hy8kw ?_); (intro nv8kw nb8kw rv8kw rb8kw dd8kw); (have sh8kw := dd8kw.short); (have fw8kw := dd8kw.few)))); w_top off; w_strict (k_go0; (all_goals try k_fold); k_steps; (refine Stop.mk ?_); (rename Fr _ _ _ _ => F9); (rename News _ _ _ (_ :: _) => N9); (refine assign_comp F9 (by with_unfolding_all rfl) rfl rfl (by with_unfolding_all rfl) (by decide) rfl (by decide) rfl rfl rfl ?src (by intro _; rfl)); k_steps; (rename IntsAre _ (List.take 6 _) => hI9); (refine ⟨_, _, _, _, _, rfl, List.Mem.head _, hI9, (Nat.le_trans (piece_count _).2 (by decide)), by assumption, by assumption, ?elt, ?fin⟩); (case elt => (intro C k t s₂ m₂ E' hk hn hm F₂ N₂; (have hb9 := piece_bound hk); (have hb1 := hb9.1); (have hb2 := hb9.2); k_steps; (rename Heap.StaysIn _ _ => st9); exact ⟨⟨_, _, rfl, by assumption⟩, ⟨_, _, rfl, st9⟩⟩)); (case fin => (intro D ys' zs c h' tk F₂ N₂ ne₂ hs hg hlen; (have hc36 := piece_count _ |> fun q => And.intro (hlen.symm ▸ q.1) (hlen.symm ▸ q.2)); (have hc3 := hc36.1); (have hc6 := hc36.2); (clear hc36); (try k_fold); (revert N₂); (refine strs_elim hs hc3 ?_); (clear hs); (intro z0 t0 mid zl tl hs hz0 hzl N₂); (have hlz : (Value.str z0 t0 :: (mid ++ [Value.str zl tl])).length ≤ 6 := Nat.le_trans (Nat.le_of_eq (strs_len hs)) hc6); (have g0 := hg z0 hz0); (have gl := hg zl hzl); (have g0l := g0.len); (have gll := gl.len); k_steps; (refine Stop.mk ?_); (rename Fr _ _ _ _ => F8); (refine for_K F8 rfl rfl ?_ (by intro _; rfl) (by passes_own)); k_steps; (refine Stop.mk ?_); (rename IsRange _ _ _ _ _ _ _ _ => hr9); (rename Fr _ _ _ _ => F7); (rename News _ _ _ (_ :: _) => N7); (have gb0 : G 300 (Str.ofString "") := glit9); (have gb1 : G 300 zl := gl.mono (by decide)); (have gb2 : G 300 (z0 ++ Str.ofString "." ++ zl) := ((g0.app gdot9).app gl).mono (by decide)); (refine law_range [Str.ofString "version", Str.ofString "build"] rfl hr9 hc6 F7 N7 ?turn ?done); (case turn => (intro i t u h tk I oI hi F₁ N₁ l₁; (replace F₁ := as_fr F7 F₁); (replace N₁ := as_news N7 N₁); clear F7 N7; (try k_lt l₁); (have gv : G 300 (Txt.join (Str.ofString ".") (zs.take i)) := (G.join (fun z hz => hg z (List.mem_of_mem_take hz))).mono (by rw [List.length_take]; omega)); (have gvl := gv.len); (try k_fold); k_steps)); (case done => (intro u h tk F₁ N₁; k_steps))))))
end Mine
end
theorem PySem.Challenge.cw_mj0140_01_holds : PySem.Challenge.rw_mj0140_01.Holds :=
  Mine.law_try
