import PyProof.Rows.All
import Wide.All
import OpenK.AllK
import Wide.FinOn
import ObjForm.LawKit
import Lean
import PySem.Challenge.RW_mq0265_01
open PySem PySem.W PyProof.Rows
set_option Elab.async false
set_option maxRecDepth 100000
namespace Mine
set_option maxHeartbeats 8000000 in
open_top hd for PySem.Challenge.rw_mq0265_01
end Mine
open PyProof.V PySem.Spec PySem.Calls

namespace Mine
def tokTab : List (Str × PyData) := [(⟨#[33]⟩, .int 54),
  (⟨#[33, 61]⟩, .int 28),
  (⟨#[37]⟩, .int 24),
  (⟨#[37, 61]⟩, .int 40),
  (⟨#[38]⟩, .int 19),
  (⟨#[38, 61]⟩, .int 41),
  (⟨#[40]⟩, .int 7),
  (⟨#[41]⟩, .int 8),
  (⟨#[42]⟩, .int 16),
  (⟨#[42, 42]⟩, .int 35),
  (⟨#[42, 42, 61]⟩, .int 46),
  (⟨#[42, 61]⟩, .int 38),
  (⟨#[43]⟩, .int 14),
  (⟨#[43, 61]⟩, .int 36),
  (⟨#[44]⟩, .int 12),
  (⟨#[45]⟩, .int 15),
  (⟨#[45, 61]⟩, .int 37),
  (⟨#[45, 62]⟩, .int 51),
  (⟨#[46]⟩, .int 23),
  (⟨#[46, 46, 46]⟩, .int 52),
  (⟨#[47]⟩, .int 17),
  (⟨#[47, 47]⟩, .int 47),
  (⟨#[47, 47, 61]⟩, .int 48),
  (⟨#[47, 61]⟩, .int 39),
  (⟨#[58]⟩, .int 11),
  (⟨#[58, 61]⟩, .int 53),
  (⟨#[59]⟩, .int 13),
  (⟨#[60]⟩, .int 20),
  (⟨#[60, 60]⟩, .int 33),
  (⟨#[60, 60, 61]⟩, .int 44),
  (⟨#[60, 61]⟩, .int 29),
  (⟨#[61]⟩, .int 22),
  (⟨#[61, 61]⟩, .int 27),
  (⟨#[62]⟩, .int 21),
  (⟨#[62, 61]⟩, .int 30),
  (⟨#[62, 62]⟩, .int 34),
  (⟨#[62, 62, 61]⟩, .int 45),
  (⟨#[64]⟩, .int 49),
  (⟨#[64, 61]⟩, .int 50),
  (⟨#[91]⟩, .int 9),
  (⟨#[93]⟩, .int 10),
  (⟨#[94]⟩, .int 32),
  (⟨#[94, 61]⟩, .int 43),
  (⟨#[123]⟩, .int 25),
  (⟨#[124]⟩, .int 18),
  (⟨#[124, 61]⟩, .int 42),
  (⟨#[125]⟩, .int 26),
  (⟨#[126]⟩, .int 31)]

noncomputable abbrev KF (w : World) : Frag := Mine.hd.heap_39 w.params
abbrev PG : Program := PySem.Challenge.rw_mq0265_01.row.prog

theorem tokNodup : (tokTab.map (·.1)).Nodup := by decide +kernel
theorem tokAt (w : World) {h : Heap} (X : (KF w).In h) : StrTab PG w h 29 (tokTab.map fun p => (PyData.str p.1, p.2)) :=
  KTD.strTab_of_look PG w (get := fun a => (KF w).lookup a) X (by kernel_rfl) tokNodup (by kernel_rfl)
def ops : List Str := tokTab.map (·.1)
theorem ops_length : ops.length = 48 := by decide +kernel

theorem flat_keys {kvs : List (Str × Value)} {D : List (Str × PyData)} : FlatPairs PyData.str kvs (D.map fun p => (PyData.str p.1, p.2)) → kvs.map (·.1) = D.map (·.1) := by
  induction D generalizing kvs with
  | nil => intro h; cases h; rfl
  | cons q r ih =>
    intro h
    generalize hE : List.map (fun p : Str × PyData => (PyData.str p.1, p.2)) (q :: r) = E at h
    cases h with
    | nil => simp at hE
    | cons hv hf =>
      simp only [List.map_cons, List.cons.injEq, Prod.mk.injEq, PyData.str.injEq] at hE
      obtain ⟨⟨h1, h2⟩, h3⟩ := hE
      subst h3
      simp only [List.map_cons, ih hf, h1]

section
variable {w : World} {A : Around} {E : Value → Shared → Prop} {s : Shared} {h₀ : Heap} {L : Addr} {m : Str → Option Value} {news : List (Addr × Obj)}
theorem dict_at (w : World) {h : Heap} (X : (KF w).In h) : ∃ kvs ep, h.DictAt (PySem.strKind PG w) 29 kvs ep ∧ kvs.map (·.1) = ops := by
  obtain ⟨lo, kvs, hD, hf⟩ := tokAt w X
  obtain ⟨ep, hat⟩ := hD.dictAt
  exact ⟨kvs, ep, hat, flat_keys hf⟩

theorem strs_of_keys {kvs : List (Str × Value)} {vs : List Value} (hl : vs.length = kvs.length) (hv : ∀ (j : Nat) (v : Value), vs[j]? = some v → ∃ k x, kvs[j]? = some (k, x) ∧ (PySem.strKind PG w).is k v = true) : StrsAre vs (kvs.map (·.1)) :=
  kdy_strs (by simpa using hl) fun j v e => by
    obtain ⟨k, x, h1, h2⟩ := hv j v e
    exact ⟨k, by simp [h1], Value.isStrOf_shape h2⟩

theorem list_ops {Q : Value → Shared → Prop} (hh : A.handled = none) (F : Fr h₀ L s.heap m) (X : (KF w).In h₀) (N : News h₀ L s.heap news)
    (h : ∀ (D : Addr) c h' tk (vs : List Value), StrsAre vs ops → Fr h₀ L h' m → News h₀ L h' ((D, listOf vs.toArray c) :: news) → (∀ q ∈ news, q.1 < D) → Q (.ref D) { s with heap := h', toks := tk }) :
    wpAny (model PG w) A (call (.type "list") [.ref 29]) Q E s := by
  obtain ⟨kvs, ep, hat, hk⟩ := dict_at w (X.keeps F.keep)
  have hlen : kvs.length = 48 := by rw [← ops_length, ← hk, List.length_map]
  refine kdl_N (kdl_dict (knd := PySem.strKind PG w) (kvs := kvs) (ep := ep) (by decide)) hh F N hat (kdl_size (by omega)) fun B c h' tk vs F' N' l1 hl hv => ?_
  exact h B c h' tk vs (hk ▸ strs_of_keys (w := w) hl hv) F' N' l1

theorem len_ops {Q : Value → Shared → Prop} (F : Fr h₀ L s.heap m) (X : (KF w).In h₀) (h : Q (.int 48 (s.toks + 1)) { s with toks := s.toks + 1 + 1 }) :
    wpAny (model PG w) A (call (.builtin "len") [.ref 29]) Q E s :=
  len_tab (tokAt w (X.keeps F.keep)) (by decide +kernel) h
end
end Mine

namespace Mine

/-- a contract of one of the text's defs -/
def Gives (rm : Nat) (w : World) (p : Program) (loose : List Str) (mean : ExcName → Option Value) (mg mb : Str → Option Value) (f : Addr) (vs : List Value) (H : Heap → Prop) (R : Value → Prop) : Prop :=
  ∀ (dp un : Nat) (gd : Option (List Code)) (cn : Str) (cs : Scope) (a : Addr) (ccd : Value) (cl : List (Str × Addr)) (outer : List Env) (A₀ : Around) (base h₀ : Heap) (L : Addr) (m : Str → Option Value) (news : List (Addr × Obj)) (s : Shared) (Q E : Value → Shared → Prop),
    Below A₀ base outer h₀ → Fr h₀ L s.heap m → (KF w).In h₀ → News h₀ L s.heap news → Top p loose mean mg mb h₀ → cs.kind = .function → H s.heap →
    dp + rm < recursionLimit → un + 4 * rm < cLine →
    (∀ (v : Value) (h' : Heap) (tk' : Nat), R v → Fr h₀ L h' m → News h₀ L h' news → Q v { s with heap := h', toks := tk' }) →
      wpAny (model PG w) (ktrTop dp un gd cn cs L a ccd cl outer) (call (.ref f) vs) Q E s

def dots : List Str := [⟨#[46]⟩, ⟨#[46, 46, 46]⟩]
def stops : List Str := [⟨#[58]⟩, ⟨#[58, 61]⟩, ⟨#[10]⟩]
def piece (x : Int) : Str :=
  if Int.fmod x 3 = 0 then ops.getD (Int.fmod (Int.fdiv x 3) 48).toNat Str.empty
  else if Int.fmod x 3 = 1 then dots.getD (Int.fmod (Int.fdiv x 3) 2).toNat Str.empty
  else stops.getD (Int.fmod (Int.fdiv x 3) 3).toNat Str.empty

theorem fmod_lo (x : Int) (n : Int) (h : 0 < n) : 0 ≤ Int.fmod x n := Int.fmod_nonneg_of_pos x h
theorem fmod_hi (x : Int) (n : Int) (h : 0 < n) : Int.fmod x n < n := Int.fmod_lt_of_pos x h
theorem dots_are (t u : Tok) : StrsAre [.str (Str.ofString ".") t, .str (Str.ofString "...") u] dots := .cons _ _ (.cons _ _ .nil)
theorem stops_are (t u v : Tok) : StrsAre [.str (Str.ofString ":") t, .str (Str.ofString ":=") u, .str (Str.ofString "\n") v] stops := .cons _ _ (.cons _ _ (.cons _ _ .nil))

local macro_rules | `(tactic| walk_at "call type:list") => `(tactic| (k_here; (with_reducible show wpAny _ _ (call (Value.type "list") [Value.ref 29]) _ _ _); k_dflt (refine Mine.list_ops (by rfl) (by k_asm) (by k_asm) (by k_asm) ?_); intro D' c' h' tk' vs' hS' F' N' l1))
local macro_rules | `(tactic| walk_at "call builtin:len") => `(tactic| (k_here; (with_reducible show wpAny _ _ (call (Value.builtin "len") [Value.ref 29]) _ _ _); k_dflt (refine Mine.len_ops (by k_asm) (by k_asm) ?_)))
local macro_rules | `(tactic| walk_at "subscriptTail") => `(tactic| (k_here; (with_reducible show wpAny _ _ (subscriptTail _ _ (Value.ref _) (Value.int (Int.fmod _ _) _)) _ _ _); k_dflt (
  refine' KTb.item_list ?ktbl ?ktbw (Mine.fmod_lo _ _ (by decide)) ?ktb1 (Int.lt_trans (Mine.fmod_hi _ _ (by decide)) (by decide)) ?_; (case ktbl => exact News.isList (by k_asm) (by k_mem)); (case ktbw => first | assumption | exact dots_are _ _ | exact stops_are _ _ _); (case ktb1 => first | exact Mine.fmod_hi _ _ (by decide) | (rw [Mine.ops_length]; exact Mine.fmod_hi _ _ (by decide)))); intro t' hlt'))

set_option maxHeartbeats 8000000 in
theorem piece_gives (w : World) {p : Program} {loose : List Str} {mean : ExcName → Option Value} {mg mb : Str → Option Value} (x : Int) (t : Tok) :
    Gives 8 w p loose mean mg mb 38 [.int x t] (fun _ => True) (fun v => ∃ t', v = .str (piece x) t') := by
  w_on
  unfold Gives KF PG
  k_fill
  intro dp un gd cn cs a ccd cl outer A₀ base h₀ L m news s Q E B F X N T hk hH hd hu ret
  refine wpAny_call ?_
  k_dflt cell_enter
  k_steps
  · refine ret _ _ _ ⟨_, congrArg (fun y => Value.str y _) ?_⟩ (by k_asm) (cb_drop (by k_asm) (fun q hq => by simp only [List.mem_cons, hq, or_true]))
    rw [piece, if_pos (by assumption)]
  · refine ret _ _ _ ⟨_, congrArg (fun y => Value.str y _) ?_⟩ (by k_asm) (cb_drop (by k_asm) (fun q hq => by simp only [List.mem_cons, hq, or_true]))
    rw [piece, if_neg (by assumption), if_pos (by assumption)]
  · refine ret _ _ _ ⟨_, congrArg (fun y => Value.str y _) ?_⟩ (by k_asm) (cb_drop (by k_asm) (fun q hq => by simp only [List.mem_cons, hq, or_true]))
    rw [piece, if_neg (by assumption), if_neg (by assumption)]
end Mine

namespace Mine
section
variable {prog : Program} {w : World} {A A₀ : Around} {s : Shared} {K : Frag} {L : Addr} {h₀ base : Heap} {m mg mb : Str → Option Value} {p : Program} {loose : List Str} {mean : ExcName → Option Value}
theorem code_def0 {env : Env} {outer : List Env} {R : Result → Shared → Prop} {name qual : Str} {params : Arguments} {body : List Stmt} {scope : Scope} {dV kV doc pm cdv ct oc : Value} {an od : Option Addr} {osl : Array (Option Value)} {f : Addr} {args : Args} {binds : List (Str × Value)}
    (B : Below A₀ base outer h₀) (F : Fr h₀ L s.heap m) (X₀ : K.In h₀) (T : Top p loose mean mg mb h₀) (hA : A.frames = some (env :: outer)) (hf : env.frame = some L) (hke : env.scope.kind = .function)
    (ho : K.lookup f = some ⟨oc, od, .func (fnOf name qual params body scope dV kV doc pm an cdv ct), osl⟩) (hcd : codeIn K cdv qual = true) (hroom : A.depth < recursionLimit)
    (hbind : BindsTo s (fnOf name qual params body scope dV kV doc pm an cdv ct) args binds) (hloc : ∀ y ∈ binds, scope.names.lookup y.1 = some .local)
    (h : ∀ g L' h₁, s.heap.StaysIn g → Fr h₀ L g m → Fr g L' h₁ (fun y => binds.reverse.lookup y) → News g L' h₁ [] → Below A base (env :: outer) g → K.In g → Top p loose mean mg mb g →
      wpAny (model prog w) (A.deeper (envOf qual scope L' f cdv)) (execs body (envOf qual scope L' f cdv))
        (fun fl s' => LeaveK h₀ L m g (fun r s'' => s.heap.StaysIn s''.heap → R r s'') (match fl with | .ret v => v | _ => .none) s')
        (fun e s' => wpAny (model prog w) (A.deeper (envOf qual scope L' f cdv)) (leaving (envOf qual scope L' f cdv) e) (fun _ s'' => R (.error e) s'') (fun e' s'' => R (.error e') s'') s')
        { s with heap := h₁, toks := s.toks + binds.length })
    (hco : scope.isCoroutine = false) (hgen : scope.isGenerator = false) (hk : scope.kind = .function)
    (hcell : ∀ x ∈ scope.names, x.2 ≠ .cell) : codeAny (model prog w) A (.call (.ref f) args) R s := by
  obtain ⟨FG, BG, st, lv⟩ := groundX (R := R) B F (News.nil) hA hf hke
  have X : K.In s.heap := X₀.keeps F.keep
  refine codeAny_call_def (fd := fnOf name qual params body scope dV kV doc pm an cdv ct) (body := body) (binds := binds) hroom (X _ _ ho) rfl (T.nolimit.keeps F.keep) (codeRec_of X hcd) rfl hbind hcell hloc (fun h₁ hns hk₁ => ?_) hco hgen hk
  refine wpAny_mono (h s.heap s.heap.objs.size h₁ (fun _ _ e => e) FG ⟨hns, fun b o e => hk₁ b o e, Nat.le_refl _⟩ News.nil BG X (T.keeps F.keep)) (fun fl s' hl => lv _ _ ?_) fun _ _ y => y
  obtain ⟨L', m', news', F', N', k⟩ := hl
  exact ⟨L', m', news', F', N', fun a b => k a b F'.keep⟩
end
theorem news_stay {h₀ h h' : Heap} {L : Addr} {news : List (Addr × Obj)} (N : News h₀ L h news) (st : h.StaysIn h') : News h₀ L h' news := fun p hp => ⟨st _ _ (N p hp).1, (N p hp).2⟩
end Mine

namespace Mine
open PySem.StrLaws PySem.Builtin PySem.Builtin.Str

def find4 (x y : Str) (i j : Int) : Int := match occurrences x y (fromIndex x.length i) (min (fromIndex x.length j) x.length) 1 with | k :: _ => (k : Int) | [] => -1
def rfind4 (x y : Str) (i j : Int) : Int := match lastOccurrence x y (fromIndex x.length i) (min (fromIndex x.length j) x.length) with | some k => (k : Int) | none => -1
theorem gives_find4 (x y : Str) (i j : Int) (t u v v' : Tok) : PySem.Gives («str.find» ⟨[.str x t, .str y u, .int i v, .int j v'], []⟩) (.int (find4 x y i j)) := by
  show PySem.Gives (match occurrences x y (fromIndex x.length i) (min (fromIndex x.length j) x.length) 1 with | k :: _ => retInt k | [] => (do rule "str.find.not-found"; retInt (-1))) _
  unfold find4
  cases occurrences x y (fromIndex x.length i) (min (fromIndex x.length j) x.length) 1 with
  | nil => exact .rule (.of_eq rfl)
  | cons k _ => exact .of_eq rfl
theorem gives_rfind4 (x y : Str) (i j : Int) (t u v v' : Tok) : PySem.Gives («str.rfind» ⟨[.str x t, .str y u, .int i v, .int j v'], []⟩) (.int (rfind4 x y i j)) := by
  show PySem.Gives (match lastOccurrence x y (fromIndex x.length i) (min (fromIndex x.length j) x.length) with | some k => retInt k | none => (do rule "str.rfind.not-found"; retInt (-1))) _
  unfold rfind4
  cases lastOccurrence x y (fromIndex x.length i) (min (fromIndex x.length j) x.length) with
  | none => exact .rule (.of_eq rfl)
  | some k => exact .of_eq rfl
section
variable {prog : Program} {w : World} {A : Around} {E : Value → Shared → Prop} {s : Shared} {x y : Str} {t u v v' : Tok} {i j : Int} {Q : Value → Shared → Prop}
theorem call_find4 (hq : Q (.int (find4 x y i j) s.toks) { s with toks := s.toks + 1 }) : wpAny (model prog w) A (call (.builtin "str.find") [.str x t, .str y u, .int i v, .int j v']) Q E s :=
  call_gives F.slot_str_find (typeIs_str _ _ _) F.entry_str_find (F.args_str_find_4 _ _ _ _) (gives_find4 x y i j t u v v') hq
theorem call_rfind4 (hq : Q (.int (rfind4 x y i j) s.toks) { s with toks := s.toks + 1 }) : wpAny (model prog w) A (call (.builtin "str.rfind") [.str x t, .str y u, .int i v, .int j v']) Q E s :=
  call_gives F.slot_str_rfind (typeIs_str _ _ _) F.entry_str_rfind (F.args_str_rfind_4 _ _ _ _) (gives_rfind4 x y i j t u v v') hq
end

theorem occ_head_in (x y : Str) (lo hi limit : Nat) (hl : 1 ≤ limit) :
    (occurrences x y lo hi limit = [] ∧ ∀ i, lo ≤ i → ¬ At x y hi i) ∨
    ∃ i r, occurrences x y lo hi limit = i :: r ∧ lo ≤ i ∧ At x y hi i ∧ ∀ k, lo ≤ k → k < i → ¬ At x y hi k := by
  rw [occ_eq]
  rcases occ_first x y hi limit hl (List.range' lo (hi + 1 - lo)) lo (fun i hi => by have := List.mem_range'_1.mp hi; omega) with ⟨h0, hn⟩ | ⟨pre, a, post, e, h0, ha, hn⟩
  · refine .inl ⟨by rw [h0], fun i hlo hi => ?_⟩
    exact hn i (by have := hi.1; rw [List.mem_range'_1]; omega) hi
  · have hs := range'_split_from e
    refine .inr ⟨a, ((forIn (List.range' lo (hi + 1 - lo)) ((#[] : Array Nat), lo) (occBody x y hi limit)).run.fst.toList).tail, ?_, hs.1, ha, fun k hk0 hk => hn k (hs.2 k hk0 hk)⟩
    generalize (forIn (List.range' lo (hi + 1 - lo)) ((#[] : Array Nat), lo) (occBody x y hi limit)).run.fst = arr at h0
    have h1 : arr.toList[0]? = some a := by simpa using h0
    cases hL : arr.toList with
    | nil => rw [hL] at h1; cases h1
    | cons b t => rw [hL] at h1; simp at h1; rw [h1]; rfl
theorem last_spec_in (x y : Str) (hi : Nat) : (lastOccurrence x y 0 hi = none ∧ ∀ i, ¬ At x y hi i) ∨ ∃ i, lastOccurrence x y 0 hi = some i ∧ At x y hi i ∧ ∀ k, i < k → ¬ At x y hi k := by
  rw [last_eq]
  have key := last_run x y hi (List.range' 0 (hi + 1 - 0)) [] none (fun _ h => nomatch h) (fun _ h => nomatch h) (by simpa using List.pairwise_lt_range' (s := 0) (n := hi + 1 - 0))
  have mem : ∀ i, At x y hi i → i ∈ [] ++ List.range' 0 (hi + 1 - 0) := fun i hi => by have := hi.1; simp [List.mem_range'] <;> omega
  cases hr : (forIn (List.range' 0 (hi + 1 - 0)) none (lastBody x y hi)).run with
  | none => rw [hr] at key; exact .inl ⟨rfl, fun i hi => key i (mem i hi) hi⟩
  | some a => rw [hr] at key; exact .inr ⟨a, rfl, key.1, fun k hk hA => key.2 k (mem k hA) hk hA⟩

theorem at_one (x : Str) (c hi i : Nat) (hh : hi ≤ x.length) : At x ⟨#[c]⟩ hi i ↔ i < hi ∧ x.cps.toList[i]? = some c := by
  unfold At
  have e : (⟨#[c]⟩ : Str).length = 1 := rfl
  constructor
  · intro ⟨h1, h2⟩
    exact ⟨by omega, (subAt_one x c i).mp ⟨by omega, h2⟩⟩
  · intro ⟨h1, h2⟩
    have := (subAt_one x c i).mpr h2
    exact ⟨by omega, this.2⟩

theorem find_one (x : Str) (c : Nat) : (Txt.find x ⟨#[c]⟩ = -1 ∧ ∀ k : Nat, x.cps.toList[k]? ≠ some c) ∨
    ∃ i : Nat, Txt.find x ⟨#[c]⟩ = (i : Int) ∧ i < x.length ∧ x.cps.toList[i]? = some c ∧ ∀ k, k < i → x.cps.toList[k]? ≠ some c := by
  unfold Txt.find
  rcases occ_head x ⟨#[c]⟩ 1 (Nat.le_refl 1) with ⟨h0, hn⟩ | ⟨k, r, h0, hk, hn⟩
  · rw [h0]; exact .inl ⟨rfl, fun k h => hn k ((subAt_one x c k).mpr h)⟩
  · rw [h0]
    have hm := (at_one x c _ k (Nat.le_refl _)).mp hk
    exact .inr ⟨k, rfl, hm.1, hm.2, fun v h1 h2 => hn v h1 ((at_one x c _ v (Nat.le_refl _)).mpr ⟨by omega, h2⟩)⟩
theorem find4_one (x : Str) (c : Nat) (j : Int) (h0 : 0 ≤ j) (hj : j ≤ x.length) : (find4 x ⟨#[c]⟩ 0 j = -1 ∧ ∀ k : Nat, (k : Int) < j → x.cps.toList[k]? ≠ some c) ∨
    ∃ i : Nat, find4 x ⟨#[c]⟩ 0 j = (i : Int) ∧ (i : Int) < j ∧ x.cps.toList[i]? = some c ∧ ∀ k, k < i → x.cps.toList[k]? ≠ some c := by
  unfold find4
  have e0 : fromIndex x.length 0 = 0 := by simp [fromIndex]
  have e1 : min (fromIndex x.length j) x.length = j.toNat := by unfold fromIndex; rw [if_neg (by omega)]; omega
  rw [e0, e1]
  rcases occ_head_in x ⟨#[c]⟩ 0 j.toNat 1 (Nat.le_refl 1) with ⟨q0, hn⟩ | ⟨k, r, q0, _, hk, hn⟩
  · rw [q0]; exact .inl ⟨rfl, fun k hk h => hn k (Nat.zero_le _) ((at_one x c _ k (by omega)).mpr ⟨by omega, h⟩)⟩
  · rw [q0]
    have hm := (at_one x c _ k (by omega)).mp hk
    exact .inr ⟨k, rfl, by omega, hm.2, fun v h1 h2 => hn v (Nat.zero_le _) h1 ((at_one x c _ v (by omega)).mpr ⟨by omega, h2⟩)⟩
theorem rfind4_one (x : Str) (c : Nat) (j : Int) (h0 : 0 ≤ j) (hj : j ≤ x.length) : (rfind4 x ⟨#[c]⟩ 0 j = -1 ∧ ∀ k : Nat, (k : Int) < j → x.cps.toList[k]? ≠ some c) ∨
    ∃ i : Nat, rfind4 x ⟨#[c]⟩ 0 j = (i : Int) ∧ (i : Int) < j ∧ x.cps.toList[i]? = some c ∧ ∀ k, i < k → (k : Int) < j → x.cps.toList[k]? ≠ some c := by
  unfold rfind4
  have e0 : fromIndex x.length 0 = 0 := by simp [fromIndex]
  have e1 : min (fromIndex x.length j) x.length = j.toNat := by unfold fromIndex; rw [if_neg (by omega)]; omega
  rw [e0, e1]
  rcases last_spec_in x ⟨#[c]⟩ j.toNat with ⟨q0, hn⟩ | ⟨k, q0, hk, hn⟩
  · rw [q0]; exact .inl ⟨rfl, fun k hk h => hn k ((at_one x c _ k (by omega)).mpr ⟨by omega, h⟩)⟩
  · rw [q0]
    have hm := (at_one x c _ k (by omega)).mp hk
    exact .inr ⟨k, rfl, by omega, hm.2, fun v h1 h2 h3 => hn v h1 ((at_one x c _ v (by omega)).mpr ⟨by omega, h3⟩)⟩
end Mine

namespace Mine

/-- the part of a text behind its last dot -/
def Tail (h n : List Nat) : Prop := ∃ pre, h = pre ++ n ∧ 46 ∉ n ∧ (pre = [] ∨ ∃ q, pre = q ++ [46])
def goodc (c : Nat) : Bool := c != 10 && c != 58
def headOf (l : List Nat) : List Nat := l.takeWhile goodc

theorem ofS_nl : Str.ofString "\n" = ⟨#[10]⟩ := by decide +kernel
theorem ofS_colon : Str.ofString ":" = ⟨#[58]⟩ := by decide +kernel
theorem ofS_dot : Str.ofString "." = ⟨#[46]⟩ := by decide +kernel

theorem take_good {l : List Nat} {e : Nat} (hle : e ≤ l.length) (h1 : ∀ k, k < e → ∀ c, l[k]? = some c → goodc c = true) (h2 : e = l.length ∨ ∃ c, l[e]? = some c ∧ goodc c = false) : headOf l = l.take e := by
  induction l generalizing e with
  | nil => simp [headOf]
  | cons a r ih =>
    cases e with
    | zero =>
      rcases h2 with h2 | ⟨c, hc, hg⟩
      · simp at h2
      · have : a = c := by simpa using hc
        subst this
        simp [headOf, hg]
    | succ e =>
      have ha : goodc a = true := h1 0 (by omega) a (by simp)
      have := ih (e := e) (by simpa using hle) (fun k hk c hc => h1 (k + 1) (by omega) c (by simpa using hc)) (by
        rcases h2 with h2 | ⟨c, hc, hg⟩
        · left; simpa using h2
        · right; exact ⟨c, by simpa using hc, hg⟩)
      unfold headOf at this ⊢
      rw [List.takeWhile_cons, if_pos ha, this, List.take_succ_cons]

theorem tail_of {h : List Nat} {st : Nat} (hle : st ≤ h.length) (h1 : ∀ k, st ≤ k → h[k]? ≠ some 46) (h2 : st = 0 ∨ ∃ i, st = i + 1 ∧ h[i]? = some 46) : Tail h (h.drop st) := by
  refine ⟨h.take st, (List.take_append_drop _ _).symm, fun hm => ?_, ?_⟩
  · obtain ⟨k, hk⟩ := List.mem_iff_getElem?.mp hm
    rw [List.getElem?_drop] at hk
    exact h1 _ (by omega) hk
  · rcases h2 with h2 | ⟨i, rfl, hi⟩
    · left; simp [h2]
    · right
      refine ⟨h.take i, ?_⟩
      rw [List.take_add_one, hi]; rfl

theorem strip_math (x : Str) (r e st : Int) (hr : (0 ≤ Txt.find x (Str.ofString "\n") ∧ r = Txt.find x (Str.ofString "\n")) ∨ (¬ 0 ≤ Txt.find x (Str.ofString "\n") ∧ r = (x.length : Int)))
    (he : (0 ≤ find4 x (Str.ofString ":") 0 r ∧ e = find4 x (Str.ofString ":") 0 r) ∨ (¬ 0 ≤ find4 x (Str.ofString ":") 0 r ∧ e = r))
    (hst : (0 ≤ rfind4 x (Str.ofString ".") 0 e ∧ st = rfind4 x (Str.ofString ".") 0 e + 1) ∨ (¬ 0 ≤ rfind4 x (Str.ofString ".") 0 e ∧ st = 0)) :
    Tail (headOf x.cps.toList) (Txt.slice x (some st) (some e)).cps.toList ∧ (Txt.slice x (some st) (some e)).length ≤ x.length := by
  refine ⟨?_, Txt.slice_le _ _ _⟩
  have hlen : x.length = x.cps.toList.length := by simp [Str.length]
  rw [ofS_nl] at hr
  rw [ofS_colon] at he
  rw [ofS_dot] at hst
  -- the end
  have hr' : 0 ≤ r ∧ r ≤ x.length ∧ (∀ k : Nat, (k : Int) < r → x.cps.toList[k]? ≠ some 10) ∧ (r = x.length ∨ x.cps.toList[r.toNat]? = some 10) := by
    rcases find_one x 10 with ⟨h0, hn⟩ | ⟨i, h0, hi, hc, hn⟩
    · rcases hr with ⟨h, _⟩ | ⟨_, rfl⟩
      · omega
      · exact ⟨by omega, by omega, fun k _ => hn k, .inl rfl⟩
    · rcases hr with ⟨_, rfl⟩ | ⟨h, _⟩
      · rw [h0]; exact ⟨by omega, by omega, fun k hk => hn k (by omega), .inr (by simpa using hc)⟩
      · omega
  obtain ⟨r0, r1, r2, r3⟩ := hr'
  have he' : 0 ≤ e ∧ e ≤ x.length ∧ (∀ k : Nat, (k : Int) < e → x.cps.toList[k]? ≠ some 10 ∧ x.cps.toList[k]? ≠ some 58) ∧ (e = x.length ∨ x.cps.toList[e.toNat]? = some 10 ∨ x.cps.toList[e.toNat]? = some 58) := by
    rcases find4_one x 58 r r0 r1 with ⟨h0, hn⟩ | ⟨i, h0, hi, hc, hn⟩
    · rcases he with ⟨h, _⟩ | ⟨_, rfl⟩
      · omega
      · exact ⟨r0, r1, fun k hk => ⟨r2 k hk, hn k hk⟩, r3.imp id .inl⟩
    · rcases he with ⟨_, rfl⟩ | ⟨h, _⟩
      · rw [h0]; exact ⟨by omega, by omega, fun k hk => ⟨r2 k (by omega), hn k (by omega)⟩, .inr (.inr (by simpa using hc))⟩
      · omega
  obtain ⟨e0, e1, e2, e3⟩ := he'
  have hH : headOf x.cps.toList = x.cps.toList.take e.toNat := by
    refine take_good (by omega) (fun k hk c hc => ?_) ?_
    · have := e2 k (by omega)
      rw [hc] at this
      simp only [ne_eq, Option.some.injEq] at this
      simp [goodc, this.1, this.2]
    · rcases e3 with e3 | e3 | e3
      · left; omega
      · right; exact ⟨_, e3, rfl⟩
      · right; exact ⟨_, e3, rfl⟩
  have hst' : 0 ≤ st ∧ st ≤ e ∧ (∀ k : Nat, st ≤ k → (k : Int) < e → x.cps.toList[k]? ≠ some 46) ∧ (st = 0 ∨ ∃ i : Nat, st = i + 1 ∧ x.cps.toList[i]? = some 46) := by
    rcases rfind4_one x 46 e e0 e1 with ⟨h0, hn⟩ | ⟨i, h0, hi, hc, hn⟩
    · rcases hst with ⟨h, _⟩ | ⟨_, rfl⟩
      · omega
      · exact ⟨by omega, e0, fun k _ hk => hn k hk, .inl rfl⟩
    · rcases hst with ⟨_, rfl⟩ | ⟨h, _⟩
      · rw [h0]; exact ⟨by omega, by omega, fun k hk hk2 => hn k (by omega) hk2, .inr ⟨i, rfl, hc⟩⟩
      · omega
  obtain ⟨s0, s1, s2, s3⟩ := hst'
  have hS := eq_of_beq (slice_closes (x := x) (i := st) (j := e) ⟨s0, s1, by omega⟩)
  rw [hS, hH]
  have hd : (x.cps.toList.drop st.toNat).take (e - st).toNat = (x.cps.toList.take e.toNat).drop st.toNat := by
    rw [List.drop_take]; congr 1; omega
  show Tail _ ((x.cps.toList.drop st.toNat).take (e - st).toNat)
  rw [hd]
  refine tail_of (by rw [List.length_take]; omega) (fun k hk => ?_) ?_
  · rw [List.getElem?_take]
    split
    · exact s2 k (by omega) (by omega)
    · simp
  · rcases s3 with s3 | ⟨i, s3, hi⟩
    · left; omega
    · right; exact ⟨i, by omega, by rw [List.getElem?_take, if_pos (by omega)]; exact hi⟩

local macro_rules | `(tactic| walk_at "call builtin:str.find") => `(tactic| (k_here; (show wpAny _ _ (call (Value.builtin "str.find") [Value.str _ _, Value.str _ _, Value.int _ _, Value.int _ _]) _ _ _); refine call_find4 ?_))
local macro_rules | `(tactic| walk_at "call builtin:str.rfind") => `(tactic| (k_here; (show wpAny _ _ (call (Value.builtin "str.rfind") [Value.str _ _, Value.str _ _, Value.int _ _, Value.int _ _]) _ _ _); refine call_rfind4 ?_))
set_option maxHeartbeats 8000000 in
theorem strip_gives (w : World) {p : Program} {loose : List Str} {mean : ExcName → Option Value} {mg mb : Str → Option Value} (x : Str) (t : Tok) (hx : x.length ≤ 1000) :
    Gives 8 w p loose mean mg mb 28 [.str x t] (fun _ => True) (fun v => ∃ y t', v = .str y t' ∧ Tail (headOf x.cps.toList) y.cps.toList ∧ y.length ≤ x.length) := by
  w_on
  unfold Gives KF PG
  k_fill
  intro dp un gd cn cs a ccd cl outer A₀ base h₀ L m news s Q E B F X N T hk hH hd hu ret
  refine wpAny_call ?_
  k_dflt cell_enter
  k_steps
  all_goals (refine ret _ _ _ ⟨_, _, rfl, ?_⟩ (by k_asm) (cb_drop (by k_asm) (fun q hq => by simp only [List.mem_cons, hq, or_true])))
  · exact strip_math x _ _ _ (by assumption) (.inl ⟨by assumption, rfl⟩) (.inl ⟨by assumption, rfl⟩)
  · exact strip_math x _ _ _ (by assumption) (.inl ⟨by assumption, rfl⟩) (.inr ⟨by omega, rfl⟩)
  · exact strip_math x _ _ _ (by assumption) (.inr ⟨by omega, rfl⟩) (.inl ⟨by assumption, rfl⟩)
  · exact strip_math x _ _ _ (by assumption) (.inr ⟨by omega, rfl⟩) (.inr ⟨by omega, rfl⟩)
end Mine

namespace Mine
open PySem.StrLaws PySem.Builtin PySem.Builtin.Str

theorem ofS_nil : Str.empty = Str.ofString "" := by decide +kernel
theorem ofS_dots3 : Str.ofString "..." = ⟨#[46, 46, 46]⟩ := by decide +kernel
theorem ofS_dots4 : Str.ofString "...." = ⟨#[46, 46, 46, 46]⟩ := by decide +kernel

theorem cps_dots4 (x : Str) : (Str.ofString "...." ++ x).cps.toList = 46 :: 46 :: 46 :: 46 :: x.cps.toList := by
  rw [ofS_dots4, Str.cps_append, Array.toList_append]; rfl
theorem cps_dot1 (x : Str) : (Str.ofString "." ++ x).cps.toList = 46 :: x.cps.toList := by
  rw [ofS_dot, Str.cps_append, Array.toList_append]; rfl
theorem len_list (x : Str) : x.length = x.cps.toList.length := by simp [Str.length]
theorem len_dots4 (x : Str) : (Str.ofString "...." ++ x).length = x.length + 4 := by rw [len_list, cps_dots4, len_list]; simp
theorem len_dot1 (x : Str) : (Str.ofString "." ++ x).length = x.length + 1 := by rw [len_list, cps_dot1, len_list]; simp

theorem at_dots (x : Str) (hdot : 46 ∉ x.cps.toList) (i : Nat) : At (Str.ofString "...." ++ x) (Str.ofString "...") (Str.ofString "...." ++ x).length i → i < 2 := by
  intro ⟨h1, h2⟩
  rw [subAt_eq, cps_dots4] at h2
  rw [ofS_dots3] at h1 h2
  rw [len_dots4] at h1
  have h3 : (List.take 3 (List.drop i (46 :: 46 :: 46 :: 46 :: x.cps.toList))) = [46, 46, 46] := eq_of_beq h2
  have h4 : (List.take 3 (List.drop i (46 :: 46 :: 46 :: 46 :: x.cps.toList)))[2]? = some 46 := by rw [h3]; rfl
  rw [List.getElem?_take, if_pos (by omega), List.getElem?_drop] at h4
  rcases Nat.lt_or_ge i 2 with h | h
  · exact h
  · exfalso
    obtain ⟨k, rfl⟩ : ∃ k, i = k + 2 := ⟨i - 2, by omega⟩
    have e : k + 2 + 2 = k + 1 + 1 + 1 + 1 := by omega
    rw [e] at h4
    simp only [List.getElem?_cons_succ] at h4
    exact hdot (List.mem_of_getElem? h4)

theorem at_dots_0 (x : Str) : At (Str.ofString "...." ++ x) (Str.ofString "...") (Str.ofString "...." ++ x).length 0 := by
  refine ⟨by rw [len_dots4, ofS_dots3]; show 0 + 3 ≤ _; omega, ?_⟩
  rw [subAt_eq, cps_dots4, ofS_dots3]
  rfl

theorem occ_dots (x : Str) (hdot : 46 ∉ x.cps.toList) (limit : Nat) (hl : 1 ≤ limit) : occurrences (Str.ofString "...." ++ x) (Str.ofString "...") 0 (Str.ofString "...." ++ x).length limit = [0] := by
  obtain ⟨f, hc⟩ := occ_chain (Str.ofString "...." ++ x) (Str.ofString "...") limit
  rcases occ_head (Str.ofString "...." ++ x) (Str.ofString "...") limit hl with ⟨_, hn⟩ | ⟨i, r, h0, hi, hn⟩
  · exact absurd (at_dots_0 x) (hn 0)
  · rw [h0] at hc ⊢
    have e0 : i = 0 := by
      rcases Nat.eq_zero_or_pos i with h | h
      · exact h
      · exact absurd (at_dots_0 x) (hn 0 h)
    subst e0
    cases r with
    | nil => rfl
    | cons j r =>
      obtain ⟨_, _, h1, h2, _⟩ := hc
      have := at_dots x hdot j h2
      have e : (Str.ofString "...").length = 3 := by rw [ofS_dots3]; rfl
      omega

theorem split_dots (x : Str) (hdot : 46 ∉ x.cps.toList) : Txt.split (Str.ofString "...." ++ x) (Str.ofString "...") = [Str.empty, Str.ofString "." ++ x] := by
  have e3 : (Str.ofString "...").length = 3 := by rw [ofS_dots3]; rfl
  have hk : Builtin.Str.strKind (Str.ofString "...") = 1 := by rw [ofS_dots3]; decide +kernel
  have hk1 : 1 ≤ Builtin.Str.strKind (Str.ofString "...." ++ x) := by unfold Builtin.Str.strKind; split; omega; split <;> omega
  unfold Txt.split
  rw [if_neg (by simp only [Bool.or_eq_true, decide_eq_true_eq]; rw [len_dots4, e3, hk]; omega)]
  rw [occ_dots x hdot _ (by omega), if_neg (by simp)]
  have p : partsBetween (Str.ofString "...." ++ x) [0] (Str.ofString "...").length = [strSub (Str.ofString "...." ++ x) 0 0, strSub (Str.ofString "...." ++ x) 3 (Str.ofString "...." ++ x).length] := by
    rw [e3]; rfl
  rw [p]
  congr 1
  · apply Str.ext'; simp [strSub, Str.empty]
  · congr 1
    apply Str.ext'
    apply Array.toList_inj.mp
    rw [strSub_toList, cps_dots4, cps_dot1, len_dots4]
    simp only [List.drop_succ_cons, List.drop_zero]
    rw [List.take_of_length_le]
    rw [List.length_cons, ← len_list]; omega

section
variable {prog : Program} {w : World} {A : Around} {E : Value → Shared → Prop} {s : Shared} {h₀ : Heap} {L : Addr} {m : PySem.Str → Option Value} {news : List (Addr × Obj)} {x y : PySem.Str} {t u : Tok} {Q : Value → Shared → Prop}
theorem call_split_dots (hF : Fr h₀ L s.heap m) (hN : News h₀ L s.heap news) (hx : x.length ≤ 1000) (hdot : 46 ∉ x.cps.toList)
    (h : ∀ D t1 t2 h' k, Fr h₀ L h' m → News h₀ L h' ((D, listOf #[.str (Str.ofString "") t1, .str (Str.ofString "." ++ x) t2] 0) :: news) → (∀ p ∈ news, p.1 < D) → Q (.ref D) { s with heap := h', toks := k }) :
    wpAny (model prog w) A (call (.builtin "str.split") [.str (Str.ofString "...." ++ x) t, .str (Str.ofString "...") u]) Q E s := by
  refine KSpl.split1 hF hN (by decide) (fun D l h' k e hs F' N' l1 => ?_) (by rw [len_dots4, sizeLine_eq]; omega)
  rw [split_dots x hdot] at e
  obtain ⟨t1, l1', e1, e2⟩ := KSpl.cons_of e
  obtain ⟨t2, l2', e3, e4⟩ := KSpl.cons_of e2
  have e5 := KSpl.nil_of e4
  subst e5 e3 e1
  exact h D t1 t2 h' k F' (ofS_nil ▸ N') l1
theorem notin_dots (hdot : 46 ∉ x.cps.toList) (h : Q (.bool false) s) : wpAny (model prog w) A (compareOp .NotIn (.str (Str.ofString "...") t) (.str (Str.ofString "...." ++ x) u)) Q E s := by
  refine notIn_str ?_
  rw [occ_dots x hdot _ (Nat.le_refl _)]
  exact h
end
end Mine

namespace Mine
def fits (n h : Str) : Bool := Txt.endswith (Str.ofString "." ++ h) (Str.ofString "." ++ n)
theorem ends_le {a b : Str} (h : Txt.endswith a b = true) : b.length ≤ a.length := by
  unfold Txt.endswith at h
  simp only [Bool.and_eq_true, decide_eq_true_eq] at h
  omega
theorem ends_len {x y : Str} (h : Txt.endswith (Str.ofString "." ++ y) (Str.ofString "." ++ x) = true) : ¬ (((Str.ofString ".").length + y.length : Nat) : Int) - (((Str.ofString ".").length + x.length : Nat) : Int) < 0 := by
  have := ends_le h
  rw [Str.length_append, Str.length_append] at this
  omega
local macro_rules | `(tactic| walk_at "compareOp NotIn str str") => `(tactic| (k_here; (with_reducible show wpAny _ _ (compareOp CmpOp.NotIn (Value.str (Str.ofString "...") _) (Value.str (Str.ofString "...." ++ _) _)) _ _ _); refine notin_dots (by assumption) ?_))
local macro_rules | `(tactic| walk_at "call builtin:str.split") => `(tactic| (k_here; (show wpAny _ _ (call (Value.builtin "str.split") [Value.str (Str.ofString "...." ++ _) _, Value.str (Str.ofString "...") _]) _ _ _); refine call_split_dots (by k_asm) (by k_asm) (by assumption) (by assumption) ?_; intro D' t1' t2' h' k' F' N' l1))
open PySem.StrLaws PySem.Builtin PySem.Builtin.Str in
theorem find4_empty (x : Str) (j : Int) (hj : 0 ≤ j) : find4 x (Str.ofString "") 0 j = 0 := by
  unfold find4
  have e0 : fromIndex x.length 0 = 0 := by simp [fromIndex]
  rw [e0]
  rcases occ_head_in x (Str.ofString "") 0 (min (fromIndex x.length j) x.length) 1 (Nat.le_refl 1) with ⟨_, hn⟩ | ⟨i, r, h0, _, hi, hn⟩
  · exact absurd ⟨by rw [← ofS_nil]; show 0 + 0 ≤ _; omega, by rw [subAt_eq, ← ofS_nil]; rfl⟩ (hn 0 (Nat.le_refl _))
  · rw [h0]
    rcases Nat.eq_zero_or_pos i with h | h
    · subst h; rfl
    · exact absurd ⟨by rw [← ofS_nil]; show 0 + 0 ≤ _; omega, by rw [subAt_eq, ← ofS_nil]; rfl⟩ (hn 0 (Nat.le_refl _) h)
theorem call_find4_empty {prog : Program} {w : World} {A : Around} {E : Value → Shared → Prop} {s : Shared} {x : Str} {t u v v' : Tok} {j : Int} {Q : Value → Shared → Prop} (hj : 0 ≤ j) (hq : Q (.int 0 s.toks) { s with toks := s.toks + 1 }) :
    wpAny (model prog w) A (call (.builtin "str.find") [.str x t, .str (Str.ofString "") u, .int 0 v, .int j v']) Q E s := call_find4 (by rw [find4_empty x j hj]; exact hq)
local macro_rules | `(tactic| walk_at "call builtin:str.find") => `(tactic| (k_here; (show wpAny _ _ (call (Value.builtin "str.find") [Value.str _ _, Value.str (Str.ofString "") _, Value.int 0 _, Value.int _ _]) _ _ _); refine call_find4_empty (by omega) ?_))
set_option maxHeartbeats 8000000 in
theorem elli_gives (w : World) {p : Program} {loose : List Str} {mean : ExcName → Option Value} {mg mb : Str → Option Value} (x y : Str) (t u : Tok) (hx : x.length ≤ 1000) (hy : y.length ≤ 1000) (hdot : 46 ∉ x.cps.toList) :
    Gives 8 w p loose mean mg mb 21 [.str (Str.ofString "...." ++ x) t, .str (Str.ofString "." ++ y) u] (fun _ => True) (fun v => v = .bool (fits x y)) := by
  w_on
  unfold Gives KF PG
  k_fill
  intro dp un gd cn cs a ccd cl outer A₀ base h₀ L m news s Q E B F X N T hk hH hd hu ret
  refine wpAny_call ?_
  k_dflt (
    refine' code_def0 ?k1 ?k2 ?k3 ?k5 ?kA ?kF ?kK ?k6 ?k7 ?k8 ?k9 ?kB ?_ ?c2 ?c3 ?c4 ?c5; (case kA => exact rfl); (case kF => exact rfl); (case kK => assumption); (case k1 => k_asm); (case k2 => k_asm); (case k3 => k_asm); (case k5 => k_asm); (case k6 => k_is); (case k7 => k_is); (case k8 => ktr_room); (case k9 => exact BindsTo.of_eq rfl); (case c5 => decide); (case kB => exact locs rfl); (case c2 => exact rfl); (case c3 => exact rfl); (case c4 => exact rfl); k_whole; intro g' L' h' ST' FG' F' N' B' X' T'; (try dsimp only); (try k_lift B'); (try k_fold))
  k_steps
  · exact absurd (by assumption) (ends_len (by assumption))
  · exact ret _ _ _ (congrArg Value.bool (Eq.symm (by assumption))) (by k_asm) (news_stay N (by assumption))
  · exact ret _ _ _ (congrArg Value.bool (Eq.symm (by assumption))) (by k_asm) (news_stay N (by assumption))
end Mine

namespace Mine
local macro_rules | `(tactic| walk_at "call ref") => `(tactic| (k_here; (with_reducible show wpAny _ _ (call (Value.ref 21) [Value.str (Str.ofString "...." ++ _) _, Value.str (Str.ofString "." ++ _) _]) _ _ _); k_dflt (refine' elli_gives _ _ _ _ _ ?h1 ?h2 ?h3 _ _ _ _ _ _ _ _ _ _ _ _ _ _ _ _ _ _ ?b1 ?b2 ?b3 ?b4 ?b5 ?b6 True.intro ?b7 ?b8 ?_; (case h1 => assumption); (case h2 => assumption); (case h3 => assumption); (case b1 => k_asm); (case b2 => k_asm); (case b3 => k_asm); (case b4 => k_asm); (case b5 => k_asm); (case b6 => exact rfl); (case b7 => ktr_room); (case b8 => ktr_units)); intro v' h' tk' hv' F' N'; subst hv'; (try dsimp only)))
set_option maxHeartbeats 8000000 in
theorem fits_gives (w : World) {p : Program} {loose : List Str} {mean : ExcName → Option Value} {mg mb : Str → Option Value} (x y : Str) (t u : Tok) (hx : x.length ≤ 1000) (hy : y.length ≤ 1000) (hdot : 46 ∉ x.cps.toList) :
    Gives 16 w p loose mean mg mb 52 [.str x t, .str y u] (fun _ => True) (fun v => v = .bool (fits x y)) := by
  w_on
  unfold Gives KF PG
  k_fill
  intro dp un gd cn cs a ccd cl outer A₀ base h₀ L m news s Q E B F X N T hk hH hd hu ret
  refine wpAny_call ?_
  k_dflt (
    refine' code_def0 ?k1 ?k2 ?k3 ?k5 ?kA ?kF ?kK ?k6 ?k7 ?k8 ?k9 ?kB ?_ ?c2 ?c3 ?c4 ?c5; (case kA => exact rfl); (case kF => exact rfl); (case kK => assumption); (case k1 => k_asm); (case k2 => k_asm); (case k3 => k_asm); (case k5 => k_asm); (case k6 => k_is); (case k7 => k_is); (case k8 => ktr_room); (case k9 => exact BindsTo.of_eq rfl); (case c5 => decide); (case kB => exact locs rfl); (case c2 => exact rfl); (case c3 => exact rfl); (case c4 => exact rfl); k_whole; intro g' L' h' ST' FG' F' N' B' X' T'; (try dsimp only); (try k_lift B'); (try k_fold))
  k_steps
  · exact ret _ _ _ rfl (by k_asm) (news_stay N (by assumption))
end Mine

namespace Mine
section
variable {prog : Program} {w : World} {A : Around} {E : Value → Shared → Prop} {s : Shared} {env : Env} {h₀ : Heap} {x : Str} {body : List Stmt} {Q : Flow → Shared → Prop}

/-- a turn of a scanning loop has gone on: nothing but the loop's own name is turned -/
def TurnEnd (h₀ : Heap) (L : Addr) (x : Str) (m₀ : Str → Option Value) (led : List (Addr × Obj)) (P : Prop) (s s₂ : Shared) : Prop :=
  P ∧ ∃ h' tk' m', s₂ = { s with heap := h', toks := tk' } ∧ Fr h₀ L h' m' ∧ News h₀ L h' led ∧ ∀ z, z ≠ x → m' z = m₀ z
def TurnPost (h₀ : Heap) (L : Addr) (x : Str) (m₀ : Str → Option Value) (led : List (Addr × Obj)) (P : Prop) (s : Shared) (Q : Flow → Shared → Prop) (f : Flow) (s₂ : Shared) : Prop :=
  match f with
  | .ret v => Q (.ret v) s₂
  | .brk => Q .next s₂
  | _ => TurnEnd h₀ L x m₀ led P s s₂

theorem kstB_nil (m u : Str → Option Value) (y : Str) : kstB (fun z => if ([] : List Str).contains z then u z else m z) [] y = m y := by
  unfold kstB; simp

theorem loop_scan {r : Addr} {t₀ u₀ v₀ : Tok} {n : Nat} {m₀ : Str → Option Value} {news : List (Addr × Obj)} (P : Nat → Prop)
    (hh : A.handled = none) (hr : IsRange s.heap r 0 (n : Int) 1 t₀ u₀ v₀) (hsmall : n < 1000) (F : Fr h₀ env.locals s.heap m₀) (N : News h₀ env.locals s.heap news) (hp : P 0)
    (turn : ∀ (i : Nat) t h tk own, i < n → P i → Fr h₀ env.locals h (fun y => if y = x then some (.int (i : Int) t) else m₀ y) → News h₀ env.locals h (news ++ own) →
      wpAny (model prog w) A (execs body env) (TurnPost h₀ env.locals x m₀ (news ++ own) (P (i + 1)) { s with heap := h, toks := tk } Q) E { s with heap := h, toks := tk })
    (done : ∀ (u : Str → Option Value) h tk, P n → Fr h₀ env.locals h (fun y => if y = x then u y else m₀ y) → News h₀ env.locals h news → Q .next { s with heap := h, toks := tk }) :
    wpAny (model prog w) A (pyIter (.ref r)) (fun it s₂ => LoopAtV prog w A h₀ env x body Q E it s₂) E s := by
  refine kst_range (σ := Unit) (n := n) (fun _ => news) (fun _ => []) (fun _ => True) [] (fun pre _ => P pre.length) () hh hr ?_ ?_ F N True.intro (fun _ hp => nomatch hp) hp ?_ ?_
  · exact small_one (by omega) (by omega) (by omega) (by omega)
  · simp [Builtin.Range.rangeSize]; omega
  · intro c pre k t u h tk own hk hl hoff _ hP F₁ N₁
    have e : (fun y => if y = x then some (Value.int k t) else kstB (fun z => if ([] : List Str).contains z then u z else m₀ z) [] y) = fun y => if y = x then some (Value.int (pre.length : Int) t) else m₀ y := by
      funext y
      rw [kstB_nil, hk]
      simp
    rw [e] at F₁
    refine wpAny_mono (turn pre.length t h tk own hl hP F₁ N₁) (fun f s₂ q => ?_) fun _ _ e => e
    have fin : TurnEnd h₀ env.locals x m₀ (news ++ own) (P (pre.length + 1)) { s with heap := h, toks := tk } s₂ → InvEndN h₀ env.locals (KstS (fun _ : Unit => news) (fun _ => []) (fun _ => True) x [] m₀ (fun pre _ => P pre.length) (pre ++ [k])) own (news.map (·.1)) { s with heap := h, toks := tk } s₂ := by
      rintro ⟨hP', h', tk', m', e', F', N', hm⟩
      exact ⟨h', tk', m', news ++ own, news, e', F', N', fun p hp => List.mem_append_left _ hp, fun p hp => List.mem_append_right _ hp, rfl, (), rfl, True.intro, (fun _ hp => nomatch hp), fun z hz _ _ => hm z hz, by show P (pre ++ [k]).length; rw [List.length_append]; exact hP'⟩
    cases f with
    | ret v => exact q
    | brk => exact q
    | next => exact fin q
    | cont => exact fin q
  · intro c u h tk _ hP F₁ N₁
    have e : (fun y => if y = x then u y else kstB (fun z => if ([] : List Str).contains z then u z else m₀ z) [] y) = fun y => if y = x then u y else m₀ y := by
      funext y
      rw [kstB_nil]
    rw [e] at F₁
    refine done u h tk ?_ F₁ N₁
    have hl : (rangeKs 0 n).length = n := rangeKs_length _ _
    rw [hl] at hP
    exact hP
theorem loop_scanB {r : Addr} {t₀ u₀ v₀ : Tok} {n : Nat} {b : Int} {m₀ : Str → Option Value} {news : List (Addr × Obj)} (P : Nat → Prop)
    (hh : A.handled = none) (hr : IsRange s.heap r 0 b 1 t₀ u₀ v₀) (hb : b = (n : Int)) (hsmall : n < 1000) (F : Fr h₀ env.locals s.heap m₀) (N : News h₀ env.locals s.heap news) (hp : P 0)
    (turn : ∀ (i : Nat) t h tk own, i < n → P i → Fr h₀ env.locals h (fun y => if y = x then some (.int (i : Int) t) else m₀ y) → News h₀ env.locals h (news ++ own) →
      wpAny (model prog w) A (execs body env) (TurnPost h₀ env.locals x m₀ (news ++ own) (P (i + 1)) { s with heap := h, toks := tk } Q) E { s with heap := h, toks := tk })
    (done : ∀ (u : Str → Option Value) h tk, P n → Fr h₀ env.locals h (fun y => if y = x then u y else m₀ y) → News h₀ env.locals h news → Q .next { s with heap := h, toks := tk }) :
    wpAny (model prog w) A (pyIter (.ref r)) (fun it s₂ => LoopAtV prog w A h₀ env x body Q E it s₂) E s := loop_scan P hh (hb ▸ hr) hsmall F N hp turn done
end
end Mine

namespace Mine
def tokD : List (PyData × PyData) := tokTab.map fun p => (PyData.str p.1, p.2)
def tokNum (k : Str) : Int := match lookup (PyData.str k) tokD with | some (.int n) => n | _ => 0
def stopNum (n : Int) : Bool := [(11 : Int), 53].any (· == n)
def isStop (x : Str) : Bool := x == ⟨#[10]⟩ || x == ⟨#[58]⟩ || x == ⟨#[58, 61]⟩
def headL (ps : List Str) : List Str := ps.takeWhile fun x => !isStop x
def headP (ps : List Str) : Str := Txt.join (Str.ofString "") (headL ps)

theorem tok_all : (ops.all fun k => (match lookup (PyData.str k) tokD with | some (.int _) => true | _ => false) && (stopNum (tokNum k) == isStop k) && decide (k.length ≤ 3) && !(k == ⟨#[10]⟩)) = true := by decide +kernel
theorem tok_look {k : Str} (hk : k ∈ ops) : lookup (PyData.str k) tokD = some (.int (tokNum k)) := by
  have := List.all_eq_true.mp tok_all k hk
  simp only [Bool.and_eq_true] at this
  have h1 := this.1.1.1
  unfold tokNum
  split at h1
  · rename_i n e; rw [e]
  · cases h1
theorem tok_stop {k : Str} (hk : k ∈ ops) : stopNum (tokNum k) = isStop k := by
  have := List.all_eq_true.mp tok_all k hk
  simp only [Bool.and_eq_true] at this
  exact eq_of_beq this.1.1.2
theorem tok_len {k : Str} (hk : k ∈ ops) : k.length ≤ 3 := by
  have := List.all_eq_true.mp tok_all k hk
  simp only [Bool.and_eq_true, decide_eq_true_eq] at this
  exact this.1.2

section
variable {w : World} {A : Around} {E : Value → Shared → Prop} {s : Shared} {h₀ : Heap} {L l : Addr} {m : Str → Option Value} {news : List (Addr × Obj)} {value slice : Expr} {Q : Value → Shared → Prop}
theorem item_ops {k : Str} {tk : Tok} (hk : k ∈ ops) (F : Fr h₀ L s.heap m) (X : (KF w).In h₀) (h : ∀ t, Q (.int (tokNum k) t) { s with toks := s.toks + 1 })
    (hs : subscripted slice false (.ref 29) (.str k tk) = operate [.ref 29, .str k tk] (getItem (.ref 29) (.str k tk))) (hg : ∀ r, letTemporaryGo value (.ref 29) r = pure ()) :
    wpAny (model PG w) A (subscriptTail value slice (.ref 29) (.str k tk)) Q E s :=
  item_tab (knd := PySem.strKind PG w) (k := k) same_str (strKind_is PG w k tk) (tokAt w (X.keeps F.keep)) (tok_look hk) (fun v hv => by cases hv {}; exact h _) hs hg

theorem strs_take : ∀ {vs : List Value} {ps : List Str} (i : Nat), StrsAre vs ps → StrsAre (vs.take i) (ps.take i)
  | _, _, 0, _ => .nil
  | [], _, _ + 1, .nil => .nil
  | _, _, i + 1, .cons y t h => .cons y t (strs_take i h)

theorem slice_take {vs : List Value} {i : Nat} {t : Tok} (F : Fr h₀ L s.heap m) (N : News h₀ L s.heap news) (hl : s.heap.IsList l vs.toArray) (hz : vs.length ≤ 1000)
    (h : ∀ D h', Fr h₀ L h' m → News h₀ L h' ((D, listOf (vs.take i).toArray 0) :: news) → (∀ p ∈ news, p.1 < D) → Q (.ref D) { s with heap := h' })
    (hs : subscripted slice false (.ref l) (.ref s.heap.objs.size) = operate [.ref s.heap.objs.size, .ref l] (getItem (.ref l) (.ref s.heap.objs.size))) (ht : ∀ r, letTemporaryGo value (.ref l) r = pure ()) :
    wpAny (model PG w) A (subscriptTail value slice (.ref l) (.ref s.heap.objs.size)) Q E { s with heap := s.heap.push { cls := .type "slice", data := .fields #[.none, .int (i : Int) t, .none] } } :=
  kmk_slice_lit F N hl IsPart.none (IsPart.int _ _) (by rw [slicePick_upto']) h hs ht (by rw [List.size_toArray, sizeLine_eq]; omega)

theorem sum_le : ∀ {qs : List Str}, (∀ x ∈ qs, x.length ≤ 3) → (qs.map (·.length)).sum ≤ 3 * qs.length
  | [], _ => by simp
  | q :: r, h => by
    have h1 := h q (.head _)
    have h2 := sum_le (qs := r) fun x hx => h x (.tail _ hx)
    simp only [List.map_cons, List.sum_cons, List.length_cons]
    omega
theorem join_strs {D : Addr} {vs : List Value} {qs : List Str} {t : Tok} (hl : s.heap.IsList D vs.toArray) (hi : StrsAre vs qs) (h3 : ∀ x ∈ qs, x.length ≤ 3) (hn : qs.length ≤ 1000)
    (h : ∀ t' k, Q (.str (Txt.join (Str.ofString "") qs) t') { s with toks := k }) : wpAny (model PG w) A (call (.builtin "str.join") [.str (Str.ofString "") t, .ref D]) Q E s :=
  join_listW hl (by simpa using hi) (by decide +kernel) (by have := sum_le h3; omega) h
end

theorem headL_at {ps : List Str} {i : Nat} (hi : i < ps.length) (h1 : ∀ j, j < i → isStop (ps.getD j Str.empty) = false) (h2 : isStop (ps.getD i Str.empty) = true) : headL ps = ps.take i := by
  induction ps generalizing i with
  | nil => simp at hi
  | cons a r ih =>
    cases i with
    | zero =>
      have : isStop a = true := by simpa using h2
      simp [headL, this]
    | succ i =>
      have ha : isStop a = false := by simpa using h1 0 (by omega)
      have := ih (i := i) (by simpa using hi) (fun j hj => by simpa using h1 (j + 1) (by omega)) (by simpa using h2)
      unfold headL at this ⊢
      rw [List.takeWhile_cons, if_pos (by simp [ha]), this, List.take_succ_cons]
theorem headL_all {ps : List Str} (h1 : ∀ j, j < ps.length → isStop (ps.getD j Str.empty) = false) : headL ps = ps := by
  induction ps with
  | nil => rfl
  | cons a r ih =>
    have ha : isStop a = false := by simpa using h1 0 (by simp)
    have := ih (fun j hj => by simpa using h1 (j + 1) (by simpa using hj))
    unfold headL at this ⊢
    rw [List.takeWhile_cons, if_pos (by simp [ha]), this]
end Mine

namespace Mine
theorem key_ops {ps : List Str} (hp : ∀ x ∈ ps, x ∈ ops ∨ x = ⟨#[10]⟩) {i : Nat} (hi : i < ps.length) (hne : (ps.getD (i : Int).toNat Str.empty == Str.ofString "\n") = false) : ps.getD (i : Int).toNat Str.empty ∈ ops := by
  have e : ps.getD (i : Int).toNat Str.empty = ps[i] := by rw [Int.toNat_natCast, List.getD_eq_getElem?_getD, List.getElem?_eq_getElem hi]; rfl
  rw [e] at hne ⊢
  rcases hp ps[i] (List.getElem_mem hi) with h | h
  · exact h
  · rw [h] at hne; exact absurd hne (by decide +kernel)
theorem hp_len {ps : List Str} (hp : ∀ x ∈ ps, x ∈ ops ∨ x = ⟨#[10]⟩) : ∀ x ∈ ps, x.length ≤ 3 := fun x hx => by
  rcases hp x hx with h | h
  · exact tok_len h
  · rw [h]; decide

theorem stop_nl {ps : List Str} {i : Nat} (h : (ps.getD (i : Int).toNat Str.empty == Str.ofString "\n") = true) : isStop (ps.getD i Str.empty) = true := by
  have e := eq_of_beq h
  rw [Int.toNat_natCast] at e
  rw [e]; decide +kernel
theorem stop_tok {ps : List Str} {i : Nat} {b : Bool} (hk : ps.getD (i : Int).toNat Str.empty ∈ ops) (h : ([(11 : Int), 53].any fun x => x == tokNum (ps.getD (i : Int).toNat Str.empty)) = b) : isStop (ps.getD i Str.empty) = b := by
  have e := tok_stop hk
  rw [Int.toNat_natCast] at e h
  rw [← e]; exact h
local macro_rules | `(tactic| walk_at "exec For Name Call cons nil") => `(tactic| (k_here; (rename Fr _ _ _ _ => lF'); (with_unfolding_all refine' For_invVF lF' ?k1 ?k2 ?_; (case k1 => exact rfl); (case k2 => exact rfl); k_whole)))
local macro_rules | `(tactic| walk_at "subscriptTail") => `(tactic| (k_here; (with_reducible show wpAny _ _ (subscriptTail _ _ (Value.ref 29) (Value.str _ _)) _ _ _); k_dflt (refine' item_ops ?hk ?F ?X ?_ ?s ?t; (case hk => exact key_ops (by assumption) (by assumption) (by assumption)); (case F => k_asm); (case X => k_asm); (case s => with_unfolding_all rfl); (case t => kmk_pure)); intro t'))
local macro_rules | `(tactic| walk_at "subscriptTail Name Slice ref ref") => `(tactic| (k_here; (with_reducible show wpAny _ _ (subscriptTail _ (PySem.Expr.Slice none (some _) none _) (Value.ref _) (Value.ref _)) _ _ _); k_dflt (refine' slice_take ?F ?N ?l ?z ?_ ?s ?t; (case F => k_asm); (case N => k_asm); (case l => exact stays_list (Fr.keep (by k_asm)) (by assumption)); (case z => omega); (case s => with_unfolding_all rfl); (case t => kmk_pure)); intro D' h' F' N' l1))
local macro_rules | `(tactic| walk_at "call builtin:str.join") => `(tactic| (k_here; (show wpAny _ _ (call (Value.builtin "str.join") [Value.str _ _, Value.ref _]) _ _ _); k_dflt (first
  | (refine' join_strs ?l ?i ?h3 ?n ?_; (case l => exact News.isList (by k_asm) (List.Mem.head _)); (case i => exact strs_take _ (by assumption)); (case h3 => exact fun x hx => hp_len (by assumption) x (List.mem_of_mem_take hx)); (case n => rw [List.length_take]; omega))
  | (refine' join_strs ?l ?i ?h3 ?n ?_; (case l => exact stays_list (Fr.keep (by k_asm)) (by assumption)); (case i => assumption); (case h3 => exact hp_len (by assumption)); (case n => omega))); intro t' k'))

set_option maxHeartbeats 1000000 in
theorem head_gives (w : World) {p : Program} {loose : List Str} {mean : ExcName → Option Value} {mg mb : Str → Option Value} (l : Addr) (vs : List Value) (ps : List Str) (hs : StrsAre vs ps) (hn : ps.length ≤ 11) (hp : ∀ x ∈ ps, x ∈ ops ∨ x = ⟨#[10]⟩) :
    Gives 8 w p loose mean mg mb 45 [.ref l] (fun h => h.IsList l vs.toArray) (fun v => ∃ t, v = .str (headP ps) t) := by
  w_on
  unfold Gives KF PG
  k_fill
  intro dp un gd cn cs a ccd cl outer A₀ base h₀ L m news s Q E B F X N T hk hH hd hu ret
  refine wpAny_call ?_
  k_dflt (
    refine' code_def0 ?k1 ?k2 ?k3 ?k5 ?kA ?kF ?kK ?k6 ?k7 ?k8 ?k9 ?kB ?_ ?c2 ?c3 ?c4 ?c5; (case kA => exact rfl); (case kF => exact rfl); (case kK => assumption); (case k1 => k_asm); (case k2 => k_asm); (case k3 => k_asm); (case k5 => k_asm); (case k6 => k_is); (case k7 => k_is); (case k8 => ktr_room); (case k9 => exact BindsTo.of_eq rfl); (case c5 => decide); (case kB => exact locs rfl); (case c2 => exact rfl); (case c3 => exact rfl); (case c4 => exact rfl); k_whole; intro g' L' h' ST' FG' F' N' B' X' T'; (try dsimp only); (try k_lift B'); (try k_fold))
  have hG : g'.IsList l vs.toArray := stays_list ST' hH
  have hlen : vs.length = ps.length := hs.length
  repeat' ((fail_if_success (with_reducible show wpAny _ _ (pyIter _) _ _ _)); (first | (k_unfold; (try dsimp only)) | (k_end; wrow_close) | walk1 | (dsimp only; walk1) | fail "no step"))
  (rename StrsAre _ _ => hs); (rename IsRange _ _ _ _ _ _ _ _ => rgX); (rename Fr _ _ _ _ => lF'); (rename News _ _ _ _ => lN')
  k_dflt (refine' loop_scanB (n := ps.length) (fun i => ∀ j, j < i → isStop (ps.getD j Str.empty) = false) rfl rgX ?hb ?hc lF' lN' (fun j hj => absurd hj (Nat.not_lt_zero _)) ?_ ?_)
  case hb => first | rfl | (simp only [List.size_toArray]; omega) | omega
  case hc => omega
  · intro i ti h1 tk1 own hi hP F1 N1
    clear rgX lF' lN'
    k_fold
    k_steps
    · unfold TurnPost
      dsimp only
      k_steps
      exact ret _ _ _ ⟨_, congrArg (fun y => Value.str y _) (show Txt.join _ (ps.take i) = headP ps from congrArg _ (headL_at hi hP (stop_nl (by assumption))).symm)⟩ (by k_asm) (news_stay N (by assumption))
    · unfold TurnPost
      dsimp only
      k_steps
      exact ret _ _ _ ⟨_, congrArg (fun y => Value.str y _) (show Txt.join _ (ps.take i) = headP ps from congrArg _ (headL_at hi hP (stop_tok (key_ops hp hi (by assumption)) (by assumption))).symm)⟩ (by k_asm) (news_stay N (by assumption))
    · unfold TurnPost TurnEnd
      dsimp only
      refine ⟨fun j hj => ?_, _, _, _, rfl, by k_asm, cb_drop (by k_asm) (fun q hq => by simp only [List.mem_cons, hq, or_true]), fun z hz => if_neg hz⟩
      rcases Nat.lt_succ_iff_lt_or_eq.mp hj with h | h
      · exact hP j h
      · rw [h]; exact stop_tok (key_ops hp hi (by assumption)) (by assumption)
  · intro u1 h1 tk1 hP F1 N1
    clear rgX lF' lN'
    dsimp only
    (try k_fold)
    k_steps
    exact ret _ _ _ ⟨_, congrArg (fun y => Value.str y _) (show Txt.join _ ps = headP ps from congrArg _ (headL_all hP).symm)⟩ (by k_asm) (news_stay N (by assumption))
end Mine

namespace Mine
open LCg LCt
section
variable {prog : Program} {w : World} {A : Around} {E : Value → Shared → Prop} {s : Shared} {h₀ : Heap} {L : Addr} {m : Str → Option Value} {env : Env}

/-- what an element's (or a test's) evaluation leaves behind: the frame and the ledger as they were -/
def Kept (h₀ : Heap) (L : Addr) (m : Str → Option Value) (led : List (Addr × Obj)) (s s' : Shared) : Prop :=
  ∃ h' tk', s' = { s with heap := h', toks := tk' } ∧ Fr h₀ L h' m ∧ News h₀ L h' led

theorem comp_all {elt : Expr} {x : Str} {scope : Scope} {cl : List (Str × Addr)} {S : List (Addr × Obj) → Prop} {P : Nat → Value → Prop} {Fin : List Value → List (Addr × Obj) → Prop} {n : Nat} {news : List (Addr × Obj)} (Acc : Nat → List Value → Prop) (hS : S news) (a0 : Acc 0 [])
    (turn : ∀ i v I oI C oC D m₂ h tk ys (E' : Value → Shared → Prop), i < n → Acc i ys → P i v → NsObj oC m₂ → m₂ x = some v → Fr h₀ L h m → News h₀ L h ((I, oI) :: (C, oC) :: (D, lst ys) :: news) →
      wpAny (model prog w) A (eval elt (compEnvC scope cl C env)) (fun y s' => Acc (i + 1) (ys ++ [y]) ∧ Kept h₀ L m ((I, oI) :: (C, oC) :: (D, lst ys) :: news) s s') E' { s with heap := h, toks := tk })
    (fin : ∀ ys, Acc n ys → Fin ys news) : CompRest prog w A h₀ L m env elt x scope cl s S P Fin n 0 [] news := by
  have key : ∀ k i ys, i + k = n → Acc i ys → CompRest prog w A h₀ L m env elt x scope cl s S P Fin k i ys news := by
    intro k
    induction k with
    | zero => intro i ys e ha; obtain rfl : i = n := by omega
              exact fin ys ha
    | succ k ih =>
      intro i ys e ha v I oI C oC D m₂ h tk E' hP hC hx F N off ne
      refine wpAny_mono (turn i v I oI C oC D m₂ h tk ys E' (by omega) ha hP hC hx F N) (fun y s' hy => ?_) fun _ _ e => e
      obtain ⟨ha', h', tk', rfl, F', N'⟩ := hy
      exact ⟨h', tk', news, rfl, F', N', off, hS, ih (i + 1) (ys ++ [y]) (by omega) ha'⟩
  exact key n 0 [] (by omega) a0

theorem comp_allT {ct elt : Expr} {x : Str} {scope : Scope} {cl : List (Str × Addr)} {S : List (Addr × Obj) → Prop} {P : Nat → Value → Prop} {Fin : List Value → List (Addr × Obj) → Prop} {n : Nat} {news : List (Addr × Obj)} (Acc : Nat → List Value → Prop) (hS : S news) (a0 : Acc 0 [])
    (turn : ∀ i v I oI C oC D m₂ h tk ys (E' : Value → Shared → Prop), i < n → Acc i ys → P i v → NsObj oC m₂ → m₂ x = some v → Fr h₀ L h m → News h₀ L h ((I, oI) :: (C, oC) :: (D, lst ys) :: news) →
      wpAny (model prog w) A (isTrue ct (compEnvC scope cl C env) (eval ct (compEnvC scope cl C env))) (fun ok s' => if ok = true then
        wpAny (model prog w) A (eval elt (compEnvC scope cl C env)) (fun y s'' => Acc (i + 1) (ys ++ [y]) ∧ Kept h₀ L m ((I, oI) :: (C, oC) :: (D, lst ys) :: news) s s'') E' s'
        else Acc (i + 1) ys ∧ Kept h₀ L m ((I, oI) :: (C, oC) :: (D, lst ys) :: news) s s') E' { s with heap := h, toks := tk })
    (fin : ∀ ys, Acc n ys → Fin ys news) : CompRestT prog w A h₀ L m env ct elt x scope cl s S P Fin n 0 [] news := by
  have key : ∀ k i ys, i + k = n → Acc i ys → CompRestT prog w A h₀ L m env ct elt x scope cl s S P Fin k i ys news := by
    intro k
    induction k with
    | zero => intro i ys e ha; obtain rfl : i = n := by omega
              exact fin ys ha
    | succ k ih =>
      intro i ys e ha v I oI C oC D m₂ h tk E' hP hC hx F N off ne
      refine wpAny_mono (turn i v I oI C oC D m₂ h tk ys E' (by omega) ha hP hC hx F N) (fun ok s' hy => ?_) fun _ _ e => e
      cases ok with
      | true =>
        simp only [if_true] at hy ⊢
        refine wpAny_mono hy (fun y s'' hz => ?_) fun _ _ e => e
        obtain ⟨ha', h', tk', rfl, F', N'⟩ := hz
        exact ⟨h', tk', news, rfl, F', N', off, hS, ih (i + 1) (ys ++ [y]) (by omega) ha'⟩
      | false =>
        simp only [Bool.false_eq_true, if_false] at hy ⊢
        obtain ⟨ha', h', tk', rfl, F', N'⟩ := hy
        exact ⟨h', tk', news, rfl, F', N', off, hS, ih (i + 1) ys (by omega) ha'⟩
  exact key n 0 [] (by omega) a0

/-- the keys of a dict of the text's own, walked by a comprehension with a test whose list goes to a name -/
theorem Assign_ListComp_keys {K : Type} [DecidableEq K] {knd : KeyKind prog w K} {d : Addr} {kvs : List (K × Value)} {ep : Nat} {ct elt iter : Expr} {x y : Str} {px py : Pos} {scope : Scope} {cl : List (Str × Addr)} {pos spos : Pos} {Q : Flow → Shared → Prop} {news : List (Addr × Obj)}
    (hh : A.handled = none) (hLe : env.locals = L)
    (hsw : swapsWith (.ListComp elt [⟨.Name x px, iter, [ct], 0⟩] scope pos) (some (.Name y py)) spos.line env = pure true)
    (hclos : closureFor scope env = pure cl) (hcell : ∀ z ∈ scope.names, z.2 ≠ .cell) (hkind : scope.kind = .function)
    (hnames : ∀ z ∈ scope.names, z.2 = .local → scope.names.lookup z.1 = some .local) (hx : scope.names.lookup x = some .local)
    (hy : env.kindOf y = some .local) (hp : (env.scope.kind == .class || (env.scope.kind == .module && env.locals != env.globals)) = false)
    (lo : (d == sysModules) = false) (hD : h₀.DictAt knd d kvs ep) (hsz : kvs.length ≤ sizeLine) (F : Fr h₀ L s.heap m) (N : News h₀ L s.heap news)
    (h : wpAny (model prog w) A (eval iter env) (fun v s₁ => v = .ref d ∧ s₁ = s) E s)
    (R : ∀ g, CompRestT prog w A h₀ L m env ct elt x scope cl { s with heap := g } (fun _ => True) (fun i v => ∃ k z, kvs[i]? = some (k, z) ∧ knd.is k v = true) (FinA h₀ L m { s with heap := g } y Q) kvs.length 0 [] news)
    (hs : ∀ x, foldedSetIterable iter env x = pure x := by intro _; rfl) :
    wpAny (model prog w) A (exec (.Assign [.Name y py] (.ListComp elt [⟨.Name x px, iter, [ct], 0⟩] scope pos) spos) env) Q E s := by
  subst hLe
  rw [exec_Assign_Name_used _ _ _ _ hsw]
  refine wpAny_bind (wpAny_standAt (wpAny_bind ?_))
  show wpAny _ A (do let _ ← comprehension (.ListComp elt [⟨.Name x px, iter, [ct], 0⟩] scope pos) scope env _ (newList []) false (eval iter env) (some (assign (.Name y py) env))) _ _ s
  refine wpAny_bind (wpAny_mono (wpAny_comprehension_free (use := some (assign (.Name y py) env)) (Q := fun _ s' => Q .next s') rfl hs hclos hkind hnames
    (wpAny_mono h (fun xv s₁ h₁ => ?_) fun _ _ e => e)) (fun _ s' hq => wpAny_pure (wpAny_pure hq)) fun _ _ e => e)
  obtain ⟨rfl, rfl⟩ := h₁
  have hm : s₁.heap.DictAt knd d kvs ep := hD.keep F.keep
  have hlt : d < s₁.heap.objs.size := hm.lt_size
  refine wpAny_pyIter_dict lo hm ?_
  have up : ∀ b o, s₁.heap.get? b = some o → (s₁.heap.push { cls := .type "dict_keyiterator", data := .fields #[.ref d, .int 0 0, .int kvs.length 0, .int ep 0] }).get? b = some o := fun b o e => Heap.get?_push_of_some _ e
  refine block_T (S := fun _ => True) (Walks.dictKeys hh s₁.heap.objs.size d (Nat.ne_of_lt hlt) kvs ep) hsz (fun i h st => by obtain ⟨o, e, _⟩ := st.1; exact ⟨o, e⟩)
    (fun i h h' o nw st e e' k _ _ => ⟨by obtain ⟨o', q, r⟩ := st.1; rw [e] at q; cases q; exact ⟨o, e', r⟩, hD.keep k⟩) hcell hkind hx ⟨⟨_, Heap.get?_push_size _ rfl, rfl, rfl⟩, hm.push _⟩ (fun b hb => ?_)
    (F.keeps up) (N.grown up) (Nat.ne_of_lt F.ns.lt) (next_is_new F) (fun p hp => Nat.ne_of_lt (Heap.lt_size (N p hp).1)) trivial (R _) ?_
  · show b < (s₁.heap.push _).objs.size
    rw [Heap.size_push]
    rcases List.mem_cons.mp hb with rfl | hb
    · exact Nat.lt_succ_self _
    · rw [List.mem_singleton.mp hb]; exact Nat.lt_succ_of_lt hlt
  · intro D C h' tk m' ys news' F' N' o1 hn hC₀ hD₀ hCL hDL hCD offC fin
    show wpAny _ A (assign (.Name y py) env (.ref D)) _ _ _
    refine wpAny_assign_Name (wpAny_storeName_local hy F'.ns (fun h₂ hn₂ hs₂ => ?_) hp)
    have hL₀ : h₀.get? env.locals = none := Heap.get?_none_of_le F'.above
    have F₂ : Fr h₀ env.locals h₂ (fun z => if z = y then some (.ref D) else m z) := ⟨hn₂, fun b o e => hs₂.extBut b o (fun q => by rw [q, hL₀] at e; cases e) (F'.keep b o e), F'.above⟩
    refine ⟨m', hn.sameBut hs₂ hCL, fun h'' hs'' => fin D h'' _ (F₂.change hs'' hCL hC₀) (fun p hp => ?_) o1⟩
    have z : h₂.get? p.1 = some p.2 := hs₂.extBut _ _ (N' p hp).2.1 (N' p hp).1
    refine ⟨hs''.extBut _ _ ?_ z, (N' p hp).2⟩
    rcases List.mem_cons.mp hp with rfl | hp
    · exact Ne.symm hCD
    · exact offC p hp
end
end Mine

namespace Mine
theorem pick_drop (vs : List Value) {i : Int} (h0 : 0 ≤ i) : (slicePick vs.toArray (some i) none none).toList = vs.drop i.toNat := by
  obtain ⟨k, rfl⟩ : ∃ k : Nat, i = (k : Int) := ⟨i.toNat, by omega⟩
  rw [slicePick_from']; rfl
section
variable {w : World} {A : Around} {E : Value → Shared → Prop} {s : Shared} {h₀ : Heap} {L l : Addr} {m : Str → Option Value} {news : List (Addr × Obj)} {value slice : Expr} {Q : Value → Shared → Prop}
theorem slice_drop {vs : List Value} {i : Int} {t : Tok} (h0 : 0 ≤ i) (F : Fr h₀ L s.heap m) (N : News h₀ L s.heap news) (hl : s.heap.IsList l vs.toArray) (hz : vs.length ≤ 1000)
    (h : ∀ D h', Fr h₀ L h' m → News h₀ L h' ((D, listOf (vs.drop i.toNat).toArray 0) :: news) → (∀ p ∈ news, p.1 < D) → Q (.ref D) { s with heap := h' })
    (hs : subscripted slice false (.ref l) (.ref s.heap.objs.size) = operate [.ref s.heap.objs.size, .ref l] (getItem (.ref l) (.ref s.heap.objs.size))) (ht : ∀ r, letTemporaryGo value (.ref l) r = pure ()) :
    wpAny (model PG w) A (subscriptTail value slice (.ref l) (.ref s.heap.objs.size)) Q E { s with heap := s.heap.push { cls := .type "slice", data := .fields #[.int i t, .none, .none] } } :=
  kmk_slice_lit F N hl (IsPart.int _ _) IsPart.none (pick_drop vs h0) h hs ht (by rw [List.size_toArray, sizeLine_eq]; omega)
end
theorem add_strs {w : World} {A : Around} {E : Value → Shared → Prop} {s : Shared} {h₀ : Heap} {L a b : Addr} {m : Str → Option Value} {news : List (Addr × Obj)} {Q : Value → Shared → Prop} {vs ws : List Value} {ps qs : List Str} (k : Nat)
    (F : Fr h₀ L s.heap m) (N : News h₀ L s.heap news) (ha : s.heap.IsList a vs.toArray) (hb : s.heap.IsList b ws.toArray) (hv : StrsAre vs ps) (hw : StrsAre ws qs) (hz : ps.length + qs.length ≤ 1000)
    (h : ∀ D us h', StrsAre us (ps ++ qs) → Fr h₀ L h' m → News h₀ L h' ((D, listOf us.toArray 0) :: news.drop k) → (∀ p ∈ news.drop k, p.1 < D) → Q (.ref D) { s with heap := h' }) :
    wpAny (model PG w) A (binaryOp .Add (.ref a) (.ref b)) Q E s :=
  kmk_add_lit F N ha hb rfl (fun D h' F' N' l1 => h D _ h' (strsAre_append hv hw) F' (cb_drop N' fun p hp => by
    rcases List.mem_cons.mp hp with rfl | hp
    · exact List.Mem.head _
    · exact List.Mem.tail _ (List.mem_of_mem_drop hp)) fun p hp => l1 p (List.mem_of_mem_drop hp)) (by
    simp only [List.toList_toArray, sizeLine_eq, hv.length, hw.length]; omega)
theorem strs_drop : ∀ {vs : List Value} {ps : List Str} (i : Nat), StrsAre vs ps → StrsAre (vs.drop i) (ps.drop i)
  | _, _, 0, h => h
  | [], _, _ + 1, .nil => .nil
  | _, _, i + 1, .cons y t h => strs_drop i h
theorem start_are (t u v : Tok) : StrsAre [.str (Str.ofString "!") t, .str (Str.ofString ".") u, .str (Str.ofString "*") v] [⟨#[33]⟩, ⟨#[46]⟩, ⟨#[42]⟩] := .cons _ _ (.cons _ _ (.cons _ _ .nil))
theorem int_item {ws : List Value} {ns : List Int} (hI : IntsAre ws ns) {i : Nat} (hi : i < ns.length) {v : Value} (hv : ws.toArray[i]? = some v) : ∃ t, v = .int ns[i] t := by
  obtain ⟨t, hv'⟩ := hI.get i ns[i] (List.getElem?_eq_getElem hi)
  have e : ws[i]? = some v := by simpa using hv
  rw [hv'] at e
  exact ⟨t, (Option.some.inj e).symm⟩
theorem acc_piece {ys : List Value} {l : List Int} {i : Nat} (hi : i < l.length) {t : Tok} (h : StrsAre ys ((l.take i).map piece)) : StrsAre (ys ++ [.str (piece l[i]) t]) ((l.take (i + 1)).map piece) := by
  rw [List.take_add_one, List.getElem?_eq_getElem hi, List.map_append]
  exact strsAre_append h (.cons _ _ .nil)
def pieces (ns : List Int) : List Str := List.drop ((List.take 8 ns).sum.fmod 4).toNat [⟨#[33]⟩, ⟨#[46]⟩, ⟨#[42]⟩] ++ (List.take 8 ns).map piece
theorem pieces_len (ns : List Int) : (pieces ns).length ≤ 11 := by
  unfold pieces
  rw [List.length_append, List.length_drop, List.length_map, List.length_take]
  simp only [List.length_cons, List.length_nil]
  omega
theorem getD_mem {l : List Str} {i : Nat} (hi : i < l.length) : l.getD i Str.empty ∈ l := by
  rw [List.getD_eq_getElem?_getD, List.getElem?_eq_getElem hi]
  exact List.getElem_mem hi
theorem lt_toNat {x : Int} {n : Int} {l : Nat} (h : 0 < n) (e : (l : Int) = n) : (Int.fmod x n).toNat < l := by
  have h1 := fmod_lo x n h
  have h2 := fmod_hi x n h
  omega
theorem small_ok : (dots.all fun x => ops.contains x || x == ⟨#[10]⟩) = true ∧ (stops.all fun x => ops.contains x || x == ⟨#[10]⟩) = true ∧ ([⟨#[33]⟩, ⟨#[46]⟩, ⟨#[42]⟩].all fun x => ops.contains x || x == (⟨#[10]⟩ : Str)) = true := by decide +kernel
theorem ok_of {l : List Str} (h : (l.all fun x => ops.contains x || x == ⟨#[10]⟩) = true) {x : Str} (hx : x ∈ l) : x ∈ ops ∨ x = ⟨#[10]⟩ := by
  have := List.all_eq_true.mp h x hx
  rcases Bool.or_eq_true_iff.mp this with q | q
  · left; simpa using q
  · right; exact eq_of_beq q
theorem piece_ok (x : Int) : piece x ∈ ops ∨ piece x = ⟨#[10]⟩ := by
  unfold piece
  split
  · left; exact getD_mem (by rw [ops_length]; exact lt_toNat (by decide) rfl)
  · split
    · exact ok_of small_ok.1 (getD_mem (lt_toNat (by decide) rfl))
    · exact ok_of small_ok.2.1 (getD_mem (lt_toNat (by decide) rfl))
theorem pieces_ok (ns : List Int) : ∀ x ∈ pieces ns, x ∈ ops ∨ x = ⟨#[10]⟩ := by
  intro x hx
  rcases List.mem_append.mp hx with h | h
  · exact ok_of small_ok.2.2 (List.mem_of_mem_drop h)
  · obtain ⟨n, _, rfl⟩ := List.mem_map.mp h
    exact piece_ok n
theorem join_len {ps : List Str} (h3 : ∀ x ∈ ps, x.length ≤ 3) (hn : ps.length ≤ 11) : (Txt.join (Str.ofString "") ps).length ≤ 1000 := by
  have h1 := StrLaws.join_length_le (Str.ofString "") ps
  have h2 := sum_le h3
  have e : Txt.join (Str.ofString "") ps = Str.join (Str.ofString "") ps := StrLaws.glued_eq_join _ _
  have e0 : (Str.ofString "").length = 0 := by decide +kernel
  rw [e0] at h1
  rw [e]
  omega
end Mine

namespace Mine
open PySem.StrLaws PySem.Builtin PySem.Builtin.Str

theorem join_nil_cps : ∀ ps : List Str, (Str.join (Str.ofString "") ps).cps.toList = (ps.map fun x => x.cps.toList).flatten
  | [] => rfl
  | [x] => by simp [Str.join]
  | x :: y :: r => by
    have h := join_nil_cps (y :: r)
    show (x ++ Str.ofString "" ++ Str.join (Str.ofString "") (y :: r)).cps.toList = _
    rw [Str.cps_append, Str.cps_append, Array.toList_append, Array.toList_append, h, ← ofS_nil]
    simp [Str.empty]
theorem joined (ps : List Str) : (Txt.join (Str.ofString "") ps).cps.toList = (ps.map fun x => x.cps.toList).flatten := by
  have e : Txt.join (Str.ofString "") ps = Str.join (Str.ofString "") ps := glued_eq_join _ _
  rw [e]; exact join_nil_cps ps

def stopsAt (x : Str) : Bool := if isStop x then (match x.cps.toList with | c :: _ => !goodc c | [] => false) else x.cps.toList.all goodc
theorem stopsAt_all : (ops.all stopsAt) = true ∧ stopsAt ⟨#[10]⟩ = true := by decide +kernel
theorem stopsAt_of {x : Str} (h : x ∈ ops ∨ x = ⟨#[10]⟩) : stopsAt x = true := by
  rcases h with h | rfl
  · exact List.all_eq_true.mp stopsAt_all.1 x h
  · exact stopsAt_all.2

theorem takeWhile_all {l r : List Nat} (h : l.all goodc = true) : (l ++ r).takeWhile goodc = l ++ r.takeWhile goodc := by
  induction l with
  | nil => rfl
  | cons a l ih =>
    simp only [List.all_cons, Bool.and_eq_true] at h
    rw [List.cons_append, List.takeWhile_cons, if_pos h.1, ih h.2, List.cons_append]

theorem head_flat : ∀ (ps : List Str), (∀ x ∈ ps, x ∈ ops ∨ x = ⟨#[10]⟩) → headOf ((ps.map fun x => x.cps.toList).flatten) = ((headL ps).map fun x => x.cps.toList).flatten
  | [], _ => rfl
  | x :: r, h => by
    have hs := stopsAt_of (h x (.head _))
    have ih := head_flat r fun y hy => h y (.tail _ hy)
    unfold stopsAt at hs
    by_cases hx : isStop x = true
    · rw [if_pos hx] at hs
      have e : headL (x :: r) = [] := by simp [headL, hx]
      rw [e]
      cases hc : x.cps.toList with
      | nil => rw [hc] at hs; simp at hs
      | cons c l =>
        rw [hc] at hs
        simp only [Bool.not_eq_true'] at hs
        simp [headOf, hc, hs]
    · rw [if_neg hx] at hs
      have hx' : isStop x = false := by simpa using hx
      have e : headL (x :: r) = x :: headL r := by
        unfold headL; rw [List.takeWhile_cons, if_pos (by simp [hx'])]
      rw [e, List.map_cons, List.map_cons, List.flatten_cons, List.flatten_cons]
      unfold headOf at ih ⊢
      rw [takeWhile_all hs, ih]
theorem head_is {ps : List Str} (h : ∀ x ∈ ps, x ∈ ops ∨ x = ⟨#[10]⟩) : (headP ps).cps.toList = headOf (Txt.join (Str.ofString "") ps).cps.toList := by
  unfold headP
  rw [joined, joined, head_flat ps h]

theorem headL_sub (ps : List Str) : ∀ x ∈ headL ps, x ∈ ps := fun x hx => (List.takeWhile_sublist _).subset hx
theorem headL_len (ps : List Str) : (headL ps).length ≤ ps.length := (List.takeWhile_sublist _).length_le

theorem tails_unique {q q' y n : List Nat} (hy : 46 ∉ y) (hn : 46 ∉ n) (e : q ++ 46 :: y = q' ++ 46 :: n) : n = y := by
  rcases List.append_eq_append_iff.mp e with ⟨a, h1, h2⟩ | ⟨a, h1, h2⟩
  · cases a with
    | nil => simpa using h2.symm
    | cons b a =>
      simp only [List.cons_append, List.cons.injEq] at h2
      exact absurd (by rw [h2.2]; simp) hy
  · cases a with
    | nil => simpa using h2
    | cons b a =>
      simp only [List.cons_append, List.cons.injEq] at h2
      exact absurd (by rw [h2.2]; simp) hn

theorem ends_iff (a b : Str) : Txt.endswith a b = true ↔ ∃ q, a.cps.toList = q ++ b.cps.toList := by
  unfold Txt.endswith
  rw [subAt_eq]
  simp only [Bool.and_eq_true, decide_eq_true_eq, beq_iff_eq]
  have ha := len_list a
  have hb := len_list b
  constructor
  · rintro ⟨h1, h2⟩
    refine ⟨a.cps.toList.take (a.length - b.length), ?_⟩
    rw [← h2]
    rw [List.take_of_length_le (l := List.drop (a.length - b.length) a.cps.toList) (by rw [List.length_drop]; omega)]
    exact (List.take_append_drop _ _).symm
  · rintro ⟨q, hq⟩
    have hl := congrArg List.length hq
    rw [List.length_append] at hl
    refine ⟨by omega, ?_⟩
    have e : a.length - b.length = q.length := by omega
    rw [e, hq, List.drop_left, hb, List.take_length]

theorem fits_iff {h y n : Str} (hT : Tail h.cps.toList y.cps.toList) (hn : 46 ∉ n.cps.toList) : fits n h = true ↔ n = y := by
  obtain ⟨pre, e, hy, hp⟩ := hT
  have hq : ∃ q, 46 :: h.cps.toList = q ++ 46 :: y.cps.toList := by
    rcases hp with rfl | ⟨q, rfl⟩
    · exact ⟨[], by rw [e]; rfl⟩
    · exact ⟨46 :: q, by rw [e]; simp⟩
  unfold fits
  rw [ends_iff, cps_dot1, cps_dot1]
  obtain ⟨q, hq⟩ := hq
  constructor
  · rintro ⟨q', h'⟩
    rw [hq] at h'
    have := tails_unique hy hn h'
    exact Str.ext' (Array.toList_inj.mp this)
  · rintro rfl
    exact ⟨q, hq⟩
theorem fits_eq {h y n : Str} (hT : Tail h.cps.toList y.cps.toList) (hn : 46 ∉ n.cps.toList) : fits n h = decide (n = y) := by
  have := fits_iff hT hn
  by_cases e : n = y
  · rw [this.mpr e]; simp [e]
  · have : fits n h = false := by
      cases hf : fits n h with
      | false => rfl
      | true => exact absurd (this.mp hf) e
    rw [this]; simp [e]

theorem tail_free {h y : List Nat} (hT : Tail h y) : 46 ∉ y := let ⟨_, _, hy, _⟩ := hT; hy
theorem ints_one {ys : List Value} (h : IntsAre ys [0]) : ∃ t, ys = [.int 0 t] := by
  cases h with
  | cons n t h => cases h; exact ⟨t, rfl⟩
theorem strs_one {ys : List Value} {y : Str} (h : StrsAre ys [y]) : ∃ t, ys = [.str y t] := by
  cases h with
  | cons n t h => cases h; exact ⟨t, rfl⟩
theorem strs_none {ys : List Value} (h : StrsAre ys []) : ys = [] := by cases h; rfl
theorem headP_len {ps : List Str} (hpok : ∀ x ∈ ps, x ∈ ops ∨ x = ⟨#[10]⟩) (hn : ps.length ≤ 11) : (headP ps).length ≤ 1000 :=
  join_len (fun x hx => hp_len hpok x (headL_sub _ x hx)) (Nat.le_trans (headL_len _) hn)
theorem acc_true {ys : List Value} {i : Nat} {t : Tok} {b : Bool} (hf : b = decide (i = 0)) (hb : b = true) (ha : IntsAre ys (if i = 0 then [] else [0])) : IntsAre (ys ++ [.int (i : Int) t]) (if i + 1 = 0 then [] else [0]) := by
  rw [hb] at hf
  have h0 : i = 0 := by simpa using hf.symm
  subst h0
  rw [if_pos rfl] at ha
  cases ha
  exact .cons _ _ .nil
theorem acc_false {ys : List Value} {i : Nat} {b : Bool} (hf : b = decide (i = 0)) (hb : b = false) (ha : IntsAre ys (if i = 0 then [] else [0])) : IntsAre ys (if i + 1 = 0 then [] else [0]) := by
  rw [hb] at hf
  have h0 : i ≠ 0 := by simpa using hf.symm
  rw [if_neg h0] at ha
  rw [if_neg (by omega)]
  exact ha
/-- the ends of a text -/
theorem slice_cps (y : Str) (i : Nat) (hi : i ≤ y.length) : (Txt.slice y (some (i : Int)) none).cps.toList = y.cps.toList.drop i := by
  rw [slice_from_eq (b := (y.length : Int)) (by omega) (by omega) rfl]
  show List.take _ (List.drop _ _) = _
  rw [List.take_of_length_le]
  · simp
  · rw [List.length_drop, ← len_list]; omega
theorem slice_free {y : Str} (hy : 46 ∉ y.cps.toList) {i : Nat} (hi : i ≤ y.length) : 46 ∉ (Txt.slice y (some (i : Int)) none).cps.toList := by
  rw [slice_cps y i hi]
  exact fun h => hy (List.mem_of_mem_drop h)
theorem slice_eq {y : Str} {i : Nat} (hi : i ≤ y.length) : (Txt.slice y (some (i : Int)) none = y) ↔ i = 0 := by
  constructor
  · intro e
    have h1 := congrArg (fun s : Str => s.cps.toList.length) e
    simp only [slice_cps y i hi, List.length_drop] at h1
    rw [← len_list] at h1
    omega
  · rintro rfl
    exact Str.ext' (Array.toList_inj.mp (by rw [slice_cps y 0 hi]; rfl))
theorem fits_slice {h y : Str} (hT : Tail h.cps.toList y.cps.toList) {i : Nat} (hi : i ≤ y.length) : fits (Txt.slice y (some (i : Int)) none) h = decide (i = 0) := by
  obtain ⟨pre, e, hy, hp⟩ := id hT
  rw [fits_eq hT (slice_free hy hi)]
  have := slice_eq hi
  by_cases h0 : i = 0
  · rw [decide_eq_true (this.mpr h0), decide_eq_true h0]
  · rw [decide_eq_false (fun q => h0 (this.mp q)), decide_eq_false h0]

theorem filter_eq_of_nodup {y : Str} : ∀ {l : List Str}, l.Nodup → l.filter (fun o => decide (o = y)) = if y ∈ l then [y] else []
  | [], _ => by simp
  | a :: r, h => by
    have h1 := List.nodup_cons.mp h
    have ih := filter_eq_of_nodup (y := y) h1.2
    rw [List.filter_cons, ih]
    by_cases e : a = y
    · subst e
      simp [h1.1]
    · simp only [e, decide_false, List.mem_cons, Bool.false_eq_true, if_false]
      have : ¬ y = a := fun q => e q.symm
      simp [this]
theorem tok_filter {h y : Str} (hT : Tail h.cps.toList y.cps.toList) : ops.filter (fun o => decide (46 ∉ o.cps.toList) && fits o h) = if y ∈ ops then [y] else [] := by
  rw [← filter_eq_of_nodup (l := ops) tokNodup]
  refine List.filter_congr fun o _ => ?_
  by_cases ho : 46 ∈ o.cps.toList
  · have : o ≠ y := by
      rintro rfl
      obtain ⟨pre, e, hy, hp⟩ := hT
      exact hy ho
    simp [ho, this]
  · rw [fits_eq hT ho]
    simp [ho]
def sel (H o : Str) : Bool := decide (46 ∉ o.cps.toList) && fits o H
theorem accS_true {ys : List Value} {H k : Str} {i : Nat} {t : Tok} (hk : ops[i]? = some k) (hs : sel H k = true) (ha : StrsAre ys ((ops.take i).filter (sel H))) : StrsAre (ys ++ [.str k t]) ((ops.take (i + 1)).filter (sel H)) := by
  rw [List.take_add_one, hk, List.filter_append]
  have e : List.filter (sel H) (some k).toList = [k] := by simp [hs]
  rw [e]
  exact strsAre_append ha (.cons _ _ .nil)
theorem accS_false {ys : List Value} {H k : Str} {i : Nat} (hk : ops[i]? = some k) (hs : sel H k = false) (ha : StrsAre ys ((ops.take i).filter (sel H))) : StrsAre ys ((ops.take (i + 1)).filter (sel H)) := by
  rw [List.take_add_one, hk, List.filter_append]
  have e : List.filter (sel H) (some k).toList = [] := by simp [hs]
  rw [e, List.append_nil]
  exact ha
theorem sel_t {H k : Str} (h1 : ¬ 46 ∈ k.cps.toList) (h2 : fits k H = true) : sel H k = true := by unfold sel; rw [h2, decide_eq_true h1]; rfl
theorem sel_f {H k : Str} (h2 : fits k H = false) : sel H k = false := by unfold sel; rw [h2, Bool.and_false]
theorem sel_d {H k : Str} (h1 : ¬ ¬ 46 ∈ k.cps.toList) : sel H k = false := by unfold sel; rw [decide_eq_false h1]; rfl
theorem word_at {w : World} {kvs : List (Str × Value)} (hkv : kvs.map (·.1) = ops) {i : Nat} {v : Value} (h : ∃ k z, kvs[i]? = some (k, z) ∧ (PySem.strKind PG w).is k v = true) : ∃ k t, ops[i]? = some k ∧ v = .str k t := by
  obtain ⟨k, z, h1, h2⟩ := h
  obtain ⟨t, rfl⟩ := Value.isStrOf_shape h2
  exact ⟨k, t, by rw [← hkv]; simp [h1], rfl⟩
theorem notin_dot {w : World} {A : Around} {E : Value → Shared → Prop} {s : Shared} {x : Str} {t u : Tok} {Q : Value → Shared → Prop} (h : Q (.bool (decide (46 ∉ x.cps.toList))) s) :
    wpAny (model PG w) A (compareOp .NotIn (.str (Str.ofString ".") t) (.str x u)) Q E s := by
  refine notIn_str ?_
  have e : (occurrences x (Str.ofString ".") 0 x.length 1).isEmpty = decide (46 ∉ x.cps.toList) := by
    rw [ofS_dot]
    rcases occ_head x ⟨#[46]⟩ 1 (Nat.le_refl 1) with ⟨h0, hn⟩ | ⟨i, r, h0, hi, hn⟩
    · rw [h0]
      have hno : 46 ∉ x.cps.toList := fun hm => by
        obtain ⟨k, hk⟩ := List.mem_iff_getElem?.mp hm
        exact hn k ((subAt_one x 46 k).mpr hk)
      simp [hno]
    · rw [h0]
      have hyes : 46 ∈ x.cps.toList := List.mem_of_getElem? ((subAt_one x 46 i).mp hi)
      simp [hyes]
  rw [Bool.not_not, e]
  exact h
theorem valueAt_mem {y : Str} : ∀ {kvs : List (Str × Value)}, (valueAt kvs y).isSome = decide (y ∈ kvs.map (·.1)) := by
  intro kvs
  induction kvs with
  | nil => rfl
  | cons q r ih =>
    unfold valueAt at ih ⊢
    rw [List.find?_cons]
    by_cases e : q.1 = y
    · simp [e]
    · have e' : ¬ y = q.1 := fun z => e z.symm
      simp only [e, decide_false]
      rw [ih]
      simp [e']
theorem in_ops {w : World} {A : Around} {E : Value → Shared → Prop} {s : Shared} {h₀ : Heap} {L : Addr} {m : Str → Option Value} {y : Str} {t : Tok} {Q : Value → Shared → Prop} (F : Fr h₀ L s.heap m) (X : (KF w).In h₀)
    (h : Q (.bool (decide (y ∈ ops))) { s with toks := s.toks + 1 }) : wpAny (model PG w) A (compareOp .In (.str y t) (.ref 29)) Q E s := by
  obtain ⟨kvs, ep, hat, hkv⟩ := dict_at w (X.keeps F.keep)
  refine wpAny_in_of (knd := PySem.strKind PG w) (strKind_is PG w y t) (by decide) hat.dictOf.mapOf ?_
  rw [valueAt_mem, hkv]
  exact h
theorem in_ops_t {w : World} {A : Around} {E : Value → Shared → Prop} {s : Shared} {h₀ : Heap} {L : Addr} {m : Str → Option Value} {y : Str} {t : Tok} {Q : Value → Shared → Prop} (hy : y ∈ ops) (F : Fr h₀ L s.heap m) (X : (KF w).In h₀)
    (h : Q (.bool true) { s with toks := s.toks + 1 }) : wpAny (model PG w) A (compareOp .In (.str y t) (.ref 29)) Q E s := in_ops F X (by rw [decide_eq_true hy]; exact h)
theorem in_ops_f {w : World} {A : Around} {E : Value → Shared → Prop} {s : Shared} {h₀ : Heap} {L : Addr} {m : Str → Option Value} {y : Str} {t : Tok} {Q : Value → Shared → Prop} (hy : ¬ y ∈ ops) (F : Fr h₀ L s.heap m) (X : (KF w).In h₀)
    (h : Q (.bool false) { s with toks := s.toks + 1 }) : wpAny (model PG w) A (compareOp .In (.str y t) (.ref 29)) Q E s := in_ops F X (by rw [decide_eq_false hy]; exact h)
theorem ops_shaped : (ops.all fun y => SeqAt.shaped (.list [PyData.str y])) = true := by decide +kernel
theorem eq_one {w : World} {A : Around} {E : Value → Shared → Prop} {s : Shared} {a b : Addr} {y : Str} {t u : Tok} {Q : Value → Shared → Prop} (hy : y ∈ ops) (ha : s.heap.IsList a [Value.str y t].toArray) (hb : s.heap.IsList b [Value.str y u].toArray) (hu : A.units + 64 < cLine)
    (h : Q (.bool true) s) : wpAny (model PG w) A (compareOp .Eq (.ref a) (.ref b)) Q E s :=
  eq_dataH_same (da := .list [PyData.str y]) (db := .list [PyData.str y]) (reads_newData ha (.cons (.str _ _) .nil)) (reads_newData hb (.cons (.str _ _) .nil)) (List.all_eq_true.mp ops_shaped y hy) (List.all_eq_true.mp ops_shaped y hy) hu
    (SeqAt.noMix_of_shape (.list .str) rfl _ _ rfl rfl) (by
      have e : Spec.same (.list [PyData.str y]) (.list [PyData.str y]) = true := by simp [Spec.same, Spec.sameAll]
      rw [e]; exact h)
end Mine

namespace Mine
local macro_rules | `(tactic| walk_at "subscriptTail Name Slice ref ref") => `(tactic| (k_here; (with_reducible show wpAny _ _ (subscriptTail _ (PySem.Expr.Slice (some _) none none _) (Value.ref _) (Value.ref _)) _ _ _); k_dflt (refine' slice_drop (vs := [_, _, _]) (Int.fmod_nonneg_of_pos _ (by decide)) ?F ?N ?l ?z ?_ ?s ?t; (case F => k_asm); (case N => k_asm); (case l => exact News.isList (by k_asm) (by k_mem)); (case z => exact Nat.le_of_ble_eq_true rfl); (case s => with_unfolding_all rfl); (case t => kmk_pure)); intro D' h' F' N' l1; (try k_lt l1)))
local macro_rules | `(tactic| walk_at "call ref") => `(tactic| (k_here; (with_reducible show wpAny _ _ (call (Value.ref 38) [Value.int _ _]) _ _ _); k_dflt (refine' piece_gives _ _ _ _ _ _ _ _ _ _ _ _ _ _ _ _ _ _ _ _ _ ?b1 ?b2 ?b3 ?b4 ?b5 ?b6 True.intro ?b7 ?b8 ?_; (case b1 => k_asm); (case b2 => k_asm); (case b3 => k_asm); (case b4 => k_asm); (case b5 => k_asm); (case b6 => exact rfl); (case b7 => decide); (case b8 => (have := cLine_is; simp only [units_in1, units_deeper, Around.mark_units, units_caller]; omega))); intro v' h' tk' hv' F' N'; (obtain ⟨t9, hv9⟩ := hv'); subst hv9; (try dsimp only)))
local macro_rules | `(tactic| walk_at "call ref") => `(tactic| (k_here; (with_reducible show wpAny _ _ (call (Value.ref 45) [Value.ref _]) _ _ _); k_dflt (refine' head_gives _ _ _ _ ?hs ?hn ?hp _ _ _ _ _ _ _ _ _ _ _ _ _ _ _ _ _ _ ?b1 ?b2 ?b3 ?b4 ?b5 ?b6 ?b0 ?b7 ?b8 ?_; (case hs => assumption); (case hn => assumption); (case hp => assumption); (case b1 => k_asm); (case b2 => k_asm); (case b3 => k_asm); (case b4 => k_asm); (case b5 => k_asm); (case b6 => exact rfl); (case b0 => exact News.isList (by k_asm) (by k_mem)); (case b7 => decide); (case b8 => (have := cLine_is; simp only [units_in1, units_deeper, Around.mark_units, units_caller]; omega))); intro v' h' tk' hv' F' N'; (obtain ⟨t9, hv9⟩ := hv'); subst hv9; (try dsimp only)))
local macro_rules | `(tactic| walk_at "call ref") => `(tactic| (k_here; (with_reducible show wpAny _ _ (call (Value.ref 28) [Value.str _ _]) _ _ _); k_dflt (refine' strip_gives _ _ _ ?hx _ _ _ _ _ _ _ _ _ _ _ _ _ _ _ _ _ _ ?b1 ?b2 ?b3 ?b4 ?b5 ?b6 True.intro ?b7 ?b8 ?_; (case hx => assumption); (case b1 => k_asm); (case b2 => k_asm); (case b3 => k_asm); (case b4 => k_asm); (case b5 => k_asm); (case b6 => exact rfl); (case b7 => decide); (case b8 => (have := cLine_is; simp only [units_in1, units_deeper, Around.mark_units, units_caller]; omega))); intro v' h' tk' hv' F' N'; (obtain ⟨y9, t9, hv9, hT9, hl9⟩ := hv'); subst hv9; (try dsimp only)))
local macro_rules | `(tactic| walk_at "call builtin:str.join") => `(tactic| (k_here; (show wpAny _ _ (call (Value.builtin "str.join") [Value.str _ _, Value.ref _]) _ _ _); k_dflt
  (refine' join_strs ?l ?i ?h3 ?n ?_; (case i => assumption); (case l => exact News.isList (by k_asm) (by k_mem)); (case h3 => exact hp_len (by assumption)); (case n => omega)); intro t' k'))
local macro_rules | `(tactic| walk_at "call ref") => `(tactic| (k_here; (with_reducible show wpAny _ _ (call (Value.ref 52) [Value.str _ _, Value.str _ _]) _ _ _); k_dflt (refine' fits_gives _ _ _ _ _ ?h1 ?h2 ?h3 _ _ _ _ _ _ _ _ _ _ _ _ _ _ _ _ _ _ ?b1 ?b2 ?b3 ?b4 ?b5 ?b6 True.intro ?b7 ?b8 ?_; (case h1 => assumption); (case h2 => assumption); (case h3 => first | assumption | exact of_decide_eq_true (by assumption)); (case b1 => k_asm); (case b2 => k_asm); (case b3 => k_asm); (case b4 => k_asm); (case b5 => k_asm); (case b6 => exact rfl); (case b7 => decide); (case b8 => (have := cLine_is; simp only [units_in1, units_deeper, Around.mark_units, units_caller]; omega))); intro v' h' tk' hv' F' N'; subst hv'; (try dsimp only)))
local macro_rules | `(tactic| walk_at "compareOp NotIn str str") => `(tactic| (k_here; (with_reducible show wpAny _ _ (compareOp CmpOp.NotIn (Value.str (Str.ofString ".") _) (Value.str _ _)) _ _ _); refine notin_dot ?_))
local macro_rules | `(tactic| walk_at "compareOp In str ref") => `(tactic| (k_here; (with_reducible show wpAny _ _ (compareOp CmpOp.In (Value.str _ _) (Value.ref 29)) _ _ _); first | refine in_ops_t (by assumption) (by k_asm) (by k_asm) ?_ | refine in_ops_f (by assumption) (by k_asm) (by k_asm) ?_))
local macro_rules | `(tactic| walk_at "compareOp Eq ref ref") => `(tactic| (k_here; (with_reducible show wpAny _ _ (compareOp CmpOp.Eq (Value.ref _) (Value.ref _)) _ _ _); k_dflt (refine' eq_one ?hy ?ha ?hb ?hu ?_; (case hy => assumption); (case ha => exact News.isList (by k_asm) (by k_mem)); (case hb => exact News.isList (by k_asm) (by k_mem)); (case hu => ke_room))))
set_option maxHeartbeats 4000000 in
theorem law_holds : PySem.Challenge.rw_mq0265_01.Holds := Mine.hd (by
  w_on
  k_go0
  rename List Int => ns
  (all_goals try k_fold)
  repeat' ((fail_if_success (with_reducible show wpAny _ _ (eval (Expr.ListComp _ _ _ _) _) _ _ _)); (first | (k_unfold; (try dsimp only)) | (k_end; wrow_close) | walk1 | (dsimp only; walk1) | fail "no step"))
  k_dflt (refine LCg.ListComp_U (F₀ := by k_asm) (by rfl) (by decide) (by rfl) (by decide) (by rfl) ?_)
  repeat' ((fail_if_success (with_reducible show LCg.CompSrc _ _ _ _ _ _ _ _ _ _ _ _ _ _)); (first | (k_unfold; (try dsimp only)) | (k_end; wrow_close) | walk1 | (dsimp only; walk1) | fail "no step"))
  rename IntsAre _ (List.take _ _) => hI8
  k_dflt (refine LCg.CompSrc.ledger (by rfl) (by k_asm) (by k_asm) (by k_mem) (by rw [List.size_toArray, hI8.length, sizeLine_eq]; omega) ?_)
  intro g1
  k_dflt (refine comp_all (fun i ys => StrsAre ys ((List.take i (List.take 8 ns)).map piece)) ?hS StrsAre.nil ?turn ?fin)
  case hS => exact .inr ⟨_, by k_mem, rfl, _, rfl⟩
  case turn =>
    intro i v I oI C oC D m₂ h tk ys E' hi ha hv hC hx F1 N1
    have hi8 : i < (List.take 8 ns).length := by rw [List.size_toArray, hI8.length] at hi; exact hi
    obtain ⟨t, hv2⟩ := int_item hI8 hi8 hv
    subst hv2
    k_steps
    · exact acc_piece hi8 ha
    · exact ⟨_, _, rfl, by k_asm, by k_asm⟩
  case fin =>
    intro ys hys
    rw [List.size_toArray, hI8.length, List.take_length] at hys
    unfold LCg.FinE
    intro D1 h1 tk1 F1 N1 o1
    k_steps
    k_dflt (refine' add_strs 5 F1 N1 ?ha ?hb ?hv hys ?hz ?_)
    case ha => exact News.isList N1 (by k_mem)
    case hb => exact News.isList N1 (by k_mem)
    case hv => exact strs_drop _ (start_are _ _ _)
    case hz => rw [List.length_drop, List.length_map, List.length_take]; simp only [List.length_cons, List.length_nil]; omega
    intro DP us h2 hus F2 N2 l2
    simp only [List.drop_succ_cons, List.drop_zero] at N2 l2
    have hus' : StrsAre us (pieces ns) := hus
    have hn11 : (pieces ns).length ≤ 11 := pieces_len ns
    have hpok : ∀ x ∈ pieces ns, x ∈ ops ∨ x = ⟨#[10]⟩ := pieces_ok ns
    have hjl : (Txt.join (Str.ofString "") (pieces ns)).length ≤ 1000 := join_len (hp_len hpok) hn11
    clear hus N1 F1 o1 hys hI8
    (try k_lt l2)
    repeat' ((fail_if_success (with_reducible show wpAny _ _ (eval (Expr.ListComp _ _ _ _) _) _ _ _)); (first | (k_unfold; (try dsimp only)) | (k_end; wrow_close) | walk1 | (dsimp only; walk1) | fail "no step"))
    rename Str => y
    have hT : Tail (headP (pieces ns)).cps.toList y.cps.toList := by rw [head_is hpok]; assumption
    have hyl : y.length ≤ 1000 := Nat.le_trans (by assumption) hjl
    have hHl : (headP (pieces ns)).length ≤ 1000 := headP_len hpok hn11
    have hyd : 46 ∉ y.cps.toList := tail_free hT
    k_dflt (refine LCt.ListComp_T (F₀ := by k_asm) (by with_unfolding_all rfl) (by decide) (by rfl) (by decide) (by rfl) ?_)
    repeat' ((fail_if_success (with_reducible show LCt.CompSrcT _ _ _ _ _ _ _ _ _ _ _ _ _ _ _)); (first | (k_unfold; (try dsimp only)) | (k_end; wrow_close) | walk1 | (dsimp only; walk1) | fail "no step"))
    k_dflt (refine LCt.CompSrcT.range (n := y.length + 1) (by rfl) (by k_asm) (by k_asm) (by assumption) ?sm ?rs ?sz ?_)
    case sm => exact small_one (by omega) (by omega) (by omega) (by omega)
    case rs => simp only [Builtin.Range.rangeSize]; split <;> omega
    case sz => rw [sizeLine_eq]; omega
    intro g2
    k_dflt (refine comp_allT (fun i ys => IntsAre ys (if i = 0 then [] else [0])) True.intro IntsAre.nil ?turn ?fin)
    case turn =>
      intro i v I oI C oC D m₂ h tk ys E' hi ha hv hC hx F1 N1
      obtain ⟨t, rfl⟩ := hv
      rw [Int.zero_add] at hx
      have hiy : i ≤ y.length := by omega
      have h1 : (Txt.slice y (some (i : Int)) none).length ≤ 1000 := Nat.le_trans (Txt.slice_le _ _ _) hyl
      have h2 := slice_free hyd hiy
      have hf := fits_slice hT hiy
      k_steps
      · exact acc_true hf (by assumption) ha
      · exact ⟨_, _, rfl, by k_asm, by k_asm⟩
      · exact acc_false hf (by assumption) ha
      · exact ⟨_, _, rfl, by k_asm, by k_asm⟩
    case fin =>
      intro ys hys
      rw [if_neg (Nat.succ_ne_zero _)] at hys
      obtain ⟨t0, rfl⟩ := ints_one hys
      unfold LCg.FinE
      intro D2 h3 tk3 F3 N3 o3
      clear hys
      repeat' ((fail_if_success (with_reducible show wpAny _ _ (exec (Stmt.Assign _ (Expr.ListComp _ _ _ _) _) _) _ _ _)); (first | (k_unfold; (try dsimp only)) | (k_end; wrow_close) | walk1 | (dsimp only; walk1) | fail "no step"))
      rename Frag.In _ _ => kX1
      obtain ⟨kvs, ep, hat, hkv⟩ := dict_at _ kX1
      have hkl : kvs.length = 48 := by rw [← ops_length, ← hkv, List.length_map]
      k_dflt (refine' Assign_ListComp_keys (knd := PySem.strKind PG _) (kvs := kvs) (ep := ep) ?hh rfl ?hsw ?hcl ?hce ?hki ?hna ?hx ?hy ?hp ?lo hat ?sz (by k_asm) (by k_asm) ?h ?R)
      case hh => rfl
      case hsw => with_unfolding_all rfl
      case hcl => with_unfolding_all rfl
      case hce => decide
      case hki => rfl
      case hna => decide
      case hx => rfl
      case hy => rfl
      case hp => rfl
      case lo => decide
      case sz => rw [sizeLine_eq]; omega
      case h =>
        walk1
        exact ⟨rfl, rfl⟩
      case R =>
        intro g3
        k_dflt (refine comp_allT (fun i ys => StrsAre ys ((ops.take i).filter (sel (headP (pieces ns))))) True.intro StrsAre.nil ?turn ?fin)
        case turn =>
          intro i v I oI C oC D m₂ h tk ys E' hi ha hv hC hx F1 N1
          obtain ⟨k, t, hk, rfl⟩ := word_at hkv hv
          have hkl2 : k.length ≤ 1000 := Nat.le_trans (tok_len (List.mem_of_getElem? hk)) (by decide)
          k_steps
          · exact accS_true hk (sel_t (by assumption) (by assumption)) ha
          · exact ⟨_, _, rfl, by k_asm, by k_asm⟩
          · exact accS_false hk (sel_f (by assumption)) ha
          · exact ⟨_, _, rfl, by k_asm, by k_asm⟩
          · exact accS_false hk (sel_d (by assumption)) ha
          · exact ⟨_, _, rfl, by k_asm, by k_asm⟩
        case fin =>
          intro ys hys
          rw [hkl, List.take_of_length_le (by rw [ops_length]; exact Nat.le_refl _)] at hys
          have hys2 : StrsAre ys (if y ∈ ops then [y] else []) := by rw [← tok_filter hT]; exact hys
          clear hys
          unfold LCg.FinA
          intro D5 h5 tk5 F5 N5 o5
          by_cases hyo : y ∈ ops
          · rw [if_pos hyo] at hys2
            obtain ⟨t5, rfl⟩ := strs_one hys2
            clear hys2
            k_steps
          · rw [if_neg hyo] at hys2
            have e5 := strs_none hys2
            subst e5
            clear hys2
            k_steps)
end Mine

theorem PySem.Challenge.cw_mq0265_01_holds : PySem.Challenge.rw_mq0265_01.Holds := by
  exact Mine.law_holds
