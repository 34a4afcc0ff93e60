import PyProof.Rows.All
import Wide.All
import OpenK.AllK
import Wide.FinOn
import PySem.Challenge.RW_aa6010_01
set_option Elab.async false

section
open PySem PySem.W PyProof.Rows
set_option maxRecDepth 100000
set_option maxHeartbeats 8000000
namespace Mine
open_top hd for PySem.Challenge.rw_aa6010_01
end Mine
end

section
open PySem PySem.W PySem.Calls PySem.Spec PyProof.Rows
set_option maxRecDepth 100000
namespace Mine

/-- the end of a called def's body: its frame stands over the caller's heap, and what was asked of the result -/
def LeaveP (g : Heap) (R : Result → Shared → Prop) (v : Value) (s' : Shared) : Prop :=
  ∃ L' m', Fr g L' s'.heap m' ∧ R (.ok (.ret v)) s'

section
variable {prog : Program} {w : World} {A A₀ : Around} {s : Shared} {K : Frag} {L : Addr} {h₀ base : Heap} {m mg mb : Str → Option Value} {p : Program} {loose : List Str} {mean : ExcName → Option Value}

theorem code_pure {env : Env} {outer : List Env} {R : Result → Shared → Prop} {name qual : Str} {params : Arguments} {body : List Stmt} {scope : Scope} {dV kV doc pm cdv ct oc : Value} {an od : Option Addr} {osl : Array (Option Value)} {f : Addr} {args : Args} {binds : List (Str × Value)}
    (B : Below A₀ base outer h₀) (F : Fr h₀ L s.heap m) (X₀ : K.In h₀) (T : Top p loose mean mg mb h₀) (hA : A.frames = some (env :: outer)) (hf : env.frame = some L) (hke : env.scope.kind = .function)
    (ho : K.lookup f = some ⟨oc, od, .func (fnOf name qual params body scope dV kV doc pm an cdv ct), osl⟩) (hcd : codeIn K cdv qual = true) (hroom : A.depth < recursionLimit)
    (hbind : BindsTo s (fnOf name qual params body scope dV kV doc pm an cdv ct) args binds) (hloc : ∀ y ∈ binds, scope.names.lookup y.1 = some .local)
    (h : ∀ L' h₁, Fr s.heap L' h₁ (fun y => binds.reverse.lookup y) → News s.heap L' h₁ [] → Below A base (env :: outer) s.heap → K.In s.heap → Top p loose mean mg mb s.heap →
      wpAny (model prog w) (A.deeper (envOf qual scope L' f cdv)) (execs body (envOf qual scope L' f cdv))
        (fun fl s' => LeaveP s.heap R (match fl with | .ret v => v | _ => .none) s')
        (fun e s' => wpAny (model prog w) (A.deeper (envOf qual scope L' f cdv)) (leaving (envOf qual scope L' f cdv) e) (fun _ s'' => R (.error e) s'') (fun e' s'' => R (.error e') s'') s')
        { s with heap := h₁, toks := s.toks + binds.length })
    (hco : scope.isCoroutine = false) (hgen : scope.isGenerator = false) (hk : scope.kind = .function)
    (hcell : ∀ x ∈ scope.names, x.2 ≠ .cell) : codeAny (model prog w) A (.call (.ref f) args) R s := by
  obtain ⟨_, BG, st, _⟩ := groundX (R := R) (news := []) B F News.nil hA hf hke
  have X := X₀.keeps F.keep
  refine codeAny_call_def (fd := fnOf name qual params body scope dV kV doc pm an cdv ct) (body := body) (binds := binds) hroom (X _ _ ho) rfl (T.nolimit.keeps F.keep) (codeRec_of X hcd) rfl hbind hcell hloc (fun h₁ hns hk₁ => ?_) hco hgen hk
  refine wpAny_mono (h s.heap.objs.size h₁ ⟨hns, fun b o e => hk₁ b o e, Nat.le_refl _⟩ News.nil BG X (T.keeps st)) (fun fl s' hl => ?_) fun _ _ y => y
  obtain ⟨_, _, _, hR⟩ := hl
  exact hR
end

def OkH (Ok : Heap → Value → Heap → Prop) (h : Heap) (r : Value) (h' : Heap) : Prop := Ok h r h'
/-- what a call of the def at f gives back, for its arguments vs, in any heap: nothing that stood is changed, and Ok (the heap ahead, the result, the heap behind) -/
def Tells (w : World) (mean : ExcName → Option Value) (mg mb : Str → Option Value) (d : Nat) (f : Addr) (vs : List Value) (Ok : Heap → Value → Heap → Prop) : Prop :=
  ∀ (dp un : Nat) (gd : Option (List Code)) (cn : Str) (cs : Scope) (a : Addr) (ccd : Value) (cl : List (Str × Addr)) (outer : List Env) (A₀ : Around) (base h₀ : Heap) (L : Addr) (m : Str → Option Value) (s : Shared) (Q E : Value → Shared → Prop),
    Below A₀ base outer h₀ → Fr h₀ L s.heap m → (hd.heap_39 w.params).In h₀ → Top hd.view_39 (looseW hd.view_39 []) mean mg mb h₀ → cs.kind = .function → dp + d < recursionLimit → un + 8 * d < cLine →
    (∀ r h' tk', s.heap.StaysIn h' → OkH Ok s.heap r h' → Q r { s with heap := h', toks := tk' }) →
    wpAny (model PySem.Challenge.rw_aa6010_01.row.prog w) (ktrTop dp un gd cn cs L a ccd cl outer) (call (.ref f) vs) Q E s

theorem leaveP {s : Shared} {Q E : Value → Shared → Prop} {Ok : Heap → Value → Heap → Prop} {L' : Addr} {h' : Heap} {m' : Str → Option Value} {tk' : Nat} {v : Value}
    (hret : ∀ r h' tk', s.heap.StaysIn h' → OkH Ok s.heap r h' → Q r { s with heap := h', toks := tk' }) (F : Fr s.heap L' h' m') (ok : Ok s.heap v h') :
    LeaveP s.heap (fun r s' => match r with | .ok (.ret v) => Q v s' | .ok _ => False | .error e => E e s') v { s with heap := h', toks := tk' } :=
  ⟨L', m', F, hret v h' tk' F.keep ok⟩

theorem news_stays {h₀ h h' : Heap} {L : Addr} {news : List (Addr × Obj)} (N : News h₀ L h news) (st : h.StaysIn h') : News h₀ L h' news :=
  fun q hq => ⟨st _ _ (N q hq).1, (N q hq).2⟩
theorem fr_stays {h₀ h h' : Heap} {L : Addr} {m : Str → Option Value} (F : Fr h₀ L h m) (st : h.StaysIn h') : Fr h₀ L h' m := by
  obtain ⟨⟨oL, es, ep, hL, r⟩, k, ab⟩ := F
  exact ⟨⟨oL, es, ep, st _ _ hL, r⟩, fun b o e => st _ _ (k b o e), ab⟩

theorem tells_use {w : World} {mean : ExcName → Option Value} {mg mb : Str → Option Value} {d : Nat} {f : Addr} {vs : List Value} {Ok : Heap → Value → Heap → Prop} {dp un : Nat} {gd : Option (List Code)} {cn : Str} {cs : Scope} {a : Addr} {ccd : Value} {cl : List (Str × Addr)} {outer : List Env} {A₀ : Around} {base h₀ : Heap} {L : Addr} {m : Str → Option Value} {news : List (Addr × Obj)} {s : Shared} {Q E : Value → Shared → Prop}
    (C : Tells w mean mg mb d f vs Ok) (B : Below A₀ base outer h₀) (F : Fr h₀ L s.heap m) (X : (hd.heap_39 w.params).In h₀) (N : News h₀ L s.heap news) (T : Top hd.view_39 (looseW hd.view_39 []) mean mg mb h₀) (hk : cs.kind = .function) (hdp : dp + d < recursionLimit) (hu : un + 8 * d < cLine)
    (ret : ∀ r h' tk', Fr h₀ L h' m → News h₀ L h' news → Ok s.heap r h' → Q r { s with heap := h', toks := tk' }) :
    wpAny (model PySem.Challenge.rw_aa6010_01.row.prog w) (ktrTop dp un gd cn cs L a ccd cl outer) (call (.ref f) vs) Q E s :=
  C _ _ _ _ _ _ _ _ _ _ _ _ _ _ _ _ _ B F X T hk hdp hu fun r h' tk' st ok => ret r h' tk' (fr_stays F st) (news_stays N st) ok

theorem my_item {prog : Program} {w : World} {A : Around} {E : Value → Shared → Prop} {s : Shared} {value slice : Expr} {x : Str} {t : Tok} {i : Int} {u : Tok} {Q : Value → Shared → Prop}
    (h0 : 0 ≤ i) (h1 : i < x.length) (hb : x.length < 4611686018427387904) (h : ∀ c k u', x.cps.toList[i.toNat]? = some c → Q (.str ⟨#[c]⟩ u') { s with toks := k })
    (hs : subscripted slice false (.str x t) (.int i u) = operate [.str x t, .int i u] (getItem (.str x t) (.int i u)) := by with_unfolding_all rfl)
    (ht : ∀ r, letTemporaryGo value (.str x t) r = pure () := by intro _; with_unfolding_all rfl) :
    wpAny (model prog w) A (subscriptTail value slice (.str x t) (.int i u)) Q E s := by
  refine item_str (fitsSsize_of (N := 9223372036854775808) (by omega) (by omega) (Int.le_refl _)) (by omega) h1 (fun hl => ?_) hs ht
  have hlt : i.toNat < x.cps.toList.length := by rw [Array.length_toList]; show i.toNat < x.length; omega
  have e : Txt.item x i = ⟨#[x.cps.toList[i.toNat]]⟩ := by
    have hlt' : i.toNat < x.cps.size := by rw [← Array.length_toList]; exact hlt
    have e2 : Txt.charAt x i = some x.cps[i.toNat] := by
      have q : seqIndex? i x.length = some i.toNat := by
        unfold seqIndex?
        have a : ¬ i < 0 := by omega
        have b : (decide (0 ≤ i) && decide (i < (x.length : Int))) = true := by simp [h0, h1]
        simp only [if_neg a, b, if_true]
      unfold Txt.charAt
      rw [q]
      exact Array.getElem?_eq_getElem hlt'
    unfold Txt.item
    rw [e2, Array.getElem_toList]
    rfl
  rw [e]
  exact h _ _ _ (List.getElem?_eq_getElem hlt)
def pairOf (v1 v2 : Value) (h : Heap) (r : Value) (h' : Heap) : Prop :=
  ∃ D c, r = .ref D ∧ h.get? D = none ∧ h'.get? D = some ({ cls := .type "tuple", data := .seq #[v1, v2] c } : Obj)
def tripleOf (v1 v2 v3 : Value) (h : Heap) (r : Value) (h' : Heap) : Prop :=
  ∃ D c, r = .ref D ∧ h.get? D = none ∧ h'.get? D = some ({ cls := .type "tuple", data := .seq #[v1, v2, v3] c } : Obj)
theorem fd3 (n : Int) : n.fdiv 3 = n / 3 := Int.fdiv_eq_ediv_of_nonneg n (by decide)
theorem fd5 (n : Int) : n.fdiv 5 = n / 5 := Int.fdiv_eq_ediv_of_nonneg n (by decide)
theorem fd7 (n : Int) : n.fdiv 7 = n / 7 := Int.fdiv_eq_ediv_of_nonneg n (by decide)
theorem fd9 (n : Int) : n.fdiv 9 = n / 9 := Int.fdiv_eq_ediv_of_nonneg n (by decide)
theorem fd11 (n : Int) : n.fdiv 11 = n / 11 := Int.fdiv_eq_ediv_of_nonneg n (by decide)
theorem fd13 (n : Int) : n.fdiv 13 = n / 13 := Int.fdiv_eq_ediv_of_nonneg n (by decide)
/-- the walk stops here -/
def StopP (P : Prop) : Prop := P
theorem stopP {P : Prop} (h : StopP P) : P := h
theorem news_all {h₀ h h' : Heap} {L : Addr} {m : Str → Option Value} {news : List (Addr × Obj)} (F : Fr h₀ L h m) (hp : ∀ p ∈ news, h'.get? p.1 = some p.2 ∧ h.get? p.1 = none) : News h₀ L h' news := by
  intro p hm
  obtain ⟨h1, h0⟩ := hp p hm
  refine ⟨h1, fun e => ?_, ?_⟩
  · obtain ⟨oL, _, _, hL, _⟩ := F.ns
    rw [e, hL] at h0
    cases h0
  · cases hq : h₀.get? p.1 with
    | none => rfl
    | some o' =>
      rw [F.keep _ o' hq] at h0
      cases h0
theorem news_pair {h₀ h h' : Heap} {L D : Addr} {m : Str → Option Value} {news : List (Addr × Obj)} {o : Obj} (F : Fr h₀ L h m) (N : News h₀ L h' news) (h0 : h.get? D = none) (h1 : h'.get? D = some o) : News h₀ L h' ((D, o) :: news) := by
  intro p hp
  rcases List.mem_cons.mp hp with rfl | hp
  · refine ⟨h1, fun e => ?_, ?_⟩
    · obtain ⟨oL, _, _, hL, _⟩ := F.ns
      have e : D = L := e
      rw [e, hL] at h0
      cases h0
    · cases hq : h₀.get? D with
      | none => rfl
      | some o' =>
        rw [F.keep D o' hq] at h0
        cases h0
  · exact N p hp
theorem text_pos {x : Str} (h : (x == Str.ofString "") = false) : 0 < (x.length : Int) := by
  rcases Nat.eq_zero_or_pos x.length with e | e
  · obtain ⟨a⟩ := x
    have e : a.size = 0 := e
    obtain rfl : a = #[] := Array.eq_empty_of_size_eq_zero e
    have : ((⟨#[]⟩ : Str) == Str.ofString "") = true := by decide +kernel
    rw [this] at h
    cases h
  · omega
theorem int_ok {a b : Int} {t : Tok} (e : a = b) : ∃ u, Value.int a t = .int b u := ⟨t, by rw [e]⟩
theorem bool_ok {a b : Bool} (e : a = b) : Value.bool a = .bool b := by rw [e]
end Mine
end

section
open PySem PySem.W PySem.Calls PySem.Spec PyProof.Rows
set_option maxRecDepth 100000
namespace Mine

set_option maxHeartbeats 4000000 in
theorem step_tells (w : World) (mean : ExcName → Option Value) (mg mb : Str → Option Value) (x : Int) (t : Tok) (h0 : 0 ≤ x) (h1 : x < 2147483648) :
    Tells w mean mg mb 1 35 [.int x t] (fun _ r _ => ∃ u n, r = .int n u ∧ 0 ≤ n ∧ n < 2147483648 ∧ n = (x * 1103515245 + 12345) % 2147483648) := by
  k_with_none; unfold Tells; k_fill
  intro dp un gd cn csc a ccd cl outer A₀ base h₀ L m s Q E B F X T hk hdp hu hret
  refine wpAny_call ?_
  k_dflt (refine' code_pure (binds := [(Str.ofString "x", .int x t)]) ?k1 ?k2 ?k3 ?k5 ?kA ?kF ?kK ?k6 ?k7 ?k8 ?k9 ?kB ?_ ?c2 ?c3 ?c4 ?c5; (case kA => exact rfl); (case kF => exact rfl); (case kK => assumption); (case k1 => k_asm); (case k2 => k_asm); (case k3 => k_asm); (case k5 => k_asm); (case k6 => k_is); (case k7 => k_is); (case k8 => ktr_room); (case k9 => exact BindsTo.of_eq rfl); (case c5 => decide); (case kB => exact locs rfl); (case c2 => exact rfl); (case c3 => exact rfl); (case c4 => exact rfl); k_whole)
  intro L' h' F' N' B' X' T'
  dsimp only [List.reverse, List.reverseAux] at F'
  (try dsimp only); (try k_fold)
  clear B F X T hk
  k_steps
  all_goals (dsimp only)
  all_goals (refine leaveP hret (by assumption) ⟨_, _, rfl, ?_⟩)
  rw [Int.fmod_eq_emod_of_nonneg _ (by decide)]
  omega

set_option maxHeartbeats 4000000 in
theorem pick_tells (w : World) (mean : ExcName → Option Value) (mg mb : Str → Option Value) (x k : Int) (t u : Tok) (h0 : 0 ≤ x) (h1 : x < 2147483648) (h2 : 0 < k) (h3 : k < 1073741824) :
    Tells w mean mg mb 1 42 [.int x t, .int k u] (fun _ r _ => ∃ u n, r = .int n u ∧ 0 ≤ n ∧ n < k ∧ n = (x / 4096) % k) := by
  k_with_none; unfold Tells; k_fill
  intro dp un gd cn csc a ccd cl outer A₀ base h₀ L m s Q E B F X T hk hdp hu hret
  refine wpAny_call ?_
  k_dflt (refine' code_pure (binds := [(Str.ofString "x", .int x t), (Str.ofString "k", .int k u)]) ?k1 ?k2 ?k3 ?k5 ?kA ?kF ?kK ?k6 ?k7 ?k8 ?k9 ?kB ?_ ?c2 ?c3 ?c4 ?c5; (case kA => exact rfl); (case kF => exact rfl); (case kK => assumption); (case k1 => k_asm); (case k2 => k_asm); (case k3 => k_asm); (case k5 => k_asm); (case k6 => k_is); (case k7 => k_is); (case k8 => ktr_room); (case k9 => exact BindsTo.of_eq rfl); (case c5 => decide); (case kB => exact locs rfl); (case c2 => exact rfl); (case c3 => exact rfl); (case c4 => exact rfl); k_whole)
  intro L' h' F' N' B' X' T'
  dsimp only [List.reverse, List.reverseAux] at F'
  (try dsimp only); (try k_fold)
  clear B F X T hk
  k_steps
  all_goals (dsimp only)
  all_goals (refine leaveP hret (by assumption) ⟨_, _, rfl, ?_⟩)
  rw [Int.fmod_eq_emod_of_nonneg _ (by omega)]
  have e : (2 : Int) ^ Int.toNat 12 = 4096 := by decide
  rw [e, Int.fdiv_eq_ediv_of_nonneg _ (by decide)]
  exact ⟨Int.emod_nonneg _ (by omega), Int.emod_lt_of_pos _ h2, rfl⟩
end Mine
end

section
open PySem PySem.W PySem.Calls PySem.Spec PyProof.Rows
set_option maxRecDepth 100000
namespace Mine
local macro_rules | `(tactic| walk_at "call ref") => `(tactic| (k_here; k_dflt (refine' tells_use (step_tells _ _ _ _ _ _ ?c1 ?c2) ?k1 ?k2 ?k3 ?k4 ?k5 ?kK ?kd ?ku ?_; (case k1 => k_asm); (case k2 => k_asm); (case k3 => k_asm); (case k4 => k_asm); (case k5 => k_asm); (case kK => first | exact rfl | assumption); (case kd => ktr_room); (case ku => ktr_units); (case c1 => first | with_reducible assumption | omega | decide | exact text_pos (by assumption) | (simp only [fd3, fd5, fd7, fd9, fd11, fd13]; omega) | (simp only [Str.length_append] at *; omega)); (case c2 => first | with_reducible assumption | omega | decide | exact text_pos (by assumption) | (simp only [fd3, fd5, fd7, fd9, fd11, fd13]; omega) | (simp only [Str.length_append] at *; omega)); k_whole); intro r9 h9 tk9 F9 N9 ok9; k_dflt (obtain ⟨u9, n9, e9, a9, b9, -⟩ := ok9); subst e9; (try dsimp only); (try k_sweep); walk_say "CONTRACT step"))
local macro_rules | `(tactic| walk_at "call ref") => `(tactic| (k_here; k_dflt (refine' tells_use (pick_tells _ _ _ _ _ _ _ _ ?c1 ?c2 ?c3 ?c4) ?k1 ?k2 ?k3 ?k4 ?k5 ?kK ?kd ?ku ?_; (case k1 => k_asm); (case k2 => k_asm); (case k3 => k_asm); (case k4 => k_asm); (case k5 => k_asm); (case kK => first | exact rfl | assumption); (case kd => ktr_room); (case ku => ktr_units); (case c1 => first | with_reducible assumption | omega | decide | exact text_pos (by assumption) | (simp only [fd3, fd5, fd7, fd9, fd11, fd13]; omega) | (simp only [Str.length_append] at *; omega)); (case c2 => first | with_reducible assumption | omega | decide | exact text_pos (by assumption) | (simp only [fd3, fd5, fd7, fd9, fd11, fd13]; omega) | (simp only [Str.length_append] at *; omega)); (case c3 => first | with_reducible assumption | omega | decide | exact text_pos (by assumption) | (simp only [fd3, fd5, fd7, fd9, fd11, fd13]; omega) | (simp only [Str.length_append] at *; omega)); (case c4 => first | with_reducible assumption | omega | decide | exact text_pos (by assumption) | (simp only [fd3, fd5, fd7, fd9, fd11, fd13]; omega) | (simp only [Str.length_append] at *; omega)); k_whole); intro r9 h9 tk9 F9 N9 ok9; k_dflt (obtain ⟨u9, n9, e9, a9, b9, -⟩ := ok9); subst e9; (try dsimp only); (try k_sweep); walk_say "CONTRACT pick"))
local macro_rules | `(tactic| walk_at "subscriptTail") => `(tactic| (k_here; (with_reducible show wpAny _ _ (subscriptTail _ _ (Value.str _ _) (Value.int _ _)) _ _ _); (refine my_item (by omega) (by omega) (by omega) ?_); intro c9 k9 u9 e9; (try dsimp only); walk_say "MY ITEM"))
local macro_rules | `(tactic| walk_at "subscriptTail Name Name str int") => `(tactic| (k_here; (with_reducible show wpAny _ _ (subscriptTail _ _ (Value.str _ _) (Value.int _ _)) _ _ _); (refine my_item (by omega) (by omega) (by omega) ?_); intro c9 k9 u9 e9; (try dsimp only); walk_say "MY ITEM"))
local macro_rules | `(tactic| walk_at "subscriptTail Name Call str int") => `(tactic| (k_here; (with_reducible show wpAny _ _ (subscriptTail _ _ (Value.str _ _) (Value.int _ _)) _ _ _); (refine my_item (by omega) (by omega) (by omega) ?_); intro c9 k9 u9 e9; (try dsimp only); walk_say "MY ITEM"))
local macro_rules | `(tactic| walk_at "InvEndN") => `(tactic| k_dflt kst_close)

set_option maxHeartbeats 4000000 in
theorem word_tells (w : World) (mean : ExcName → Option Value) (mg mb : Str → Option Value) (x size : Int) (signs : Str) (t t2 t3 : Tok) (h0 : 0 ≤ x) (h1 : x < 2147483648)
   (hs0 : 0 ≤ size) (hs1 : size ≤ 16) (hg0 : 0 < signs.length) (hg1 : signs.length ≤ 8) :
    Tells w mean mg mb 3 49 [.int x t, .int size t2, .str signs t3] (fun h r h' => ∃ (word : Str) (x' : Int) (u1 u2 : Tok), (word.length : Int) = size ∧ 0 ≤ x' ∧ x' < 2147483648 ∧ pairOf (.str word u1) (.int x' u2) h r h') := by
  k_with_none; unfold Tells; k_fill
  intro dp un gd cn csc a ccd cl outer A₀ base h₀ L m s Q E B F X T hk hdp hu hret
  refine wpAny_call ?_
  k_dflt (refine' code_pure (binds := [(Str.ofString "x", .int x t), (Str.ofString "size", .int size t2), (Str.ofString "signs", .str signs t3)]) ?k1 ?k2 ?k3 ?k5 ?kA ?kF ?kK ?k6 ?k7 ?k8 ?k9 ?kB ?_ ?c2 ?c3 ?c4 ?c5; (case kA => exact rfl); (case kF => exact rfl); (case kK => assumption); (case k1 => k_asm); (case k2 => k_asm); (case k3 => k_asm); (case k5 => k_asm); (case k6 => k_is); (case k7 => k_is); (case k8 => ktr_room); (case k9 => exact BindsTo.of_eq rfl); (case c5 => decide); (case kB => exact locs rfl); (case c2 => exact rfl); (case c3 => exact rfl); (case c4 => exact rfl); k_whole)
  intro L' h' F' N' B' X' T'
  dsimp only [List.reverse, List.reverseAux] at F'
  (try dsimp only); (try k_fold)
  clear B F X T hk
  k_with "pyIter ref" => k_state (fun pre word x => word.length = pre.length ∧ 0 ≤ x ∧ x < 2147483648) "word" "x"
  k_steps
  all_goals try (k_unfold; dsimp only)
  rename News _ _ _ _ => hN
  rename Fr _ _ _ _ => hF
  obtain ⟨hg1, _, hg2⟩ := hN _ (List.Mem.head _)
  refine leaveP hret hF ⟨_, _, _, _, ?_, ?_, ?_, _, _, rfl, hg2, hg1⟩
  · simp only [rangeKs_length] at *; omega
  · assumption
  · assumption
end Mine
end

section
set_option maxRecDepth 100000
namespace Mine
/-- the law's step, on natural numbers -/
def stp (x : Nat) : Nat := (x * 1103515245 + 12345) % 2147483648
/-- _law_cut makes a star of this state and does not go on in the name -/
def stall (x : Nat) : Bool := (x / 4096) % 3 == 0 && (x / 7 / 4096) % 4 == 0
def itf (f : Nat → Nat) : Nat → Nat → Nat
  | 0, x => x
  | n + 1, x => itf f n (f x)
theorem itf_add (f : Nat → Nat) (a b : Nat) : ∀ x, itf f (a + b) x = itf f b (itf f a x) := by
  induction a with
  | zero => intro x; rw [Nat.zero_add]; rfl
  | succ a ih => intro x; rw [Nat.succ_add]; exact ih (f x)
theorem itf_lt {f : Nat → Nat} {m : Nat} (hf : ∀ x, f x < m) {n : Nat} : ∀ {x : Nat}, x < m → itf f n x < m := by
  induction n with
  | zero => intro x h; exact h
  | succ n ih => intro x _; exact ih (hf x)
def it (n x : Nat) : Nat := itf stp n x
theorem it_add (a b x : Nat) : it (a + b) x = it b (it a x) := itf_add stp a b x
theorem stp_lt (x : Nat) : stp x < 2147483648 := Nat.mod_lt _ (by decide)
theorem it_lt {n x : Nat} (h : x < 2147483648) : it n x < 2147483648 := itf_lt stp_lt h
def Aff (n A C : Nat) : Prop := ∀ x, x < 2147483648 → it n x = (x * A + C) % 2147483648
theorem itf_one (f : Nat → Nat) (x : Nat) : itf f 1 x = f x := rfl
theorem stp_eq (x : Nat) : stp x = (x * 1103515245 + 12345) % 2147483648 := rfl
theorem aff_one : Aff 1 1103515245 12345 := fun x _ => (itf_one stp x).trans (stp_eq x)
theorem aff_add {n k A B C D A' C' : Nat} (h1 : Aff n A C) (h2 : Aff k B D) (hA : A * B % 2147483648 = A') (hC : (C * B + D) % 2147483648 = C') : Aff (n + k) A' C' := by
  intro x hx
  rw [it_add, h2 _ (it_lt hx), h1 x hx, ← hA, ← hC]
  have e : (x * A + C) * B + D = x * (A * B) + (C * B + D) := by rw [Nat.add_mul, Nat.mul_assoc, Nat.add_assoc]
  have l : ((x * A + C) % 2147483648 * B + D) % 2147483648 = ((x * A + C) * B + D) % 2147483648 := by
    rw [Nat.add_mod, Nat.mul_mod, Nat.mod_mod, ← Nat.mul_mod, ← Nat.add_mod]
  have r : (x * (A * B % 2147483648) + (C * B + D) % 2147483648) % 2147483648 = (x * (A * B) + (C * B + D)) % 2147483648 := by
    rw [Nat.add_mod, Nat.mod_mod, Nat.mul_mod x, Nat.mod_mod, ← Nat.mul_mod, ← Nat.add_mod]
  rw [l, r, e]
theorem aff_p1 : Aff 2 1117952617 1406932606 := aff_add (n := 1) (k := 1) aff_one aff_one (by decide +kernel) (by decide +kernel)
theorem aff_p2 : Aff 4 1845919505 1449466924 := aff_add (n := 2) (k := 2) aff_p1 aff_p1 (by decide +kernel) (by decide +kernel)
theorem aff_p3 : Aff 8 1339940641 1293799192 := aff_add (n := 4) (k := 4) aff_p2 aff_p2 (by decide +kernel) (by decide +kernel)
theorem aff_p4 : Aff 16 1601471041 1695770928 := aff_add (n := 8) (k := 8) aff_p3 aff_p3 (by decide +kernel) (by decide +kernel)
theorem aff_p5 : Aff 32 187569281 1680572000 := aff_add (n := 16) (k := 16) aff_p4 aff_p4 (by decide +kernel) (by decide +kernel)
theorem aff_p6 : Aff 64 1979738369 422948032 := aff_add (n := 32) (k := 32) aff_p5 aff_p5 (by decide +kernel) (by decide +kernel)
theorem aff_p7 : Aff 128 387043841 910563712 := aff_add (n := 64) (k := 64) aff_p6 aff_p6 (by decide +kernel) (by decide +kernel)
theorem aff_p8 : Aff 256 1046979585 519516928 := aff_add (n := 128) (k := 128) aff_p7 aff_p7 (by decide +kernel) (by decide +kernel)
theorem aff_p9 : Aff 512 1574914049 530212352 := aff_add (n := 256) (k := 256) aff_p8 aff_p8 (by decide +kernel) (by decide +kernel)
theorem aff_p10 : Aff 1024 1073647617 98880512 := aff_add (n := 512) (k := 512) aff_p9 aff_p9 (by decide +kernel) (by decide +kernel)
theorem aff_p11 : Aff 2048 285024257 646551552 := aff_add (n := 1024) (k := 1024) aff_p10 aff_p10 (by decide +kernel) (by decide +kernel)
theorem aff_p12 : Aff 4096 1710899201 940781568 := aff_add (n := 2048) (k := 2048) aff_p11 aff_p11 (by decide +kernel) (by decide +kernel)
theorem aff_p13 : Aff 8192 1542750209 472276992 := aff_add (n := 4096) (k := 4096) aff_p12 aff_p12 (by decide +kernel) (by decide +kernel)
theorem aff_p14 : Aff 16384 2011758593 1749860352 := aff_add (n := 8192) (k := 8192) aff_p13 aff_p13 (by decide +kernel) (by decide +kernel)
theorem aff_p15 : Aff 32768 1876033537 278495232 := aff_add (n := 16384) (k := 16384) aff_p14 aff_p14 (by decide +kernel) (by decide +kernel)
theorem aff_p16 : Aff 65536 1604583425 556990464 := aff_add (n := 32768) (k := 32768) aff_p15 aff_p15 (by decide +kernel) (by decide +kernel)
theorem aff_p17 : Aff 131072 1061683201 1113980928 := aff_add (n := 65536) (k := 65536) aff_p16 aff_p16 (by decide +kernel) (by decide +kernel)
theorem aff_14_3 : Aff 49152 1740308481 2028355584 := aff_add (n := 32768) (k := 16384) aff_p15 aff_p14 (by decide +kernel) (by decide +kernel)
theorem aff_17_2 : Aff 262144 2123366401 80478208 := aff_add (n := 131072) (k := 131072) aff_p17 aff_p17 (by decide +kernel) (by decide +kernel)
theorem aff_17_3 : Aff 393216 1037565953 1194459136 := aff_add (n := 262144) (k := 131072) aff_17_2 aff_p17 (by decide +kernel) (by decide +kernel)

/-- a jump by e in units of 4096 cannot lead from a state at rest to a state at rest -/
def okE (e : Nat) : Bool := (e % 3 != 0 || (7 ≤ e % 28 && e % 28 ≤ 21)) && (e % 3 != 2 || (7 ≤ (e + 12) % 28 && (e + 12) % 28 ≤ 21))
def hop (r D C : Nat) : Nat := (r * D + C) % 2147483648
def okH (r D C : Nat) : Bool := hop r D C % 4096 == 0 && okE (hop r D C / 4096)
theorem jump {n D C R : Nat} (h : Aff n (D + 1) C) (hR : R * D % 2147483648 = 0) {x : Nat} (hx : x < 2147483648) : it n x = (x + hop (x % R) D C) % 2147483648 := by
  rw [h x hx]
  have e : x * (D + 1) + C = x + (x % R * D + C) + 2147483648 * (x / R * (R * D / 2147483648)) := by
    have e1 : R * D = 2147483648 * (R * D / 2147483648) := by
      have := Nat.div_add_mod (R * D) 2147483648
      omega
    have e2 : x * D = x % R * D + x / R * (R * D) := by
      conv => lhs; rw [← Nat.div_add_mod x R]
      rw [Nat.add_mul, Nat.mul_comm R (x / R), Nat.mul_assoc, Nat.add_comm]
    have e3 : 2147483648 * (x / R * (R * D / 2147483648)) = x / R * (R * D) := by
      rw [Nat.mul_left_comm, ← e1]
    rw [e3, Nat.mul_add, Nat.mul_one, e2]
    omega
  rw [e, Nat.add_mul_mod_self_left, hop, Nat.add_mod_mod]
theorem stall_iff (x : Nat) : stall x = true ↔ (x / 4096) % 3 = 0 ∧ (x / 4096 / 7) % 4 = 0 := by
  have e : x / 7 / 4096 = x / 4096 / 7 := by rw [Nat.div_div_eq_div_mul, Nat.div_div_eq_div_mul]
  simp [stall, e]
theorem seven {z : Nat} (h : z / 7 % 4 = 0) : z % 28 < 7 := by omega
theorem wrapped {y e : Nat} (hy : y < 524288) (he : e < 524288) (hw : ¬ y + e < 524288) : (y + e) % 524288 = y + e - 524288 := by omega
theorem wrapped28 {y e : Nat} (hw : ¬ y + e < 524288) : (y + e - 524288) % 28 = (y + (e + 12)) % 28 := by omega
theorem m3a {y e : Nat} (h1 : y % 3 = 0) (h3 : (y + e) % 3 = 0) : e % 3 = 0 := by omega
theorem m3b {y e : Nat} (hw : ¬ y + e < 524288) (h1 : y % 3 = 0) (h3 : (y + e - 524288) % 3 = 0) : e % 3 = 2 := by omega
theorem m28 {p q : Nat} (h1 : p < 7) (h2 : 7 ≤ q) (h3 : q ≤ 21) (h4 : (p + q) % 28 < 7) : False := by omega
theorem clash {y e : Nat} (hy : y < 524288) (he : e < 524288) (ok : okE e = true) (h1 : y % 3 = 0) (h2 : y / 7 % 4 = 0) (h3 : (y + e) % 524288 % 3 = 0) (h4 : (y + e) % 524288 / 7 % 4 = 0) : False := by
  simp only [okE, Bool.and_eq_true, Bool.or_eq_true, decide_eq_true_eq, bne_iff_ne, ne_eq] at ok
  have q1 : y % 28 < 7 := seven h2
  have q2 : (y + e) % 524288 % 28 < 7 := seven h4
  clear h2 h4
  by_cases hw : y + e < 524288
  · rw [Nat.mod_eq_of_lt hw] at h3 q2
    rw [Nat.add_mod] at q2
    rcases ok.1 with a | a
    · exact a (m3a h1 h3)
    · exact m28 q1 a.1 a.2 q2
  · have e1 := wrapped hy he hw
    rw [e1] at h3 q2
    have e2 := wrapped28 (y := y) (e := e) hw
    rw [e2, Nat.add_mod] at q2
    rcases ok.2 with a | a
    · exact a (m3b hw h1 h3)
    · exact m28 q1 a.1 a.2 q2
theorem div_lt_of {x : Nat} (h : x < 2147483648) : x / 4096 < 524288 := by omega
theorem div_hop {x t : Nat} (h : t % 4096 = 0) : (x + t) % 2147483648 / 4096 = (x / 4096 + t / 4096) % 524288 := by
  have e : t = 4096 * (t / 4096) := by omega
  have e2 : (x + t) / 4096 = x / 4096 + t / 4096 := by
    conv => lhs; rw [e]
    exact Nat.add_mul_div_left _ _ (by decide)
  have e3 : (x + t) % (4096 * 524288) / 4096 = (x + t) / 4096 % 524288 := Nat.mod_mul_right_div_self _ _ _
  rw [← e2]
  exact e3
theorem hop_clash {n D C R : Nat} (h : Aff n (D + 1) C) (hR : R * D % 2147483648 = 0) {x : Nat} (hx : x < 2147483648) (ok : okH (x % R) D C = true) (hs : stall x = true) : stall (it n x) = false := by
  rw [jump h hR hx]
  cases hq : stall ((x + hop (x % R) D C) % 2147483648) with
  | false => rfl
  | true =>
    obtain ⟨a1, a2⟩ := (stall_iff _).mp hs
    obtain ⟨b1, b2⟩ := (stall_iff _).mp hq
    simp only [okH, Bool.and_eq_true, beq_iff_eq] at ok
    have ht : hop (x % R) D C < 2147483648 := Nat.mod_lt _ (by decide)
    generalize hop (x % R) D C = t at *
    obtain ⟨ok1, ok2⟩ := ok
    have e1 : (x + t) % 2147483648 / 4096 = (x / 4096 + t / 4096) % 524288 := div_hop ok1
    rw [e1] at b1 b2
    exact (clash (div_lt_of hx) (div_lt_of ht) ok2 a1 a2 b1 b2).elim
def allB (p : Nat → Bool) : Nat → Bool
  | 0 => true
  | n + 1 => p n && allB p n
theorem allB_of {p : Nat → Bool} : ∀ {n : Nat}, allB p n = true → ∀ k, k < n → p k = true
  | n + 1, h, k, hk => by
    obtain ⟨a, b⟩ := Bool.and_eq_true_iff.mp h
    rcases Nat.lt_succ_iff_lt_or_eq.mp hk with q | q
    · exact allB_of b k q
    · exact q ▸ a
def near (r : Nat) : Bool := okH r 2011758592 1749860352 || okH r 1876033536 278495232 || okH r 1740308480 2028355584 || okH r 1604583424 556990464
def far (r : Nat) : Bool := okH r 1061683200 1113980928 || okH r 2123366400 80478208 || okH r 1037565952 1194459136
def rest (r : Nat) : Bool := far r || allB (fun j => near (r + 4096 * j)) 8
theorem rest_0 : allB (fun k => rest (0 + k)) 512 = true := by decide +kernel
theorem rest_1 : allB (fun k => rest (512 + k)) 512 = true := by decide +kernel
theorem rest_2 : allB (fun k => rest (1024 + k)) 512 = true := by decide +kernel
theorem rest_3 : allB (fun k => rest (1536 + k)) 512 = true := by decide +kernel
theorem rest_4 : allB (fun k => rest (2048 + k)) 512 = true := by decide +kernel
theorem rest_5 : allB (fun k => rest (2560 + k)) 512 = true := by decide +kernel
theorem rest_6 : allB (fun k => rest (3072 + k)) 512 = true := by decide +kernel
theorem rest_7 : allB (fun k => rest (3584 + k)) 512 = true := by decide +kernel
theorem rest_all {r : Nat} (h : r < 4096) : rest r = true := by
  by_cases h0 : r < 512
  · have := allB_of rest_0 (r - 0) (by omega)
    rwa [show 0 + (r - 0) = r by omega] at this
  by_cases h1 : r < 1024
  · have := allB_of rest_1 (r - 512) (by omega)
    rwa [show 512 + (r - 512) = r by omega] at this
  by_cases h2 : r < 1536
  · have := allB_of rest_2 (r - 1024) (by omega)
    rwa [show 1024 + (r - 1024) = r by omega] at this
  by_cases h3 : r < 2048
  · have := allB_of rest_3 (r - 1536) (by omega)
    rwa [show 1536 + (r - 1536) = r by omega] at this
  by_cases h4 : r < 2560
  · have := allB_of rest_4 (r - 2048) (by omega)
    rwa [show 2048 + (r - 2048) = r by omega] at this
  by_cases h5 : r < 3072
  · have := allB_of rest_5 (r - 2560) (by omega)
    rwa [show 2560 + (r - 2560) = r by omega] at this
  by_cases h6 : r < 3584
  · have := allB_of rest_6 (r - 3072) (by omega)
    rwa [show 3072 + (r - 3072) = r by omega] at this
  have := allB_of rest_7 (r - 3584) (by omega)
  rwa [show 3584 + (r - 3584) = r by omega] at this
/-- from any state a state that is no rest is reached within 393216 steps -/
theorem leaves {x : Nat} (hx : x < 2147483648) : ∃ n, n ≤ 393216 ∧ stall (it n x) = false := by
  cases hs : stall x with
  | false => exact ⟨0, by decide, hs⟩
  | true =>
    have hr := rest_all (Nat.mod_lt x (show 4096 > 0 by decide))
    rcases Bool.or_eq_true_iff.mp hr with h | h
    · rcases Bool.or_eq_true_iff.mp h with h | h
      · rcases Bool.or_eq_true_iff.mp h with h | h
        · exact ⟨131072, by decide, hop_clash (R := 4096) aff_p17 (by decide +kernel) hx h hs⟩
        · exact ⟨262144, by decide, hop_clash (R := 4096) aff_17_2 (by decide +kernel) hx h hs⟩
      · exact ⟨393216, by decide, hop_clash (R := 4096) aff_17_3 (by decide +kernel) hx h hs⟩
    · have h := allB_of h (x % 32768 / 4096) (by omega)
      rw [show x % 4096 + 4096 * (x % 32768 / 4096) = x % 32768 by omega] at h
      rcases Bool.or_eq_true_iff.mp h with h | h
      · rcases Bool.or_eq_true_iff.mp h with h | h
        · rcases Bool.or_eq_true_iff.mp h with h | h
          · exact ⟨16384, by decide, hop_clash (R := 32768) aff_p14 (by decide +kernel) hx h hs⟩
          · exact ⟨32768, by decide, hop_clash (R := 32768) aff_p15 (by decide +kernel) hx h hs⟩
        · exact ⟨49152, by decide, hop_clash (R := 32768) aff_14_3 (by decide +kernel) hx h hs⟩
      · exact ⟨65536, by decide, hop_clash (R := 32768) aff_p16 (by decide +kernel) hx h hs⟩
end Mine
end

section
namespace Mine
/-- a name is read by a pattern: a star (42) stands for any signs, another sign for itself -/
inductive Wild : List Nat → List Nat → Prop
  | nil : Wild [] []
  | star (s : List Nat) {n p : List Nat} : Wild n p → Wild (s ++ n) (42 :: p)
  | char (c : Nat) {n p : List Nat} : Wild n p → Wild (c :: n) (c :: p)

theorem Wild.append {n p n' p' : List Nat} (h : Wild n p) (h' : Wild n' p') : Wild (n ++ n') (p ++ p') := by
  induction h with
  | nil => exact h'
  | star s _ ih => rw [List.append_assoc]; exact .star s ih
  | char c _ ih => exact .char c ih
theorem Wild.split : ∀ {p q n : List Nat}, Wild n (p ++ q) → ∃ n1 n2, n = n1 ++ n2 ∧ Wild n1 p ∧ Wild n2 q
  | [], q, n, h => ⟨[], n, rfl, .nil, h⟩
  | c :: p, q, n, h => by
    rw [List.cons_append] at h
    cases h with
    | star s h =>
      obtain ⟨n1, n2, e, a, b⟩ := Wild.split h
      exact ⟨s ++ n1, n2, by rw [e, List.append_assoc], .star s a, b⟩
    | char c h =>
      obtain ⟨n1, n2, e, a, b⟩ := Wild.split h
      exact ⟨c :: n1, n2, by rw [e]; rfl, .char c a, b⟩
theorem wild_nil {n : List Nat} : Wild n [] ↔ n = [] := ⟨fun h => by cases h; rfl, fun h => h ▸ .nil⟩
theorem wild_star {n q : List Nat} : Wild n (42 :: q) ↔ ∃ k, Wild (n.drop k) q := by
  constructor
  · intro h
    cases h with
    | star s h => exact ⟨s.length, by rw [List.drop_left]; exact h⟩
    | char _ h => exact ⟨1, h⟩
  · rintro ⟨k, h⟩
    have := Wild.star (n.take k) h
    rwa [List.take_append_drop] at this
theorem wild_one {n : List Nat} : Wild n [42] := by
  have := Wild.star n .nil
  rwa [List.append_nil] at this
theorem wild_more {n q : List Nat} (j : Nat) (h : Wild (n.drop j) (42 :: q)) : Wild n (42 :: q) := by
  obtain ⟨k, h⟩ := wild_star.mp h
  rw [List.drop_drop] at h
  exact wild_star.mpr ⟨_, h⟩
theorem wild_cons {c : Nat} (hc : c ≠ 42) {n q : List Nat} : Wild n (c :: q) ↔ ∃ n', n = c :: n' ∧ Wild n' q := by
  constructor
  · intro h
    cases h with
    | star s h => exact absurd rfl hc
    | char _ h => exact ⟨_, rfl, h⟩
  · rintro ⟨n', rfl, h⟩
    exact .char c h
theorem wild_free : ∀ {p q n : List Nat}, 42 ∉ p → (Wild n (p ++ q) ↔ p <+: n ∧ Wild (n.drop p.length) q)
  | [], q, n, _ => by simp
  | c :: p, q, n, hp => by
    have hc : c ≠ 42 := fun e => hp (e ▸ List.mem_cons_self ..)
    have hp' : 42 ∉ p := fun h => hp (List.mem_cons_of_mem _ h)
    rw [List.cons_append, wild_cons hc]
    constructor
    · rintro ⟨n', rfl, h⟩
      obtain ⟨a, b⟩ := (wild_free hp').mp h
      exact ⟨List.cons_prefix_cons.mpr ⟨rfl, a⟩, b⟩
    · rintro ⟨⟨t, e⟩, h⟩
      subst e
      refine ⟨p ++ t, rfl, (wild_free hp').mpr ⟨List.prefix_append _ _, ?_⟩⟩
      simpa using h
theorem wild_lit {p n : List Nat} (hp : 42 ∉ p) : Wild n p ↔ n = p := by
  have := wild_free (p := p) (q := []) (n := n) hp
  rw [List.append_nil] at this
  rw [this, wild_nil]
  constructor
  · rintro ⟨⟨t, rfl⟩, h⟩
    rw [List.drop_left] at h
    rw [h, List.append_nil]
  · rintro rfl
    exact ⟨List.prefix_refl _, List.drop_length⟩
theorem wild_snoc_star {n p : List Nat} : Wild n (p ++ [42]) ↔ ∃ i, i ≤ n.length ∧ Wild (n.take i) p := by
  constructor
  · intro h
    obtain ⟨n1, n2, rfl, a, _⟩ := Wild.split h
    exact ⟨n1.length, by simp, by rw [List.take_left]; exact a⟩
  · rintro ⟨i, _, h⟩
    have := h.append (wild_one (n := n.drop i))
    rwa [List.take_append_drop] at this
theorem wild_snoc_char {c : Nat} (hc : c ≠ 42) {n p : List Nat} : Wild n (p ++ [c]) ↔ ∃ n', n = n' ++ [c] ∧ Wild n' p := by
  constructor
  · intro h
    obtain ⟨n1, n2, rfl, a, b⟩ := Wild.split h
    have : n2 = [c] := (wild_lit (by simpa using fun e => hc e.symm)).mp b
    exact ⟨n1, by rw [this], a⟩
  · rintro ⟨n', rfl, h⟩
    exact h.append (.char c .nil)
theorem wild_grow_star {n p : List Nat} {i j : Nat} (hij : i ≤ j) (h : Wild (n.take i) p) : Wild (n.take j) (p ++ [42]) :=
  wild_snoc_star.mpr (by
    by_cases hj : i ≤ (n.take j).length
    · exact ⟨i, hj, by rw [List.take_take, Nat.min_eq_left hij]; exact h⟩
    · refine ⟨(n.take j).length, Nat.le_refl _, ?_⟩
      have e1 : n.length ≤ j := by
        rw [List.length_take] at hj
        omega
      rw [List.take_length, List.take_of_length_le e1]
      rw [List.length_take] at hj
      rwa [List.take_of_length_le (by omega)] at h)
theorem wild_grow_char {n p : List Nat} {i c : Nat} (hc : n[i]? = some c) (h : Wild (n.take i) p) : Wild (n.take (i + 1)) (p ++ [c]) := by
  have e : n.take (i + 1) = n.take i ++ [c] := by rw [List.take_add_one, hc]; rfl
  rw [e]
  exact h.append (.char c .nil)

/-- the pieces of a pattern, joined by stars -/
def joinS : List (List Nat) → List Nat
  | [] => []
  | [x] => x
  | x :: y :: r => x ++ 42 :: joinS (y :: r)
theorem joinS_cons (x : List Nat) {r : List (List Nat)} (h : r ≠ []) : joinS (x :: r) = x ++ 42 :: joinS r := by
  cases r with
  | nil => exact absurd rfl h
  | cons y r => rfl
theorem joinS_append : ∀ (a : List (List Nat)) {b : List (List Nat)}, a ≠ [] → b ≠ [] → joinS (a ++ b) = joinS a ++ 42 :: joinS b
  | [], _, h, _ => absurd rfl h
  | [x], b, _, h => joinS_cons x h
  | x :: y :: r, b, _, h => by
    rw [List.cons_append, joinS_cons x (by simp), joinS_append (y :: r) (by simp) h, joinS_cons x (by simp), List.append_assoc]
    rfl

/-- what is known when a part of the pattern has been read: at is where the rest, that begins with a star, goes on -/
def Greedy (N J : List Nat) (i : Nat) : Prop := i ≤ N.length ∧ ∀ q, Wild N (J ++ 42 :: q) ↔ Wild (N.drop i) (42 :: q)
theorem greedy_init {N p : List Nat} (hp : 42 ∉ p) (h : p <+: N) : Greedy N p p.length :=
  ⟨h.length_le, fun q => by rw [wild_free hp]; exact ⟨fun x => x.2, fun x => ⟨h, x⟩⟩⟩
theorem greedy_fail {N p q : List Nat} (hp : 42 ∉ p) (h : ¬ p <+: N) : ¬ Wild N (p ++ q) := fun x => h ((wild_free hp).mp x).1
theorem greedy_star {N J p : List Nat} {i : Nat} (G : Greedy N J i) (hp : 42 ∉ p) (q : List Nat) : Wild N (J ++ 42 :: (p ++ q)) ↔ ∃ f, i ≤ f ∧ p <+: N.drop f ∧ Wild (N.drop (f + p.length)) q := by
  rw [G.2, wild_star]
  constructor
  · rintro ⟨k, h⟩
    rw [List.drop_drop, wild_free hp, List.drop_drop] at h
    exact ⟨i + k, by omega, h⟩
  · rintro ⟨f, hf, a, b⟩
    refine ⟨f - i, ?_⟩
    rw [List.drop_drop, wild_free hp, List.drop_drop, show i + (f - i) = f by omega]
    exact ⟨a, b⟩
theorem greedy_step {N J p : List Nat} {i f : Nat} (G : Greedy N J i) (hp : 42 ∉ p) (hf : i ≤ f) (hl : f + p.length ≤ N.length) (h : p <+: N.drop f) (least : ∀ k, i ≤ k → k < f → ¬ p <+: N.drop k) : Greedy N (J ++ 42 :: p) (f + p.length) := by
  refine ⟨hl, fun q => ?_⟩
  rw [List.append_assoc, List.cons_append, greedy_star G hp]
  constructor
  · rintro ⟨k, hk, a, b⟩
    have hle : f ≤ k := Nat.le_of_not_lt fun hlt => least k hk hlt a
    refine wild_more (k - f) ?_
    rw [List.drop_drop, show f + p.length + (k - f) = k + p.length by omega]
    exact b
  · intro b
    exact ⟨f, hf, h, b⟩
theorem greedy_miss {N J p q : List Nat} {i : Nat} (G : Greedy N J i) (hp : 42 ∉ p) (none : ∀ k, i ≤ k → ¬ p <+: N.drop k) : ¬ Wild N (J ++ 42 :: (p ++ q)) := by
  rw [greedy_star G hp]
  rintro ⟨f, hf, a, _⟩
  exact none f hf a
theorem greedy_end {N J p : List Nat} {i : Nat} (G : Greedy N J i) (hp : 42 ∉ p) : Wild N (J ++ 42 :: p) ↔ p.length ≤ N.length - i ∧ p <:+ N := by
  have := greedy_star G hp []
  rw [List.append_nil] at this
  rw [this]
  constructor
  · rintro ⟨f, hf, ⟨t, e⟩, h⟩
    have hd : N.drop (f + p.length) = t := by rw [← List.drop_drop, ← e, List.drop_left]
    rw [hd, wild_nil] at h
    subst h
    rw [List.append_nil] at e
    have hlen := congrArg List.length e
    rw [List.length_drop] at hlen
    have := G.1
    exact ⟨by omega, e ▸ List.drop_suffix f N⟩
  · rintro ⟨hle, ⟨t, e⟩⟩
    have hlen := congrArg List.length e
    rw [List.length_append] at hlen
    have := G.1
    refine ⟨t.length, by omega, ?_, ?_⟩
    · rw [← e, List.drop_left]; exact List.prefix_refl _
    · rw [wild_nil, ← e]
      exact List.drop_of_length_le (by rw [List.length_append]; omega)
end Mine
end

section
namespace Mine
theorem least_of {p : Nat → Prop} : ∀ n, p n → ∃ k, k ≤ n ∧ p k ∧ ∀ j, j < k → ¬ p j := by
  intro n
  induction n using Nat.strongRecOn with
  | _ n ih =>
    intro h
    by_cases hj : ∃ j, j < n ∧ p j
    · obtain ⟨j, hlt, hp⟩ := hj
      obtain ⟨k, hk, a, b⟩ := ih j hlt hp
      exact ⟨k, by omega, a, b⟩
    · exact ⟨n, Nat.le_refl _, h, fun j hlt hp => hj ⟨j, hlt, hp⟩⟩
theorem leaves_least {x : Nat} : ∃ k, k ≤ 393216 ∧ stall (it k (stp x)) = false ∧ ∀ j, j < k → ¬ stall (it j (stp x)) = false := by
  obtain ⟨n, hn, h⟩ := leaves (stp_lt x)
  obtain ⟨k, hk, a, b⟩ := least_of (p := fun n => stall (it n (stp x)) = false) n h
  exact ⟨k, Nat.le_trans hk hn, a, b⟩
/-- how many steps behind the next one the generator is still at rest -/
noncomputable def dist (x : Nat) : Nat := Classical.choose (leaves_least (x := x))
theorem dist_le (x : Nat) : dist x ≤ 393216 := (Classical.choose_spec (leaves_least (x := x))).1
theorem dist_ends (x : Nat) : stall (it (dist x) (stp x)) = false := (Classical.choose_spec (leaves_least (x := x))).2.1
theorem dist_min {x j : Nat} (h : stall (it j (stp x)) = false) : dist x ≤ j :=
  Nat.le_of_not_lt fun hlt => (Classical.choose_spec (leaves_least (x := x))).2.2 j hlt h
theorem it_succ (n x : Nat) : it (n + 1) x = it n (stp x) := by rw [Nat.add_comm, it_add]; exact congrArg (it n) (itf_one stp x)
theorem itf_zero (f : Nat → Nat) (x : Nat) : itf f 0 x = x := rfl
theorem it_zero (x : Nat) : it 0 x = x := itf_zero stp x
theorem dist_falls {x : Nat} (h : stall (stp x) = true) : dist (stp x) + 1 ≤ dist x := by
  have he := dist_ends x
  cases hd : dist x with
  | zero =>
    rw [hd, it_zero, h] at he
    cases he
  | succ d =>
    rw [hd, it_succ] at he
    have := dist_min he
    omega
/-- what is left for _law_cut to do: N the name's length, i its place, x the generator's state -/
noncomputable def left (N : Nat) (i x : Int) : Nat := (N - i.toNat) * 393217 + dist x.toNat
theorem stp_toNat {x n : Int} (h0 : 0 ≤ x) (hn : n = (x * 1103515245 + 12345) % 2147483648) : n.toNat = stp x.toNat := by
  obtain ⟨a, rfl⟩ := Int.eq_ofNat_of_zero_le h0
  rw [Int.toNat_natCast, stp_eq, hn]
  have e : ((a : Int) * 1103515245 + 12345) % 2147483648 = ((a * 1103515245 + 12345) % 2147483648 : Nat) := by
    rw [Int.natCast_emod, Int.natCast_add, Int.natCast_mul]
    rfl
  rw [e, Int.toNat_natCast]
theorem rest_toNat {n : Int} (h0 : 0 ≤ n) (h1 : n / 4096 % 3 = 0) (h2 : n / 7 / 4096 % 4 = 0) : stall n.toNat = true := by
  obtain ⟨a, rfl⟩ := Int.eq_ofNat_of_zero_le h0
  rw [Int.toNat_natCast]
  simp only [stall, Bool.and_eq_true, beq_iff_eq]
  have e1 : ((a / 4096 % 3 : Nat) : Int) = ((0 : Nat) : Int) := h1
  have e2 : ((a / 7 / 4096 % 4 : Nat) : Int) = ((0 : Nat) : Int) := h2
  exact ⟨Int.ofNat.inj e1, Int.ofNat.inj e2⟩
theorem left_on {N : Nat} {i i' x n : Int} (h0 : 0 ≤ i) (h1 : i < N) (hi : i + 1 ≤ i') : left N i' n + 1 ≤ left N i x := by
  unfold left
  have h := dist_le n.toNat
  obtain ⟨d, hd⟩ : ∃ d, N - i.toNat = N - i'.toNat + 1 + d := ⟨N - i.toNat - (N - i'.toNat) - 1, by omega⟩
  rw [hd, Nat.add_mul, Nat.add_mul]
  omega
theorem left_rest {N : Nat} {i x n : Int} (hx : 0 ≤ x) (hn : n = (x * 1103515245 + 12345) % 2147483648) (h1 : n / 4096 % 3 = 0) (h2 : n / 7 / 4096 % 4 = 0) : left N i n + 1 ≤ left N i x := by
  unfold left
  have e := stp_toNat hx hn
  have hs : stall (stp x.toNat) = true := by
    rw [← e]
    exact rest_toNat (hn ▸ Int.emod_nonneg _ (by decide)) h1 h2
  have := dist_falls hs
  rw [e]
  clear hn e h1 h2 hs
  generalize dist (stp x.toNat) = a at *
  generalize dist x.toNat = b at *
  generalize (N - i.toNat) * 393217 = c at *
  omega
/-- what _law_cut has made of a name's first i signs -/
structure CutP (N : List Nat) (p : List Nat) (x i : Int) : Prop where
  reads : Wild (N.take i.toNat) p
  short : p.length + left N.length i x ≤ 5111821
theorem cut_start {N : List Nat} {x : Int} (hN : N.length ≤ 12) : CutP N [] x 0 := by
  refine ⟨by rw [show (0 : Int).toNat = 0 from rfl, List.take_zero]; exact .nil, ?_⟩
  unfold left
  have h := dist_le x.toNat
  have e : (N.length - (0 : Int).toNat) * 393217 ≤ 12 * 393217 := Nat.mul_le_mul_right _ (by omega)
  simp only [List.length_nil]
  omega
theorem cut_star {N p : List Nat} {x n i d : Int} (C : CutP N p x i) (hx : 0 ≤ x) (h0 : 0 ≤ i) (h1 : i < N.length) (hn : n = (x * 1103515245 + 12345) % 2147483648) (h3 : n / 4096 % 3 = 0) (hd : d = n / 7 / 4096 % 4) : CutP N (p ++ [42]) n (i + d) := by
  have hd0 : 0 ≤ d := by clear hn; omega
  refine ⟨wild_grow_star (i := i.toNat) (by clear hn hd; omega) C.reads, ?_⟩
  have hs := C.short
  rw [List.length_append, List.length_singleton]
  by_cases e : d = 0
  · have := left_rest (N := N.length) (i := i) hx hn h3 (by clear hn; omega)
    rw [e, Int.add_zero]
    clear hn hd
    omega
  · have := left_on (N := N.length) (i := i) (i' := i + d) (x := x) (n := n) h0 h1 (by clear hn hd; omega)
    clear hn hd
    omega
theorem cut_char {N p : List Nat} {x n i : Int} {c : Nat} (C : CutP N p x i) (h0 : 0 ≤ i) (h1 : i < N.length) (hc : N[i.toNat]? = some c) : CutP N (p ++ [c]) n (i + 1) := by
  have e : (i + 1).toNat = i.toNat + 1 := by omega
  refine ⟨by rw [e]; exact wild_grow_char hc C.reads, ?_⟩
  have hs := C.short
  rw [List.length_append, List.length_singleton]
  have := left_on (N := N.length) (i := i) (i' := i + 1) (x := x) (n := n) h0 h1 (Int.le_refl _)
  omega
theorem cut_end {N p : List Nat} {x i : Int} (C : CutP N p x i) (h : ¬ i < N.length) : Wild N p := by
  have := C.reads
  rwa [List.take_of_length_le (by omega)] at this
end Mine
end

section
open PySem PySem.W PySem.Calls PySem.Spec PyProof.Rows
set_option maxRecDepth 100000
namespace Mine
local macro_rules | `(tactic| walk_at "call ref") => `(tactic| (k_here; k_dflt (refine' tells_use (step_tells _ _ _ _ _ _ ?c1 ?c2) ?k1 ?k2 ?k3 ?k4 ?k5 ?kK ?kd ?ku ?_; (case k1 => k_asm); (case k2 => k_asm); (case k3 => k_asm); (case k4 => k_asm); (case k5 => k_asm); (case kK => first | exact rfl | assumption); (case kd => ktr_room); (case ku => ktr_units); (case c1 => first | with_reducible assumption | omega | decide | exact text_pos (by assumption) | (simp only [fd3, fd5, fd7, fd9, fd11, fd13]; omega) | (simp only [Str.length_append] at *; omega)); (case c2 => first | with_reducible assumption | omega | decide | exact text_pos (by assumption) | (simp only [fd3, fd5, fd7, fd9, fd11, fd13]; omega) | (simp only [Str.length_append] at *; omega)); k_whole); intro r9 h9 tk9 F9 N9 ok9; k_dflt (obtain ⟨u9, n9, e9, a9, b9, c9⟩ := ok9); subst e9; (try dsimp only); (try k_sweep); walk_say "CONTRACT step"))
local macro_rules | `(tactic| walk_at "call ref") => `(tactic| (k_here; k_dflt (refine' tells_use (pick_tells _ _ _ _ _ _ _ _ ?c1 ?c2 ?c3 ?c4) ?k1 ?k2 ?k3 ?k4 ?k5 ?kK ?kd ?ku ?_; (case k1 => k_asm); (case k2 => k_asm); (case k3 => k_asm); (case k4 => k_asm); (case k5 => k_asm); (case kK => first | exact rfl | assumption); (case kd => ktr_room); (case ku => ktr_units); (case c1 => first | with_reducible assumption | omega | decide | exact text_pos (by assumption) | (simp only [fd3, fd5, fd7, fd9, fd11, fd13]; omega) | (simp only [Str.length_append] at *; omega)); (case c2 => first | with_reducible assumption | omega | decide | exact text_pos (by assumption) | (simp only [fd3, fd5, fd7, fd9, fd11, fd13]; omega) | (simp only [Str.length_append] at *; omega)); (case c3 => first | with_reducible assumption | omega | decide | exact text_pos (by assumption) | (simp only [fd3, fd5, fd7, fd9, fd11, fd13]; omega) | (simp only [Str.length_append] at *; omega)); (case c4 => first | with_reducible assumption | omega | decide | exact text_pos (by assumption) | (simp only [fd3, fd5, fd7, fd9, fd11, fd13]; omega) | (simp only [Str.length_append] at *; omega)); k_whole); intro r9 h9 tk9 F9 N9 ok9; k_dflt (obtain ⟨u9, n9, e9, a9, b9, c9⟩ := ok9); subst e9; (try dsimp only); (try k_sweep); walk_say "CONTRACT pick"))
local macro_rules | `(tactic| walk_at "subscriptTail") => `(tactic| (k_here; (with_reducible show wpAny _ _ (subscriptTail _ _ (Value.str _ _) (Value.int _ _)) _ _ _); (refine my_item (by omega) (by omega) (by omega) ?_); intro c9 k9 u9 e9; (try dsimp only); walk_say "MY ITEM"))
local macro_rules | `(tactic| walk_at "subscriptTail Name Name str int") => `(tactic| (k_here; (with_reducible show wpAny _ _ (subscriptTail _ _ (Value.str _ _) (Value.int _ _)) _ _ _); (refine my_item (by omega) (by omega) (by omega) ?_); intro c9 k9 u9 e9; (try dsimp only); walk_say "MY ITEM"))
local macro_rules | `(tactic| walk_at "subscriptTail Name Call str int") => `(tactic| (k_here; (with_reducible show wpAny _ _ (subscriptTail _ _ (Value.str _ _) (Value.int _ _)) _ _ _); (refine my_item (by omega) (by omega) (by omega) ?_); intro c9 k9 u9 e9; (try dsimp only); walk_say "MY ITEM"))

def CutS (name pat : Str) (x i : Int) : Prop := CutP name.cps.toList pat.cps.toList x i
theorem cutS_start {name : Str} {x : Int} (h : name.length ≤ 12) : CutS name (Str.ofString "") x 0 := cut_start (by rw [Array.length_toList]; exact h)
theorem cutS_P0 {name : Str} {x : Int} (h : name.length ≤ 12) (h0 : 0 ≤ x) (h1 : x < 2147483648) : (0 ≤ x ∧ x < 2147483648 ∧ 0 ≤ (0 : Int) ∧ (Str.ofString "").length ≤ 5111821) ∧ CutS name (Str.ofString "") x 0 :=
  ⟨⟨h0, h1, Int.le_refl _, by decide⟩, cutS_start h⟩
theorem cutS_short {name pat : Str} {x i : Int} (C : CutS name pat x i) : pat.length ≤ 5111821 := by
  have := C.short
  rw [Array.length_toList] at this
  exact Nat.le_trans (Nat.le_add_right _ _) this
theorem star_list (pat : Str) : (pat ++ Str.ofString "*").cps.toList = pat.cps.toList ++ [42] := by
  rw [show Str.ofString "*" = ⟨#[42]⟩ by decide +kernel]
  exact Array.toList_append
theorem char_list (pat : Str) (c : Nat) : (pat ++ (⟨#[c]⟩ : Str)).cps.toList = pat.cps.toList ++ [c] := Array.toList_append
theorem cut_len_list (name : Str) : name.cps.toList.length = name.length := Array.length_toList
theorem cutS_star {name pat : Str} {x i n p d : Int} (C : CutS name pat x i) (hx : 0 ≤ x) (h0 : 0 ≤ i) (h1 : i < name.length) (hn : n = (x * 1103515245 + 12345) % 2147483648) (hp : p = n / 4096 % 3) (hp0 : p = 0) (hd : d = n.fdiv 7 / 4096 % 4) :
    CutS name (pat ++ Str.ofString "*") n (i + d) := by
  unfold CutS
  rw [star_list]
  exact cut_star C hx h0 (by rw [cut_len_list]; exact h1) hn (hp ▸ hp0) (by rw [hd, fd7])
theorem cutS_P1 {name pat : Str} {x i n p d : Int} (C : CutS name pat x i) (hx : 0 ≤ x) (h0 : 0 ≤ i) (h1 : i < name.length) (hn0 : 0 ≤ n) (hn1 : n < 2147483648) (hn : n = (x * 1103515245 + 12345) % 2147483648) (hp : p = n / 4096 % 3) (hp0 : p = 0)
    (hd0 : 0 ≤ d) (hd : d = n.fdiv 7 / 4096 % 4) : (0 ≤ n ∧ n < 2147483648 ∧ 0 ≤ i + d ∧ (pat ++ Str.ofString "*").length ≤ 5111821) ∧ CutS name (pat ++ Str.ofString "*") n (i + d) :=
  have C' := cutS_star C hx h0 h1 hn hp hp0 hd
  ⟨⟨hn0, hn1, Int.add_nonneg h0 hd0, cutS_short C'⟩, C'⟩
theorem cutS_M1 {name : Str} {x i n p d : Int} (hx : 0 ≤ x) (h0 : 0 ≤ i) (h1 : i < name.length) (hn : n = (x * 1103515245 + 12345) % 2147483648) (hp : p = n / 4096 % 3) (hp0 : p = 0)
    (hd0 : 0 ≤ d) (hd : d = n.fdiv 7 / 4096 % 4) : left name.length (i + d) n < left name.length i x := by
  by_cases e : d = 0
  · rw [e, Int.add_zero]
    rw [fd7] at hd
    exact left_rest hx hn (hp ▸ hp0) (hd ▸ e)
  · exact left_on h0 h1 (by clear hn hd hp; omega)
theorem cutS_P2 {name pat : Str} {x i n : Int} {c : Nat} (C : CutS name pat x i) (h0 : 0 ≤ i) (h1 : i < name.length) (hn0 : 0 ≤ n) (hn1 : n < 2147483648) (hc : name.cps.toList[i.toNat]? = some c) :
    (0 ≤ n ∧ n < 2147483648 ∧ 0 ≤ i + 1 ∧ (pat ++ (⟨#[c]⟩ : Str)).length ≤ 5111821) ∧ CutS name (pat ++ (⟨#[c]⟩ : Str)) n (i + 1) := by
  have C' : CutS name (pat ++ (⟨#[c]⟩ : Str)) n (i + 1) := by
    unfold CutS
    rw [char_list]
    exact cut_char C h0 (by rw [cut_len_list]; exact h1) hc
  exact ⟨⟨hn0, hn1, by omega, cutS_short C'⟩, C'⟩
theorem cutS_M2 {name : Str} {x i n : Int} (h0 : 0 ≤ i) (h1 : i < name.length) : left name.length (i + 1) n < left name.length i x := left_on h0 h1 (Int.le_refl _)
theorem cutS_end {name pat : Str} {x i : Int} (C : CutS name pat x i) (h : ¬ i < name.length) : Wild name.cps.toList pat.cps.toList := cut_end C (by rw [cut_len_list]; exact h)

set_option maxHeartbeats 4000000 in
theorem cut_tells (w : World) (mean : ExcName → Option Value) (mg mb : Str → Option Value) (name : Str) (x : Int) (t t2 : Tok) (h0 : 0 ≤ x) (h1 : x < 2147483648) (hn : name.length ≤ 12) :
    Tells w mean mg mb 3 56 [.str name t, .int x t2] (fun h r h' => ∃ (pat : Str) (x' : Int) (u1 u2 : Tok), Wild name.cps.toList pat.cps.toList ∧ pat.length ≤ 5111821 ∧ 0 ≤ x' ∧ x' < 2147483648 ∧ pairOf (.str pat u1) (.int x' u2) h r h') := by
  k_with_none; unfold Tells; k_fill
  intro dp un gd cn csc a ccd cl outer A₀ base h₀ L m s Q E B F X T hk hdp hu hret
  refine wpAny_call ?_
  k_dflt (refine' code_pure (binds := [(Str.ofString "name", .str name t), (Str.ofString "x", .int x t2)]) ?k1 ?k2 ?k3 ?k5 ?kA ?kF ?kK ?k6 ?k7 ?k8 ?k9 ?kB ?_ ?c2 ?c3 ?c4 ?c5; (case kA => exact rfl); (case kF => exact rfl); (case kK => assumption); (case k1 => k_asm); (case k2 => k_asm); (case k3 => k_asm); (case k5 => k_asm); (case k6 => k_is); (case k7 => k_is); (case k8 => ktr_room); (case k9 => exact BindsTo.of_eq rfl); (case c5 => decide); (case kB => exact locs rfl); (case c2 => exact rfl); (case c3 => exact rfl); (case c4 => exact rfl); k_whole)
  intro L' h' F' N' B' X' T'
  dsimp only [List.reverse, List.reverseAux] at F'
  (try dsimp only); (try k_fold)
  clear B F X T hk
  k_with "exec While Compare cons nil" => k_while (fun _ pat x i => (0 ≤ x ∧ x < 2147483648 ∧ 0 ≤ i ∧ pat.length ≤ 5111821) ∧ CutS name pat x i) (fun _ pat x i => left name.length i x) "pat" "x" "at"
  k_with "state" => first | exact cutS_P1 (by assumption) (by assumption) (by assumption) (by assumption) (by assumption) (by assumption) (by assumption) (by assumption) (by assumption) (by assumption) (by assumption) | exact cutS_P2 (by assumption) (by assumption) (by assumption) (by assumption) (by assumption) (by assumption) | exact cutS_P0 hn h0 h1
  k_with "measure" => first | exact cutS_M1 (by assumption) (by assumption) (by assumption) (by assumption) (by assumption) (by assumption) (by assumption) (by assumption) | exact cutS_M2 (by assumption) (by assumption)
  k_steps
  all_goals try (k_unfold; dsimp only)
  rename News _ _ _ _ => hN
  rename Fr _ _ _ _ => hF
  rename CutS _ _ _ _ => hC
  obtain ⟨hg1, _, hg2⟩ := hN _ (List.Mem.head _)
  exact leaveP hret hF ⟨_, _, _, _, cutS_end hC (by assumption), cutS_short hC, by assumption, by assumption, _, _, rfl, hg2, hg1⟩
end Mine
end

section
open PySem PySem.W PySem.Calls PySem.Spec PyProof.Rows
set_option maxRecDepth 100000
namespace Mine
section
variable {prog : Program} {w : World} {A : Around} {E : Value → Shared → Prop} {s : Shared} {env : Env} {h₀ : Heap} {x : Str} {body : List Stmt} {Q : Flow → Shared → Prop}
/-- a loop over a list that the call has made; the list itself is not asked for again, and the other objects stay as they are -/
theorem iter_list {l : Addr} {vs : List Value} {nn : Nat} {m₀ : Str → Option Value} {news : List (Addr × Obj)} (J : Nat → (Str → Option Value) → Prop)
    (hh : A.handled = none) (hl : News h₀ env.locals s.heap [(l, listOf vs.toArray nn)]) (hnl : ∀ p ∈ news, p.1 ≠ l) (F : Fr h₀ env.locals s.heap m₀) (N : News h₀ env.locals s.heap news) (hj : J 0 m₀)
    (turn : ∀ i v m₁ h tk own, vs[i]? = some v → OwnOff own (news.map (·.1)) → J i m₁ → Fr h₀ env.locals h (fun y => if y = x then some v else m₁ y) → News h₀ env.locals h (news ++ own) →
      wpAny (model prog w) A (execs body env) (InvPostN h₀ env.locals (fun m' nx => nx = news ∧ J (i + 1) m') own (news.map (·.1)) { s with heap := h, toks := tk } Q) E { s with heap := h, toks := tk })
    (done : ∀ m₁ h tk, J vs.length m₁ → Fr h₀ env.locals h m₁ → News h₀ env.locals h news → Q .next { s with heap := h, toks := tk }) :
    wpAny (model prog w) A (pyIter (.ref l)) (fun it s₂ => LoopAtV prog w A h₀ env x body Q E it s₂) E s := by
  have hcons : News h₀ env.locals s.heap ((l, listOf vs.toArray nn) :: news) := fun p hp => (List.mem_cons.mp hp).elim (fun e => hl p (e ▸ List.Mem.head _)) (N p)
  refine kdl_iter (fun i m nx => nx = (l, listOf vs.toArray nn) :: news ∧ J i m) hh (List.Mem.head _) F hcons ⟨rfl, hj⟩ ?_ ?_
  · rintro i v m₁ nx h tk own hv hoff _ ⟨rfl, hJ⟩ F₁ N₁
    have hl' : OwnOff (own ++ [(l, listOf vs.toArray nn)]) (news.map (·.1)) := fun p hp b hb e => by
      rcases List.mem_append.mp hp with q | q
      · exact hoff p q b (List.Mem.tail _ hb) e
      · obtain ⟨r, hr, rfl⟩ := List.mem_map.mp hb
        rw [List.mem_singleton.mp q] at e
        exact hnl r hr e.symm
    have N₂ : News h₀ env.locals h (news ++ (own ++ [(l, listOf vs.toArray nn)])) := fun p hp => N₁ p (by
      rw [List.mem_append, List.mem_append, List.mem_singleton] at hp
      rw [List.mem_append, List.mem_cons]
      exact hp.elim (fun a => .inl (.inr a)) fun a => a.elim .inr fun a => .inl (.inl a))
    refine wpAny_mono (turn i v m₁ h tk _ hv hl' hJ F₁ N₂) (fun f s₂ post => ?_) fun _ _ e => e
    have turned : InvEndN h₀ env.locals (fun m' nx => nx = news ∧ J (i + 1) m') (own ++ [(l, listOf vs.toArray nn)]) (news.map (·.1)) { s with heap := h, toks := tk } s₂ →
        InvEndG h₀ env.locals (fun m' nx => (l, listOf vs.toArray nn) ∈ nx ∧ nx = (l, listOf vs.toArray nn) :: news ∧ J (i + 1) m') own { s with heap := h, toks := tk } s₂ := by
      rintro ⟨h', tk', m', all, ny, rfl, F', N', keeps, owns, _, rfl, hJ'⟩
      exact InvEndG.intro F' N' ⟨List.Mem.head _, rfl, hJ'⟩ hoff
        (fun p hp => (List.mem_cons.mp hp).elim (fun e => owns p (List.mem_append_right _ (e ▸ List.Mem.head _))) (keeps p)) fun p hp => owns p (List.mem_append_left _ hp)
    cases f <;> first | exact post | exact turned post
  · rintro m₁ nx h tk ⟨rfl, hJ⟩ F₁ N₁
    exact done m₁ h tk hJ F₁ fun p hp => N₁ p (List.Mem.tail _ hp)
/-- a loop over range(n) whose turn may leave new objects in the place of the old ones: the library's rule, its ledger's words turned -/
theorem range_free {r : Addr} {b₀ : Int} {t₀ u₀ v₀ : Tok} {n : Nat} {m₀ : Str → Option Value} {news : List (Addr × Obj)} (J : Nat → (Str → Option Value) → List (Addr × Obj) → Prop)
    (hh : A.handled = none) (hr : IsRange s.heap r 0 b₀ 1 t₀ u₀ v₀) (hsmall : Builtin.Range.small 0 b₀ 1 = true) (hn : Builtin.Range.rangeSize 0 b₀ 1 = (n : Int)) (F : Fr h₀ env.locals s.heap m₀) (N : News h₀ env.locals s.heap news) (hj : J 0 m₀ news)
    (turn : ∀ (i : Nat) t m₁ nx h tk own, i < n → OwnOff own (nx.map (·.1)) → J i m₁ nx → Fr h₀ env.locals h (fun y => if y = x then some (.int (i : Int) t) else m₁ y) → News h₀ env.locals h (nx ++ own) →
      wpAny (model prog w) A (execs body env) (InvPostG h₀ env.locals (J (i + 1)) own { s with heap := h, toks := tk } Q) E { s with heap := h, toks := tk })
    (done : ∀ m₁ nx h tk, J n m₁ nx → Fr h₀ env.locals h m₁ → News h₀ env.locals h nx → Q .next { s with heap := h, toks := tk }) :
    wpAny (model prog w) A (pyIter (.ref r)) (fun it s₂ => LoopAtV prog w A h₀ env x body Q E it s₂) E s := by
  refine tbr_invG J hh hr hsmall hn F N hj (fun i k t m₁ nx h tk own hk hoff hJ F₁ N₁ => ?_) done
  obtain ⟨hi, rfl⟩ : i < n ∧ k = (i : Int) := by
    have hi : i < n := by
      have := (List.getElem?_eq_some_iff.mp hk).1
      rwa [rangeKs_length] at this
    refine ⟨hi, ?_⟩
    have : (rangeKs 0 n)[i]? = some (0 + (i : Int)) := by simp [rangeKs, hi]
    rw [hk] at this
    have := Option.some.inj this
    omega
  have hoff' : OwnOff own (nx.map (·.1)) := fun p hp b hb => by
    obtain ⟨q, hq, rfl⟩ := List.mem_map.mp hb
    exact hoff p hp q hq
  refine wpAny_mono (turn i t m₁ nx h tk own hi hoff' hJ F₁ N₁) (fun f s₂ post => ?_) fun _ _ e => e
  have turned : InvEndG h₀ env.locals (J (i + 1)) own { s with heap := h, toks := tk } s₂ → TbEnd h₀ env.locals (J (i + 1)) own { s with heap := h, toks := tk } s₂ := by
    rintro ⟨h', tk', m', all, ny, e, F', N', keeps, owns, off, hJ'⟩
    exact ⟨h', tk', m', all, ny, e, F', N', keeps, owns, fun p hp q hq => off p hp q.1 (List.mem_map_of_mem hq), hJ'⟩
  cases f <;> first | exact post | exact turned post
/-- as iter_list, the loop's target any pattern -/
theorem turns_list {target : Expr} {l : Addr} {vs : List Value} {nn : Nat} {m₀ : Str → Option Value} {news : List (Addr × Obj)} (J : Nat → (Str → Option Value) → Prop)
    (hh : A.handled = none) (hl : News h₀ env.locals s.heap [(l, listOf vs.toArray nn)]) (hnl : ∀ p ∈ news, p.1 ≠ l) (F : Fr h₀ env.locals s.heap m₀) (N : News h₀ env.locals s.heap news) (hj : J 0 m₀)
    (turn : ∀ i v m₁ h tk own, vs[i]? = some v → J i m₁ → Fr h₀ env.locals h m₁ → News h₀ env.locals h (news ++ own) →
      wpAny (model prog w) A (assign target env v) (fun _ s₃ => wpAny (model prog w) A (execs body env) (InvPostN h₀ env.locals (fun m' nx => nx = news ∧ J (i + 1) m') own (news.map (·.1)) { s with heap := h, toks := tk } Q) E s₃) E { s with heap := h, toks := tk })
    (done : ∀ m₁ h tk, J vs.length m₁ → Fr h₀ env.locals h m₁ → News h₀ env.locals h news → Q .next { s with heap := h, toks := tk }) :
    wpAny (model prog w) A (pyIter (.ref l)) (fun it s₂ => TurnsAt prog w A h₀ env target body Q E it s₂) E s := by
  obtain ⟨hol, hlL, hl0⟩ := hl _ (List.Mem.head _)
  have hls : s.heap.IsList l vs.toArray := ⟨_, hol, rfl, nn, rfl⟩
  have hne : l ≠ s.heap.objs.size := Nat.ne_of_lt (Heap.lt_size hol)
  refine wpAny_pyIter_list hls ?_
  have W := Walks.list (prog := prog) (w := w) hh s.heap.objs.size l hne vs.toArray
  rw [List.size_toArray] at W
  have T := KTurns.ofWalks (target := target) W fun i v s Q E st q => letGo_listiter st.1 q
  refine ⟨_, _, _, vs.length, _, _, _, m₀, news, (fun i m nx => nx = news ∧ J i m), rfl, T, ?_, ?_, ?_, ⟨⟨_, Heap.get?_push_size _ rfl, rfl, rfl⟩, hls.at fun o e => Heap.get?_push_of_some _ e⟩, F.push _, (fun p hp => ⟨Heap.get?_push_of_some _ (N p hp).1, (N p hp).2⟩), ⟨rfl, hj⟩, ?_, ?_⟩
  · intro hm
    rcases List.mem_cons.mp hm with e | hm
    · exact absurd F.ns.lt (e ▸ Nat.lt_irrefl _)
    · exact hlL (List.mem_singleton.mp hm).symm
  · intro b hb
    rw [List.mem_singleton.mp hb]
    exact next_is_new F
  · intro p hp hI
    exact absurd (Heap.lt_size (N p hp).1) ((List.mem_singleton.mp hI) ▸ Nat.lt_irrefl _)
  · rintro i v m₁ nx h tk own _ hv ⟨rfl, hJ⟩ hoff _ _ _ _ F₁ N₁
    have N₂ : News h₀ env.locals h (nx ++ own) := fun p hp => N₁ p ((List.mem_append.mp hp).elim (fun h => List.mem_append.mpr (.inr h)) fun h => List.mem_append.mpr (.inl h))
    have fin : ∀ s₂, InvEndN h₀ env.locals (fun m' ny => ny = nx ∧ J (i + 1) m') own (nx.map (·.1)) { s with heap := h, toks := tk } s₂ → LoopStepU h₀ env.locals [s.heap.objs.size] own (fun m' ny => ny = nx ∧ J (i + 1) m') { s with heap := h, toks := tk } .next s₂ := by
      rintro s₂ ⟨h', tk', m', news', ny, e, F', N', hn, ho, _, rfl, hm⟩
      exact ⟨rfl, h', tk', m', ny, e, F', fun p hp => N' p ((List.mem_append.mp hp).elim (ho p) (hn p)), hoff, rfl, hm⟩
    refine wpAny_mono (turn i v m₁ h tk own (by simpa using hv) hJ F₁ N₂) (fun _ s₃ p => wpAny_mono p (fun f s₂ q => ?_) fun _ _ e => e) fun _ _ e => e
    cases f with
    | ret v => exact .ret q
    | brk => exact .brk q
    | next => exact .next (fin _ q)
    | cont => exact .cont (fin _ q)
  · rintro h' tk m' nx F' N' _ ⟨rfl, hJ⟩
    exact done m' h' tk hJ F' N'
/-- a loop that changes some names alone and keeps nothing of them -/
theorem turns_names {target : Expr} {l : Addr} {vs : List Value} {nn : Nat} {m₀ : Str → Option Value} {news : List (Addr × Obj)} (ns : List Str)
    (hh : A.handled = none) (hl : News h₀ env.locals s.heap [(l, listOf vs.toArray nn)]) (hnl : ∀ p ∈ news, p.1 ≠ l) (F : Fr h₀ env.locals s.heap m₀) (N : News h₀ env.locals s.heap news)
    (turn : ∀ v (m₁ : Str → Option Value) h tk own, v ∈ vs → (∀ z, ns.contains z = false → m₁ z = m₀ z) → Fr h₀ env.locals h m₁ → News h₀ env.locals h (news ++ own) →
      wpAny (model prog w) A (assign target env v) (fun _ s₃ => wpAny (model prog w) A (execs body env) (InvPostN h₀ env.locals (fun m' nx => nx = news ∧ ∀ z, ns.contains z = false → m' z = m₀ z) own (news.map (·.1)) { s with heap := h, toks := tk } Q) E s₃) E { s with heap := h, toks := tk })
    (done : ∀ (m₁ : Str → Option Value) h tk, (∀ z, ns.contains z = false → m₁ z = m₀ z) → Fr h₀ env.locals h m₁ → News h₀ env.locals h news → Q .next { s with heap := h, toks := tk }) :
    wpAny (model prog w) A (pyIter (.ref l)) (fun it s₂ => TurnsAt prog w A h₀ env target body Q E it s₂) E s :=
  turns_list (fun _ m => ∀ z, ns.contains z = false → m z = m₀ z) hh hl hnl F N (fun _ _ => rfl) (fun i v m₁ h tk own hv hJ F₁ N₁ => turn v m₁ h tk own (List.mem_of_getElem? hv) hJ F₁ N₁) done
theorem iter_names {l : Addr} {vs : List Value} {nn : Nat} {m₀ : Str → Option Value} {news : List (Addr × Obj)} (ns : List Str)
    (hh : A.handled = none) (hl : News h₀ env.locals s.heap [(l, listOf vs.toArray nn)]) (hnl : ∀ p ∈ news, p.1 ≠ l) (F : Fr h₀ env.locals s.heap m₀) (N : News h₀ env.locals s.heap news)
    (turn : ∀ v (m₁ : Str → Option Value) h tk own, v ∈ vs → (∀ z, ns.contains z = false → m₁ z = m₀ z) → Fr h₀ env.locals h (fun y => if y = x then some v else m₁ y) → News h₀ env.locals h (news ++ own) →
      wpAny (model prog w) A (execs body env) (InvPostN h₀ env.locals (fun m' nx => nx = news ∧ ∀ z, ns.contains z = false → m' z = m₀ z) own (news.map (·.1)) { s with heap := h, toks := tk } Q) E { s with heap := h, toks := tk })
    (done : ∀ (m₁ : Str → Option Value) h tk, (∀ z, ns.contains z = false → m₁ z = m₀ z) → Fr h₀ env.locals h m₁ → News h₀ env.locals h news → Q .next { s with heap := h, toks := tk }) :
    wpAny (model prog w) A (pyIter (.ref l)) (fun it s₂ => LoopAtV prog w A h₀ env x body Q E it s₂) E s :=
  iter_list (fun _ m => ∀ z, ns.contains z = false → m z = m₀ z) hh hl hnl F N (fun _ _ => rfl) (fun i v m₁ h tk own hv _ hJ F₁ N₁ => turn v m₁ h tk own (List.mem_of_getElem? hv) hJ F₁ N₁) done
end
end Mine
end

section
open PySem PySem.Builtin PySem.Builtin.Str PyProof.Rows
set_option maxRecDepth 100000
namespace Mine
/-- a text's signs -/
def cs (x : Str) : List Nat := x.cps.toList
theorem cs_len (x : Str) : (cs x).length = x.length := Array.length_toList
theorem cs_append (x y : Str) : cs (x ++ y) = cs x ++ cs y := Array.toList_append
theorem cs_inj {x y : Str} (h : cs x = cs y) : x = y := by
  obtain ⟨a⟩ := x
  obtain ⟨b⟩ := y
  exact congrArg Str.mk (Array.toList_inj.mp h)
theorem star_is : Str.ofString "*" = ⟨#[42]⟩ := by decide +kernel
theorem cs_star : cs (Str.ofString "*") = [42] := by rw [star_is]; rfl

theorem at_iff (x y : Str) (i : Nat) : StrLaws.At x y x.length i ↔ i + y.length ≤ x.length ∧ cs y <+: (cs x).drop i := by
  unfold StrLaws.At
  refine and_congr_right fun _ => ?_
  rw [StrLaws.subAt_eq, beq_iff_eq, List.prefix_iff_eq_take, ← cs_len y]
  exact eq_comm
theorem prefix_at {x y : Str} {i : Nat} (hi : i ≤ x.length) (h : cs y <+: (cs x).drop i) : i + y.length ≤ x.length := by
  have := h.length_le
  rw [List.length_drop, cs_len, cs_len] at this
  omega
theorem startswith_iff (x y : Str) : Txt.startswith x y = true ↔ cs y <+: cs x := by
  have := at_iff x y 0
  rw [List.drop_zero] at this
  unfold Txt.startswith
  rw [Bool.and_eq_true, decide_eq_true_eq]
  constructor
  · exact fun h => (this.mp h).2
  · intro h
    exact this.mpr ⟨by rw [← cs_len x, ← cs_len y, Nat.zero_add]; exact h.length_le, h⟩
theorem endswith_iff (x y : Str) : Txt.endswith x y = true ↔ cs y <:+ cs x := by
  unfold Txt.endswith
  rw [Bool.and_eq_true, decide_eq_true_eq, Nat.zero_add]
  constructor
  · rintro ⟨hle, h⟩
    have h1 := ((at_iff x y (x.length - y.length)).mp ⟨by omega, h⟩).2
    have h2 : (cs x).drop (x.length - y.length) = cs y := by
      obtain ⟨t, e⟩ := h1
      have hl := congrArg List.length e
      rw [List.length_append, List.length_drop, cs_len, cs_len] at hl
      have ht : t = [] := List.eq_nil_of_length_eq_zero (by omega)
      rw [ht, List.append_nil] at e
      exact e.symm
    rw [← h2]
    exact List.drop_suffix _ _
  · rintro ⟨t, e⟩
    have hl := congrArg List.length e
    rw [List.length_append, cs_len, cs_len] at hl
    refine ⟨by omega, ((at_iff x y (x.length - y.length)).mpr ⟨by omega, ?_⟩).2⟩
    rw [← e, show x.length - y.length = t.length by omega, List.drop_left]
    exact List.prefix_refl _
theorem find3_iff (x y : Str) (n : Nat) (hn : n ≤ x.length) :
    (Txt.find3 x y (n : Int) = -1 ∧ ∀ k, n ≤ k → ¬ cs y <+: (cs x).drop k) ∨
    ∃ f : Nat, Txt.find3 x y (n : Int) = (f : Int) ∧ n ≤ f ∧ f + y.length ≤ x.length ∧ cs y <+: (cs x).drop f ∧ ∀ k, n ≤ k → k < f → ¬ cs y <+: (cs x).drop k := by
  have hf : fromIndex x.length (n : Int) = n := by unfold fromIndex; rw [if_neg (by omega)]; omega
  unfold Txt.find3
  rw [hf]
  rcases StrLaws.occ_head_from x y n 1 (Nat.le_refl 1) with ⟨e, h⟩ | ⟨f, r, e, h1, h2, h3⟩
  · rw [e]
    refine .inl ⟨rfl, fun k hk hp => ?_⟩
    by_cases hkx : k ≤ x.length
    · exact h k hk ((at_iff x y k).mpr ⟨prefix_at hkx hp, hp⟩)
    · have hd : (cs x).drop k = [] := List.drop_of_length_le (by rw [cs_len]; omega)
      rw [hd] at hp
      have hy : cs y = [] := List.prefix_nil.mp hp
      refine h n (Nat.le_refl _) ((at_iff x y n).mpr ⟨?_, by rw [hy]; exact List.nil_prefix⟩)
      rw [← cs_len y, hy]
      exact hn
  · rw [e]
    obtain ⟨a, b⟩ := (at_iff x y f).mp h2
    exact .inr ⟨f, rfl, h1, a, b, fun k hk hlt hp => h3 k hk hlt ((at_iff x y k).mpr ⟨prefix_at (by omega) hp, hp⟩)⟩

theorem cs_join : ∀ ps : List Str, cs (Str.join ⟨#[42]⟩ ps) = joinS (ps.map cs)
  | [] => rfl
  | [x] => rfl
  | x :: y :: r => by
    show cs (x ++ ⟨#[42]⟩ ++ Str.join ⟨#[42]⟩ (y :: r)) = _
    have e : joinS ((x :: y :: r).map cs) = cs x ++ 42 :: joinS ((y :: r).map cs) := joinS_cons (cs x) (r := (y :: r).map cs) (by simp)
    rw [cs_append, cs_append, cs_join (y :: r), e, List.append_assoc]
    rfl
theorem split_ne (x y : Str) : Txt.split x y ≠ [] := by
  unfold Txt.split
  split
  · simp
  · split
    · simp
    · rw [StrLaws.partsBetween_eq]
      generalize occurrences x y 0 x.length (x.length + 1) = l
      cases l <;> simp [StrLaws.partsFrom]
theorem split_shape {pat : Str} {ps : List Str} (h : ps = Txt.split pat (Str.ofString "*")) : ps ≠ [] ∧ (∀ p ∈ ps, 42 ∉ cs p) ∧ cs pat = joinS (ps.map cs) := by
  rw [star_is] at h
  subst h
  refine ⟨split_ne _ _, StrLaws.split_free pat 42, ?_⟩
  rw [← cs_join, StrLaws.join_split]
end Mine
end

section
open PySem PySem.W PySem.Calls PySem.Spec PyProof.Rows
set_option maxRecDepth 100000
namespace Mine
section
variable {prog : Program} {w : World} {A : Around} {E : Value → Shared → Prop} {s : Shared} {env : Env} {h₀ : Heap} {x : Str} {body : List Stmt} {Q : Flow → Shared → Prop}
/-- a loop over a list of texts that turns one int (xa) and forgets one name (xf) -/
theorem iter_parts {l : Addr} {mid : List (Str × Tok)} {nn : Nat} {m₀ : Str → Option Value} {news : List (Addr × Obj)} {a₀ : Int} {t₀ : Tok} (xa xf : Str) (G : Nat → Int → Prop)
    (hh : A.handled = none) (hl : News h₀ env.locals s.heap [(l, listOf (strValues mid).toArray nn)]) (hnl : ∀ p ∈ news, p.1 ≠ l) (F : Fr h₀ env.locals s.heap m₀) (N : News h₀ env.locals s.heap news)
    (ha : m₀ xa = some (.int a₀ t₀)) (h0 : G 0 a₀) (hne : xa ≠ x)
    (turn : ∀ i p tp a ta u h tk own, mid[i]? = some (p, tp) → OwnOff own (news.map (·.1)) → G i a →
      Fr h₀ env.locals h (fun y => if y = x then some (.str p tp) else if y = xa then some (.int a ta) else if y = xf then u else m₀ y) → News h₀ env.locals h (news ++ own) →
      wpAny (model prog w) A (execs body env) (InvPostN h₀ env.locals (fun m' nx => nx = news ∧ (∃ a' t', m' xa = some (.int a' t') ∧ G (i + 1) a') ∧ ∀ z, z ≠ x → z ≠ xa → z ≠ xf → m' z = m₀ z) own (news.map (·.1)) { s with heap := h, toks := tk } Q) E { s with heap := h, toks := tk })
    (done : ∀ a ta u v h tk, G mid.length a → Fr h₀ env.locals h (fun y => if y = x then v else if y = xa then some (.int a ta) else if y = xf then u else m₀ y) → News h₀ env.locals h news → Q .next { s with heap := h, toks := tk }) :
    wpAny (model prog w) A (pyIter (.ref l)) (fun it s₂ => LoopAtV prog w A h₀ env x body Q E it s₂) E s := by
  refine iter_list (fun i m => (∃ a t, m xa = some (.int a t) ∧ G i a) ∧ ∀ z, z ≠ x → z ≠ xa → z ≠ xf → m z = m₀ z) hh hl hnl F N ⟨⟨_, _, ha, h0⟩, fun _ _ _ _ => rfl⟩ ?_ ?_
  · rintro i v m₁ h tk own hv hoff ⟨⟨a, ta, hm, hG⟩, hz⟩ F₁ N₁
    unfold strValues at hv
    rw [List.getElem?_map] at hv
    cases hp : mid[i]? with
    | none => rw [hp] at hv; cases hv
    | some q =>
      obtain ⟨p, tp⟩ := q
      rw [hp] at hv
      obtain rfl : Value.str p tp = v := Option.some.inj hv
      have e : (fun y => if y = x then some (Value.str p tp) else m₁ y) = fun y => if y = x then some (Value.str p tp) else if y = xa then some (Value.int a ta) else if y = xf then m₁ xf else m₀ y := by
        funext y
        by_cases h1 : y = x
        · simp only [h1, if_true]
        · simp only [h1, if_false]
          by_cases h2 : y = xa
          · simp only [h2, if_true, hm]
          · simp only [h2, if_false]
            by_cases h3 : y = xf
            · simp only [h3, if_true]
            · simp only [h3, if_false]; exact hz y h1 h2 h3
      rw [e] at F₁
      exact turn i p tp a ta (m₁ xf) h tk own hp hoff hG F₁ N₁
  · rintro m₁ h tk ⟨⟨a, ta, hm, hG⟩, hz⟩ F₁ N₁
    have e : m₁ = fun y => if y = x then m₁ x else if y = xa then some (Value.int a ta) else if y = xf then m₁ xf else m₀ y := by
      funext y
      by_cases h1 : y = x
      · simp only [h1, if_true]
      · simp only [h1, if_false]
        by_cases h2 : y = xa
        · simp only [h2, if_true, hm]
        · simp only [h2, if_false]
          by_cases h3 : y = xf
          · simp only [h3, if_true]
          · simp only [h3, if_false]; exact hz y h1 h2 h3
    rw [e] at F₁
    have hlen : (strValues mid).length = mid.length := by unfold strValues; rw [List.length_map]
    rw [hlen] at hG
    exact done a ta _ _ h tk hG F₁ N₁
end

theorem part_fit {l : List Str} {k n : Nat} {y : Str} (h5 : ∀ a, a ∈ l → a.length ≤ n) (h2 : l[k]? = some y) (hn : n ≤ 12000000) : ¬ (y.length : Int) ≥ 2 ^ 63 := by
  have := h5 y (List.mem_of_getElem? h2)
  omega
local macro_rules | `(tactic| walk_at "call builtin:len") => `(tactic| (k_here; (with_reducible show wpAny _ _ (call (Value.builtin "len") [Value.str _ _]) _ _ _); (refine P.len_str (by first | exact part_fit (by assumption) (by assumption) (by assumption) | omega) ?_); (try dsimp only); walk_say "MY LEN"))

local macro_rules | `(tactic| walk_at "exec For Name Subscript cons nil") => `(tactic| (k_here; (rename Fr _ _ _ _ => lF'); (with_unfolding_all refine' For_invVF lF' ?k1 ?k2 ?_; (case k1 => exact rfl); (case k2 => exact rfl); k_whole); walk_say "MY FOR"))
local macro_rules | `(tactic| walk_at "pyIter ref") => `(tactic| ((with_reducible show wpAny _ _ (pyIter (Value.ref _)) (fun it s₂ => LoopAtV _ _ _ _ _ _ _ _ _ it s₂) _ _); refine stopP ?_; walk_say "STOP"))
local macro_rules | `(tactic| walk_at "InvEndN") => `(tactic| (refine stopP ?_; walk_say "STOP"))
local macro_rules | `(tactic| walk_at "subscriptTail Name BinOp ref int") => `(tactic| (refine stopP ?_; walk_say "STOP"))
-- the walk keeps its table of lines by their number alone: a number of lines that no part ahead has
local macro_rules | `(tactic| walk_at "mine pad") => `(tactic| skip)
theorem beq_str (x y : Str) : (x == y) = true ↔ cs x = cs y := by
  rw [beq_iff_eq]
  exact ⟨fun h => by rw [h], cs_inj⟩
theorem single_iff {name pat : Str} {l : List (Str × Tok)} (h : l.map (·.1) = Txt.split pat (Str.ofString "*")) (h1 : (l.length : Int) = 1) : (name == pat) = true ↔ Wild (cs name) (cs pat) := by
  obtain ⟨_, hf, hj⟩ := split_shape h
  match l, h1, hf, hj with
  | [(p, t)], _, hf, hj =>
    have hj : cs pat = cs p := hj
    have hp : 42 ∉ cs pat := hj ▸ hf p (by simp)
    rw [beq_str, wild_lit hp]
theorem parts_shape {pat : Str} {l : List (Str × Tok)} (h : l.map (·.1) = Txt.split pat (Str.ofString "*")) (h1 : (l.length : Int) ≠ 1) :
    ∃ p0 t0 mid p1 t1, l = (p0, t0) :: (mid ++ [(p1, t1)]) ∧ 42 ∉ cs p0 ∧ 42 ∉ cs p1 ∧ (∀ q ∈ mid, 42 ∉ cs q.1) ∧ cs pat = joinS (cs p0 :: mid.map fun q => cs q.1) ++ 42 :: cs p1 := by
  obtain ⟨hn, hf, hj⟩ := split_shape h
  cases l with
  | nil => exact absurd rfl hn
  | cons a r =>
    obtain ⟨p0, t0⟩ := a
    rcases List.eq_nil_or_concat r with rfl | ⟨mid, b, rfl⟩
    · exact absurd rfl h1
    · obtain ⟨p1, t1⟩ := b
      rw [List.concat_eq_append] at hf hj
      refine ⟨p0, t0, mid, p1, t1, by rw [List.concat_eq_append], hf p0 (by simp), hf p1 (by simp), fun q hq => hf q.1 (by simp; exact .inr (.inl ⟨q.2, hq⟩)), ?_⟩
      rw [hj]
      have e : List.map cs (List.map (·.1) ((p0, t0) :: (mid ++ [(p1, t1)]))) = (cs p0 :: mid.map fun q => cs q.1) ++ [cs p1] := by
        simp
      rw [e, joinS_append _ (by simp) (by simp)]
      rfl
theorem start_false {name pat y : Str} {l : List (Str × Tok)} (h : l.map (·.1) = Txt.split pat (Str.ofString "*")) (h1 : (l.length : Int) ≠ 1) (hy : (l.map (·.1))[Int.toNat 0]? = some y) (hs : Txt.startswith name y = false) : false = true ↔ Wild (cs name) (cs pat) := by
  obtain ⟨p0, t0, mid, p1, t1, rfl, f0, _, _, e⟩ := parts_shape h h1
  obtain rfl : p0 = y := Option.some.inj hy
  refine ⟨fun x => (nomatch x), fun x => ?_⟩
  have hp : cs p0 <+: cs name := by
    rw [e] at x
    cases mid with
    | nil => exact ((wild_free f0).mp x).1
    | cons q r =>
      rw [List.map_cons, joinS_cons _ (by simp), List.append_assoc] at x
      exact ((wild_free f0).mp x).1
  rw [(startswith_iff name p0).mpr hp] at hs
  cases hs

theorem pick_mid (p0 : Str) (t0 : Tok) (mid : List (Str × Tok)) (p1 : Str) (t1 : Tok) {k : Int} (hk : k = (((p0, t0) :: (mid ++ [(p1, t1)])).length : Int) - 1) :
    slicePick (strValues ((p0, t0) :: (mid ++ [(p1, t1)]))).toArray (some 1) (some k) none = (strValues mid).toArray := by
  have e : k = ((mid.length + 1 : Nat) : Int) := by
    rw [hk]
    simp only [List.length_cons, List.length_append, List.length_nil]
    omega
  have hsz : (strValues ((p0, t0) :: (mid ++ [(p1, t1)]))).toArray.size = mid.length + 2 := by simp [strValues]
  have := slicePick_run (strValues ((p0, t0) :: (mid ++ [(p1, t1)]))).toArray 1 (mid.length + 1) (by rw [hsz]; omega) (by omega)
  rw [e]
  refine this.trans ?_
  simp [strValues]
theorem news_ne {h₀ h : Heap} {L a b : Addr} {xs ys : Array Value} {n k : Nat} (N : News h₀ L h [(b, listOf ys k), (a, listOf xs n)]) (hne : xs.size ≠ ys.size) : ∀ p ∈ [(a, listOf xs n)], p.1 ≠ b := by
  intro p hp e
  obtain rfl := List.mem_singleton.mp hp
  have h1 := (N _ (List.Mem.head _)).1
  have h2 := (N _ (List.Mem.tail _ (List.Mem.head _))).1
  have e : a = b := e
  rw [e] at h2
  have h3 := Option.some.inj (h1.symm.trans h2)
  injection h3 with _ _ h4 _
  injection h4 with h5 _
  exact hne (congrArg Array.size h5).symm

theorem joined_at {p0 p1 p : Str} {tp : Tok} {mid : List (Str × Tok)} {i : Nat} (hi : mid[i]? = some (p, tp)) :
    ∃ r, joinS (cs p0 :: mid.map fun q => cs q.1) ++ 42 :: cs p1 = joinS (cs p0 :: (mid.take i).map fun q => cs q.1) ++ 42 :: (cs p ++ 42 :: r) := by
  have hlt : i < mid.length := by
    rcases Nat.lt_or_ge i mid.length with h | h
    · exact h
    · rw [List.getElem?_eq_none h] at hi; cases hi
  have hp : mid[i] = (p, tp) := by
    rw [List.getElem?_eq_getElem hlt] at hi
    exact Option.some.inj hi
  have e : mid = mid.take i ++ (p, tp) :: mid.drop (i + 1) := by
    rw [← hp, List.getElem_cons_drop, List.take_append_drop]
  have e2 : joinS (cs p0 :: mid.map fun q => cs q.1) ++ 42 :: cs p1 = joinS ((cs p0 :: mid.map fun q => cs q.1) ++ [cs p1]) := (joinS_append (cs p0 :: mid.map fun q => cs q.1) (b := [cs p1]) (by simp) (by simp)).symm
  have e3 : (cs p0 :: mid.map fun q => cs q.1) ++ [cs p1] = (cs p0 :: (mid.take i).map fun q => cs q.1) ++ (cs p :: ((mid.drop (i + 1)).map (fun q => cs q.1) ++ [cs p1])) := by
    conv => lhs; rw [e]
    simp
  refine ⟨joinS ((mid.drop (i + 1)).map (fun q => cs q.1) ++ [cs p1]), ?_⟩
  rw [e2, e3, joinS_append _ (by simp) (by simp), joinS_cons (cs p) (by simp)]
theorem part_missing {name pat p0 p1 p : Str} {tp : Tok} {mid : List (Str × Tok)} {i : Nat} {a : Int} (e : cs pat = joinS (cs p0 :: mid.map fun q => cs q.1) ++ 42 :: cs p1) (fm : ∀ q ∈ mid, 42 ∉ cs q.1) (hi : mid[i]? = some (p, tp))
    (hG : ∃ n : Nat, a = n ∧ Greedy (cs name) (joinS (cs p0 :: (mid.take i).map fun q => cs q.1)) n) (hneg : Txt.find3 name p a < 0) : false = true ↔ Wild (cs name) (cs pat) := by
  obtain ⟨n, rfl, G⟩ := hG
  obtain ⟨r, er⟩ := joined_at (p0 := p0) (p1 := p1) hi
  have fp : 42 ∉ cs p := fm (p, tp) (List.mem_of_getElem? hi)
  refine ⟨fun x => (nomatch x), fun x => ?_⟩
  rw [e, er] at x
  rcases find3_iff name p n (by rw [← cs_len]; exact G.1) with ⟨_, h⟩ | ⟨f, hf, _⟩
  · exact absurd x (greedy_miss G fp h)
  · omega
theorem part_found {name p0 p : Str} {tp : Tok} {mid : List (Str × Tok)} {i : Nat} {a : Int} (fm : ∀ q ∈ mid, 42 ∉ cs q.1) (hi : mid[i]? = some (p, tp))
    (hG : ∃ n : Nat, a = n ∧ Greedy (cs name) (joinS (cs p0 :: (mid.take i).map fun q => cs q.1)) n) (hge : ¬ Txt.find3 name p a < 0) :
    ∃ n : Nat, Txt.find3 name p a + (p.length : Int) = n ∧ Greedy (cs name) (joinS (cs p0 :: (mid.take (i + 1)).map fun q => cs q.1)) n := by
  obtain ⟨n, rfl, G⟩ := hG
  have fp : 42 ∉ cs p := fm (p, tp) (List.mem_of_getElem? hi)
  rcases find3_iff name p n (by rw [← cs_len]; exact G.1) with ⟨h, _⟩ | ⟨f, hf, h1, h2, h3, h4⟩
  · omega
  · refine ⟨f + p.length, by rw [hf]; rfl, ?_⟩
    have := greedy_step G fp h1 (by rw [cs_len, cs_len]; exact h2) h3 h4
    rw [cs_len] at this
    have e : (cs p0 :: (mid.take (i + 1)).map fun q => cs q.1) = (cs p0 :: (mid.take i).map fun q => cs q.1) ++ [cs p] := by
      rw [List.take_add_one, hi]
      simp
    rw [e, joinS_append _ (by simp) (by simp)]
    exact this
theorem joinS_len : ∀ ps : List (List Nat), ps.length ≤ (joinS ps).length + 1
  | [] => by simp
  | [x] => by simp
  | x :: y :: r => by
    have := joinS_len (y :: r)
    rw [joinS_cons x (by simp), List.length_append, List.length_cons (as := y :: r), List.length_cons (as := joinS (y :: r))]
    omega
theorem mid_len {pat p0 p1 : Str} {mid : List (Str × Tok)} (e : cs pat = joinS (cs p0 :: mid.map fun q => cs q.1) ++ 42 :: cs p1) (hp : pat.length ≤ 12000000) : mid.length ≤ 12000000 := by
  have h1 := congrArg List.length e
  have h2 := joinS_len (cs p0 :: mid.map fun q => cs q.1)
  rw [cs_len, List.length_append, List.length_cons] at h1
  rw [List.length_cons, List.length_map] at h2
  omega
theorem last_item (p0 : Str) (t0 : Tok) (mid : List (Str × Tok)) (p1 : Str) (t1 : Tok) : (strValues ((p0, t0) :: (mid ++ [(p1, t1)])))[((((p0, t0) :: (mid ++ [(p1, t1)])).length : Int) - 1).toNat]? = some (.str p1 t1) := by
  have e : ((((p0, t0) :: (mid ++ [(p1, t1)])).length : Int) - 1).toNat = mid.length + 1 := by
    simp only [List.length_cons, List.length_append, List.length_nil]
    omega
  rw [e]
  simp [strValues]
theorem ends_iff {name pat p0 p1 : Str} {mid : List (Str × Tok)} {a : Int} (e : cs pat = joinS (cs p0 :: mid.map fun q => cs q.1) ++ 42 :: cs p1) (f1 : 42 ∉ cs p1)
    (hG : ∃ n : Nat, a = n ∧ Greedy (cs name) (joinS (cs p0 :: (mid.take mid.length).map fun q => cs q.1)) n) : Wild (cs name) (cs pat) ↔ (p1.length : Int) ≤ name.length - a ∧ Txt.endswith name p1 = true := by
  obtain ⟨n, rfl, G⟩ := hG
  rw [List.take_length] at G
  have h := G.1
  rw [cs_len] at h
  rw [e, greedy_end G f1, endswith_iff, cs_len, cs_len]
  constructor
  · rintro ⟨x, y⟩
    exact ⟨by omega, y⟩
  · rintro ⟨x, y⟩
    exact ⟨by omega, y⟩
theorem my_litem {prog : Program} {w : World} {A : Around} {E : Value → Shared → Prop} {s : Shared} {value slice : Expr} {h₀ : Heap} {L l : Addr} {vs : List Value} {nn : Nat} {news : List (Addr × Obj)} {k : Int} {u : Tok} {v : Value} {Q : Value → Shared → Prop}
    (N : News h₀ L s.heap news) (hm : (l, listOf vs.toArray nn) ∈ news) (h0 : 0 ≤ k) (hhi : k < 2 ^ 63) (hx : vs[k.toNat]? = some v) (h : Q v s)
    (hs : subscripted slice false (.ref l) (.int k u) = operate [.ref l, .int k u] (getItem (.ref l) (.int k u)) := by with_unfolding_all rfl) : wpAny (model prog w) A (subscriptTail value slice (.ref l) (.int k u)) Q E s := by
  have hl : s.heap.IsList l vs.toArray := ⟨_, (N _ hm).1, rfl, nn, rfl⟩
  exact tail_any hl.typeIs slot_list_getitem.lookup (wpAny_getItem_list hl h0 hhi (by simpa using hx) h) hs

set_option maxHeartbeats 4000000 in
theorem match_tells (w : World) (mean : ExcName → Option Value) (mg mb : Str → Option Value) (name pat : Str) (t t2 : Tok) (hn : name.length ≤ 100) (hp : pat.length ≤ 12000000) :
    Tells w mean mg mb 1 21 [.str name t, .str pat t2] (fun _ r _ => ∃ b, r = .bool b ∧ (b = true ↔ Wild (cs name) (cs pat))) := by
  k_with_none; unfold Tells; k_fill
  intro dp un gd cn csc a ccd cl outer A₀ base h₀ L m s Q E B F X T hk hdp hu hret
  refine wpAny_call ?_
  k_dflt (refine' code_pure (binds := [(Str.ofString "name", .str name t), (Str.ofString "pattern", .str pat t2)]) ?k1 ?k2 ?k3 ?k5 ?kA ?kF ?kK ?k6 ?k7 ?k8 ?k9 ?kB ?_ ?c2 ?c3 ?c4 ?c5; (case kA => exact rfl); (case kF => exact rfl); (case kK => assumption); (case k1 => k_asm); (case k2 => k_asm); (case k3 => k_asm); (case k5 => k_asm); (case k6 => k_is); (case k7 => k_is); (case k8 => ktr_room); (case k9 => exact BindsTo.of_eq rfl); (case c5 => decide); (case kB => exact locs rfl); (case c2 => exact rfl); (case c3 => exact rfl); (case c4 => exact rfl); k_whole)
  intro L' h' F' N' B' X' T'
  dsimp only [List.reverse, List.reverseAux] at F'
  (try dsimp only); (try k_fold)
  clear B F X T hk
  k_steps
  · dsimp only
    rename (List.map _ _ = Txt.split _ _) => hsp
    rename (_ = (1 : Int)) => h1
    exact leaveP hret (by assumption) ⟨_, rfl, single_iff hsp h1⟩
  · rename (List.map _ _ = Txt.split _ _) => hsp
    rename (_ ≠ (1 : Int)) => h1
    unfold StopP
    rename (Txt.startswith _ _ = true) => hst
    rename Fr _ _ _ _ => hF
    rename News _ _ _ _ => hN
    obtain ⟨p0, t0, mid, p1, t1, rfl, f0, f1, fm, e⟩ := parts_shape hsp h1
    rw [pick_mid p0 t0 mid p1 t1 rfl] at hN
    rename (_[Int.toNat 0]? = some _) => hy
    obtain rfl : p0 = _ := Option.some.inj hy
    clear hy
    rename (_[Int.toNat 0]? = some _) => hy
    obtain rfl : p0 = _ := Option.some.inj hy
    clear hy
    show wpAny _ _ (pyIter (Value.ref _)) (fun it s₂ => LoopAtV _ _ _ _ _ _ _ _ _ it s₂) _ _
    refine' iter_parts (mid := mid) (Str.ofString "at") (Str.ofString "found") (fun i a => ∃ n : Nat, a = n ∧ Greedy (cs name) (joinS (cs p0 :: (mid.take i).map fun q => cs q.1)) n) rfl ?hl (news_ne hN ?hsz) hF ?hN ?hat ⟨p0.length, rfl, ?_⟩ ?hne ?_ ?_
    case hl => exact fun p hp => hN p (List.mem_singleton.mp hp ▸ List.Mem.head _)
    case hsz => (simp [strValues]; try omega)
    case hN => exact fun p hp => hN p (List.Mem.tail _ hp)
    case hat => exact rfl
    case hne => decide
    · exact cs_len p0 ▸ greedy_init f0 ((startswith_iff _ _).mp hst)
    · intro i p tp a ta u h tk own hi hoff hG F₁ N₁
      have hpl : p.length ≤ 12000000 := Nat.le_trans (by rename (∀ a, a ∈ List.map _ _ → _) => hb; exact hb p (by simp; exact .inr (.inl ⟨tp, List.mem_of_getElem? hi⟩))) hp
      clear hF hN
      (try k_fold)
      k_steps
      · rename (_ < (0 : Int)) => hlt
        rename Fr _ _ _ _ => hF
        exact leaveP hret hF ⟨_, rfl, part_missing e fm hi hG hlt⟩
      · rename (¬ _ < (0 : Int)) => hlt
        rename Fr _ _ _ _ => hF
        rename News _ _ _ _ => hN
        unfold StopP
        refine InvEndN.intro hF hN ⟨rfl, ⟨_, _, rfl, part_found fm hi hG hlt⟩, ?_⟩ rfl ?_ ?_
        · intro z h1 h2 h3
          simp only [h1, h2, h3, if_false]
        · intro q hq
          exact List.mem_append_left _ hq
        · intro q hq
          exact List.mem_append_right _ hq
    · intro a ta u v h tk hG F₁ N₁
      have hml := mid_len e hp
      have hpl : p1.length ≤ 12000000 := Nat.le_trans (by rename (∀ a, a ∈ List.map _ _ → _) => hb; exact hb p1 (by simp)) hp
      clear hF hN
      (try k_fold)
      (try dsimp only)
      k_steps
      unfold StopP
      rename News _ _ _ _ => hN
      refine' my_litem (v := .str p1 t1) hN (List.Mem.head _) ?g0 ?g1 ?gx ?_
      case g0 => simp; try omega
      case g1 => simp; omega
      case gx => exact last_item p0 t0 mid p1 t1
      (try k_fold)
      (try dsimp only)
      k_steps
      · rename Fr _ _ _ _ => hF
        refine leaveP hret hF ⟨_, rfl, ?_⟩
        rw [ends_iff e f1 hG]
        exact ⟨fun x => ⟨by assumption, x⟩, fun x => x.2⟩
      · rename Fr _ _ _ _ => hF
        refine leaveP hret hF ⟨_, rfl, ?_⟩
        rw [ends_iff e f1 hG, decide_eq_true_eq]
        exact ⟨fun x => absurd x (by assumption), fun x => x.1⟩
  · dsimp only
    rename (List.map _ _ = Txt.split _ _) => hsp
    rename (_ ≠ (1 : Int)) => h1
    exact leaveP hret (by assumption) ⟨_, rfl, start_false hsp h1 (by assumption) (by assumption)⟩
end Mine
end

section
namespace Mine
/-- the table's row behind i signs of the pattern -/
def RowOk (N P : List Nat) (i : Nat) (bs : List Bool) : Prop :=
  bs.length = N.length + 1 ∧ ∀ j, j ≤ N.length → (bs.getD j false = true ↔ Wild (N.take j) (P.take i))
theorem row_start (N P : List Nat) : RowOk N P 0 (true :: List.replicate N.length false) := by
  refine ⟨by simp, fun j hj => ?_⟩
  rw [List.take_zero, wild_nil]
  cases j with
  | zero => simp
  | succ j =>
    have h1 : (true :: List.replicate N.length false).getD (j + 1) false = false := by
      rw [List.getD_cons_succ, List.getD_eq_getElem?_getD, List.getElem?_replicate]
      split <;> rfl
    rw [h1]
    refine ⟨fun h => (nomatch h), fun h => ?_⟩
    have := congrArg List.length h
    rw [List.length_take, List.length_nil] at this
    omega
theorem row_end {N P : List Nat} {bs : List Bool} (R : RowOk N P P.length bs) : bs.getD N.length false = true ↔ Wild N P := by
  have := R.2 N.length (Nat.le_refl _)
  rwa [List.take_length, List.take_length] at this
theorem take_succ_of {P : List Nat} {i c : Nat} (h : P[i]? = some c) : P.take (i + 1) = P.take i ++ [c] := by rw [List.take_add_one, h]; rfl
theorem row_star {N P : List Nat} {i : Nat} {bs new : List Bool} (R : RowOk N P i bs) (hc : P[i]? = some 42) (hl : new.length = N.length + 1)
    (h : ∀ j, j < N.length + 1 → (new.getD j false = true ↔ ∃ k, k ≤ j ∧ bs.getD k false = true)) : RowOk N P (i + 1) new := by
  refine ⟨hl, fun j hj => ?_⟩
  rw [h j (by omega), take_succ_of hc, wild_snoc_star]
  constructor
  · rintro ⟨k, hk, hb⟩
    refine ⟨k, by rw [List.length_take]; omega, ?_⟩
    rw [List.take_take, Nat.min_eq_left hk]
    exact (R.2 k (by omega)).mp hb
  · rintro ⟨k, hk, hw⟩
    rw [List.length_take] at hk
    rw [List.take_take, Nat.min_eq_left (by omega)] at hw
    exact ⟨k, by omega, (R.2 k (by omega)).mpr hw⟩
theorem row_char {N P : List Nat} {i c : Nat} {bs new : List Bool} (R : RowOk N P i bs) (hc : P[i]? = some c) (hc2 : c ≠ 42) (hl : new.length = N.length + 1) (h0 : new.getD 0 false = false)
    (h : ∀ j, j < N.length → (new.getD (j + 1) false = true ↔ bs.getD j false = true ∧ N[j]? = some c)) : RowOk N P (i + 1) new := by
  refine ⟨hl, fun j hj => ?_⟩
  rw [take_succ_of hc, wild_snoc_char hc2]
  cases j with
  | zero =>
    rw [h0]
    refine ⟨fun h => (nomatch h), ?_⟩
    rintro ⟨n', e, _⟩
    rw [List.take_zero] at e
    exact absurd e (by simp)
  | succ j =>
    rw [h j (by omega), R.2 j (by omega)]
    constructor
    · rintro ⟨a, b⟩
      exact ⟨N.take j, take_succ_of b, a⟩
    · rintro ⟨n', e, hw⟩
      have hj' : j < N.length := by omega
      have e2 : N.take (j + 1) = N.take j ++ [N[j]] := take_succ_of (List.getElem?_eq_getElem hj')
      rw [e2] at e
      have e3 := List.append_inj e (by
        have := congrArg List.length e
        rw [List.length_append, List.length_append] at this
        simpa using this)
      refine ⟨e3.1 ▸ hw, ?_⟩
      rw [List.getElem?_eq_getElem hj']
      exact congrArg some (List.cons.inj e3.2).1

def StarW (bs : List Bool) (n k : Nat) (seen : Bool) (new : List Bool) : Prop :=
  new.length = n + 1 ∧ (seen = true ↔ ∃ i, i < k ∧ bs.getD i false = true) ∧ ∀ j, j < k → (new.getD j false = true ↔ ∃ i, i ≤ j ∧ bs.getD i false = true)
theorem starW_start (bs : List Bool) {n : Nat} {new : List Bool} (h : new.length = n + 1) : StarW bs n 0 false new :=
  ⟨h, ⟨fun x => (nomatch x), fun ⟨_, x, _⟩ => absurd x (Nat.not_lt_zero _)⟩, fun _ x => absurd x (Nat.not_lt_zero _)⟩
theorem getD_set (l : List Bool) (k j : Nat) (b : Bool) (hk : k < l.length) : (l.set k b).getD j false = if j = k then b else l.getD j false := by
  rw [List.getD_eq_getElem?_getD, List.getElem?_set, List.getD_eq_getElem?_getD]
  by_cases e : k = j
  · subst e
    simp [hk]
  · have e' : ¬ j = k := fun x => e x.symm
    simp [e, e']
theorem starW_step {bs : List Bool} {n k : Nat} {seen b : Bool} {new : List Bool} (W : StarW bs n k seen new) (hk : k < n + 1) (hb : b = (seen || bs.getD k false)) : StarW bs n (k + 1) b (new.set k b) := by
  obtain ⟨h1, h2, h3⟩ := W
  have key : b = true ↔ ∃ i, i < k + 1 ∧ bs.getD i false = true := by
    rw [hb, Bool.or_eq_true, h2]
    constructor
    · rintro (⟨i, a, c⟩ | c)
      · exact ⟨i, by omega, c⟩
      · exact ⟨k, by omega, c⟩
    · rintro ⟨i, a, c⟩
      rcases Nat.lt_succ_iff_lt_or_eq.mp a with q | q
      · exact .inl ⟨i, q, c⟩
      · exact .inr (q ▸ c)
  refine ⟨by rw [List.length_set]; exact h1, key, fun j hj => ?_⟩
  rw [getD_set _ _ _ _ (by omega)]
  by_cases e : j = k
  · rw [if_pos e, key, e]
    exact ⟨fun ⟨i, a, c⟩ => ⟨i, by omega, c⟩, fun ⟨i, a, c⟩ => ⟨i, by omega, c⟩⟩
  · rw [if_neg e]
    exact h3 j (by omega)
def CharW (bs : List Bool) (N : List Nat) (c k : Nat) (new : List Bool) : Prop :=
  new.length = N.length + 1 ∧ new.getD 0 false = false ∧ (∀ j, j < k → (new.getD (j + 1) false = true ↔ bs.getD j false = true ∧ N[j]? = some c)) ∧ ∀ j, k < j → new.getD j false = false
theorem charW_start (bs : List Bool) (N : List Nat) (c : Nat) : CharW bs N c 0 (List.replicate (N.length + 1) false) := by
  have z : ∀ j, (List.replicate (N.length + 1) false).getD j false = false := fun j => by
    rw [List.getD_eq_getElem?_getD, List.getElem?_replicate]
    split <;> rfl
  exact ⟨by simp, z 0, fun _ x => absurd x (Nat.not_lt_zero _), fun j _ => z j⟩
theorem charW_set {bs : List Bool} {N : List Nat} {c k : Nat} {new : List Bool} (W : CharW bs N c k new) (hk : k < N.length) (hb : bs.getD k false = true) (hc : N[k]? = some c) : CharW bs N c (k + 1) (new.set (k + 1) true) := by
  obtain ⟨h1, h2, h3, h4⟩ := W
  refine ⟨by rw [List.length_set]; exact h1, ?_, fun j hj => ?_, fun j hj => ?_⟩
  · rw [getD_set _ _ _ _ (by omega), if_neg (by omega)]; exact h2
  · rw [getD_set _ _ _ _ (by omega)]
    by_cases e : j = k
    · subst e
      rw [if_pos rfl]
      exact ⟨fun _ => ⟨hb, hc⟩, fun _ => rfl⟩
    · rw [if_neg (by omega)]
      exact h3 j (by omega)
  · rw [getD_set _ _ _ _ (by omega), if_neg (by omega)]
    exact h4 j (by omega)
theorem charW_no {bs : List Bool} {N : List Nat} {c k : Nat} {new : List Bool} (W : CharW bs N c k new) (h : ¬ (bs.getD k false = true ∧ N[k]? = some c)) : CharW bs N c (k + 1) new := by
  obtain ⟨h1, h2, h3, h4⟩ := W
  refine ⟨h1, h2, fun j hj => ?_, fun j hj => h4 j (by omega)⟩
  rcases Nat.lt_succ_iff_lt_or_eq.mp hj with q | q
  · exact h3 j q
  · subst q
    rw [h4 _ (Nat.lt_succ_self _)]
    exact ⟨fun x => (nomatch x), fun x => absurd x h⟩
theorem row_of_star {N P : List Nat} {i : Nat} {bs new : List Bool} {seen : Bool} (R : RowOk N P i bs) (hc : P[i]? = some 42) (W : StarW bs N.length (N.length + 1) seen new) : RowOk N P (i + 1) new := row_star R hc W.1 W.2.2
theorem row_of_char {N P : List Nat} {i c : Nat} {bs new : List Bool} (R : RowOk N P i bs) (hc : P[i]? = some c) (hc2 : c ≠ 42) (W : CharW bs N c N.length new) : RowOk N P (i + 1) new := row_char R hc hc2 W.1 W.2.1 W.2.2.1
end Mine
end

section
open PySem PySem.W PySem.Calls PySem.Spec PyProof.Rows LSm
set_option maxRecDepth 100000
namespace Mine
local macro_rules | `(tactic| walk_at "subscriptTail") => `(tactic| (k_here; (with_reducible show wpAny _ _ (subscriptTail _ _ (Value.str _ _) (Value.int _ _)) _ _ _); (refine my_item (by omega) (by omega) (by omega) ?_); intro c9 k9 u9 e9; (try dsimp only); walk_say "MY ITEM"))
local macro_rules | `(tactic| walk_at "subscriptTail Name Name str int") => `(tactic| (k_here; (with_reducible show wpAny _ _ (subscriptTail _ _ (Value.str _ _) (Value.int _ _)) _ _ _); (refine my_item (by omega) (by omega) (by omega) ?_); intro c9 k9 u9 e9; (try dsimp only); walk_say "MY ITEM"))
local macro_rules | `(tactic| walk_at "subscriptTail Name Call str int") => `(tactic| (k_here; (with_reducible show wpAny _ _ (subscriptTail _ _ (Value.str _ _) (Value.int _ _)) _ _ _); (refine my_item (by omega) (by omega) (by omega) ?_); intro c9 k9 u9 e9; (try dsimp only); walk_say "MY ITEM"))
local macro_rules | `(tactic| walk_at "InvEndN") => `(tactic| k_dflt kst_close)
local macro_rules | `(tactic| walk_at "subscriptTail Name Name ref int") => `(tactic| (k_here; k_dflt (refine' kbo_sub ?k1 ?k2 ?k3 ?k4 ?k5 ?k6 ?_ ?k7; (case k1 => k_asm); (case k2 => k_mem); (case k3 => with_reducible assumption); (case k4 => omega); (case k5 => omega); (case k6 => omega); (case k7 => with_unfolding_all rfl); k_whole); walk_say "MY BOOL"))
local macro_rules | `(tactic| walk_at "call builtin:len") => `(tactic| (k_here; (with_reducible show wpAny _ _ (call (Value.builtin "len") [Value.str _ _]) _ _ _); (refine P.len_str (by omega) ?_); (try dsimp only); walk_say "MY LEN"))
section
variable {prog : Program} {w : World} {A : Around} {E : Value → Shared → Prop} {s : Shared} {h₀ : Heap} {L l b : Addr} {m : Str → Option Value} {news : List (Addr × Obj)} {Q : Value → Shared → Prop}
theorem rep_flat (n : Nat) : (List.replicate n [false]).flatten = List.replicate n false := by
  induction n with
  | zero => rfl
  | succ n ih => rw [List.replicate_succ, List.replicate_succ, List.flatten_cons, ih]; rfl
theorem rep_false {nn : Nat} {k : Int} {u : Tok} (F : Fr h₀ L s.heap m) (N : News h₀ L s.heap news) (hm : (l, listOf #[Value.bool false] nn) ∈ news) (h0 : 0 ≤ k) (h1 : k ≤ 200)
    (h : ∀ D vs h', Fr h₀ L h' m → News h₀ L h' ((D, listOf (List.toArray vs) 0) :: news) → (∀ p ∈ news, p.1 < D) → BoolsAre vs (List.replicate k.toNat false) → Q (.ref D) { s with heap := h' }) :
    wpAny (model prog w) A (binaryOp .Mult (.ref l) (.int k u)) Q E s := by
  refine kbo_mul (vs := [.bool false]) (bs := [false]) F N ⟨_, (N _ hm).1, rfl, nn, rfl⟩ (.cons _ .nil) (by omega) (by omega) (by simp; omega) ?_
  intro D h' F' N' l1 hb _ _ _ _ _ _
  rw [rep_flat] at hb
  exact h D _ h' F' N' l1 hb
theorem cat_bools {n1 n2 : Nat} {xs ys : List Value} {bs cs : List Bool} (F : Fr h₀ L s.heap m) (N : News h₀ L s.heap news) (hm : (l, listOf xs.toArray n1) ∈ news) (hm2 : (b, listOf ys.toArray n2) ∈ news) (hb1 : BoolsAre xs bs) (hb2 : BoolsAre ys cs) (hsz : bs.length + cs.length ≤ 1000)
    (h : ∀ D h', Fr h₀ L h' m → News h₀ L h' ((D, listOf (xs ++ ys).toArray 0) :: news) → (∀ p ∈ news, p.1 < D) → BoolsAre (xs ++ ys) (bs ++ cs) → Q (.ref D) { s with heap := h' }) :
    wpAny (model prog w) A (binaryOp .Add (.ref l) (.ref b)) Q E s := by
  have e1 := hb1.length
  have e2 := hb2.length
  refine add_arrays F N ⟨_, (N _ hm).1, rfl, n1, rfl⟩ ⟨_, (N _ hm2).1, rfl, n2, rfl⟩ (fun h' F' N' => ?_) (by rw [List.size_toArray, List.size_toArray, sizeLine_eq]; omega)
  exact h _ h' F' N' (fun p hp => Heap.lt_size (N p hp).1) (kbo_app hb1 hb2)
end
local macro_rules | `(tactic| walk_at "binaryOp Mult ref int") => `(tactic| (k_here; (with_reducible show wpAny _ _ (binaryOp Operator.Mult (Value.ref _) (Value.int _ _)) _ _ _); k_dflt (refine' rep_false ?k1 ?k2 ?k3 ?k4 ?k5 ?_; (case k1 => k_asm); (case k2 => k_asm); (case k3 => k_mem); (case k4 => omega); (case k5 => omega); k_whole); (intro D9 v9 h9 F9 N9 l9 b9); (try k_lt l9); (try k_sweep); walk_say "MY MULT"))
local macro_rules | `(tactic| walk_at "binaryOp Add") => `(tactic| (k_here; (with_reducible show wpAny _ _ (binaryOp Operator.Add (Value.ref _) (Value.ref _)) _ _ _); k_dflt (refine' cat_bools ?k1 ?k2 ?k3 ?k4 (BoolsAre.cons _ BoolsAre.nil) ?k6 ?k7 ?_; (case k1 => k_asm); (case k2 => k_asm); (case k3 => k_mem); (case k4 => k_mem); (case k6 => assumption); (case k7 => (simp; omega)); k_whole); (intro D9 h9 F9 N9 l9 b9); (try k_lt l9); (try k_sweep); walk_say "MY CAT"))

local macro_rules | `(tactic| walk_at "exec For Name Call cons nil") => `(tactic| (k_here; (with_reducible show wpAny _ _ (exec (Stmt.For (Expr.Name _ _) _ _ [] _) _) _ _ _); (rename Fr _ _ _ _ => lF'); (with_unfolding_all refine' For_invVF lF' ?k1 ?k2 ?_; (case k1 => exact rfl); (case k2 => exact rfl); k_whole); walk_say "MY FOR"))
local macro_rules | `(tactic| walk_at "pyIter ref") => `(tactic| ((with_reducible show wpAny _ _ (pyIter (Value.ref _)) (fun it s₂ => LoopAtV _ _ _ _ _ _ _ _ _ it s₂) _ _); refine stopP ?_; walk_say "STOP"))

/-- between the turns: one list of truth values, the row behind i signs, under the name row -/
def TwinJ (name pat : Str) (m₀ : Str → Option Value) (i : Nat) (m : Str → Option Value) (nx : List (Addr × Obj)) : Prop :=
  ∃ D vs c bs, nx = [(D, listOf (List.toArray vs) c)] ∧ BoolsAre vs bs ∧ RowOk (cs name) (cs pat) i bs ∧ m (Str.ofString "row") = some (.ref D) ∧
    ∀ z, z ≠ Str.ofString "k" → z ≠ Str.ofString "row" → [Str.ofString "new", Str.ofString "seen", Str.ofString "j"].contains z = false → m z = m₀ z
theorem twin_map {m m₀ : Str → Option Value} {v : Value} {D : Addr} (hr : m (Str.ofString "row") = some (.ref D)) (hz : ∀ z, z ≠ Str.ofString "k" → z ≠ Str.ofString "row" → [Str.ofString "new", Str.ofString "seen", Str.ofString "j"].contains z = false → m z = m₀ z) :
    (fun y => if y = Str.ofString "k" then some v else m y) = fun y => if y = Str.ofString "k" then some v else if y = Str.ofString "row" then some (.ref D) else if [Str.ofString "new", Str.ofString "seen", Str.ofString "j"].contains y then m y else m₀ y := by
  funext y
  by_cases h1 : y = Str.ofString "k"
  · simp only [h1, if_true]
  · simp only [h1, if_false]
    by_cases h2 : y = Str.ofString "row"
    · simp only [h2, if_true, hr]
    · simp only [h2, if_false]
      cases h3 : [Str.ofString "new", Str.ofString "seen", Str.ofString "j"].contains y with
      | true => simp only [if_true]
      | false => simp only [Bool.false_eq_true, if_false]; exact hz y h1 h2 h3
theorem twin_map2 {m m₀ : Str → Option Value} {D : Addr} (hr : m (Str.ofString "row") = some (.ref D)) (hz : ∀ z, z ≠ Str.ofString "k" → z ≠ Str.ofString "row" → [Str.ofString "new", Str.ofString "seen", Str.ofString "j"].contains z = false → m z = m₀ z) :
    m = fun y => if y = Str.ofString "k" then m y else if y = Str.ofString "row" then some (.ref D) else if [Str.ofString "new", Str.ofString "seen", Str.ofString "j"].contains y then m y else m₀ y := by
  funext y
  by_cases h1 : y = Str.ofString "k"
  · simp only [h1, if_true]
  · simp only [h1, if_false]
    by_cases h2 : y = Str.ofString "row"
    · simp only [h2, if_true, hr]
    · simp only [h2, if_false]
      cases h3 : [Str.ofString "new", Str.ofString "seen", Str.ofString "j"].contains y with
      | true => simp only [if_true]
      | false => simp only [Bool.false_eq_true, if_false]; exact hz y h1 h2 h3

theorem len_s (name : Str) : ((name.length : Int) + 1).toNat = name.length + 1 := by omega
theorem starW_P0 (bs : List Bool) (name : Str) : (List.replicate ((name.length : Int) + 1).toNat false).length = name.length + 1 ∧ StarW bs name.length ([] : List Int).length false (List.replicate ((name.length : Int) + 1).toNat false) := by
  rw [len_s]
  exact ⟨List.length_replicate .., starW_start bs (List.length_replicate ..)⟩
theorem charW_P0 (bs : List Bool) (name pat : Str) (i : Nat) : (List.replicate ((name.length : Int) + 1).toNat false).length = name.length + 1 ∧ ∀ c, (cs pat)[i]? = some c → CharW bs (cs name) c ([] : List Int).length (List.replicate ((name.length : Int) + 1).toNat false) := by
  rw [len_s, ← cs_len]
  exact ⟨List.length_replicate .., fun c _ => charW_start bs (cs name) c⟩

theorem beq_one {a b : Nat} : ((⟨#[a]⟩ : Str) == ⟨#[b]⟩) = true ↔ a = b := by
  rw [beq_iff_eq]
  exact ⟨fun h => by injection h with h; injection h with h; injection h, fun h => by rw [h]⟩
theorem starW_P1 {bs : List Bool} {name : Str} {pre : List Int} {k : Int} {seen : Bool} {new : List Bool} (W : StarW bs name.length pre.length seen new) (hk : k = 0 + (pre.length : Int)) (hlt : pre.length < ((name.length : Int) + 1 - 0).toNat) (hl : new.length = name.length + 1) (hs : seen = true) :
    (new.set k.toNat seen).length = name.length + 1 ∧ StarW bs name.length (pre ++ [k]).length seen (new.set k.toNat seen) := by
  have e : k.toNat = pre.length := by omega
  rw [e, List.length_append, List.length_singleton, List.length_set]
  exact ⟨hl, starW_step W (by omega) (by rw [hs, Bool.true_or])⟩
theorem starW_P2 {bs : List Bool} {name : Str} {pre : List Int} {k : Int} {seen : Bool} {new : List Bool} (W : StarW bs name.length pre.length seen new) (hk : k = 0 + (pre.length : Int)) (hlt : pre.length < ((name.length : Int) + 1 - 0).toNat) (hl : new.length = name.length + 1) (hs : seen = false) :
    (new.set k.toNat (bs.getD k.toNat false)).length = name.length + 1 ∧ StarW bs name.length (pre ++ [k]).length (bs.getD k.toNat false) (new.set k.toNat (bs.getD k.toNat false)) := by
  have e : k.toNat = pre.length := by omega
  rw [e, List.length_append, List.length_singleton, List.length_set]
  exact ⟨hl, starW_step W (by omega) (by rw [hs, Bool.false_or])⟩
theorem charW_P1 {bs : List Bool} {name pat : Str} {i c1 c2 : Nat} {pre : List Int} {k : Int} {new : List Bool} (W : ∀ c, (cs pat)[i]? = some c → CharW bs (cs name) c pre.length new) (hk : k = 0 + (pre.length : Int)) (hlt : pre.length < ((name.length : Int) - 0).toNat) (hl : new.length = name.length + 1)
    (hb : bs.getD k.toNat false = true) (e1 : name.cps.toList[k.toNat]? = some c1) (e2 : pat.cps.toList[(i : Int).toNat]? = some c2) (h : ((⟨#[c1]⟩ : Str) == ⟨#[c2]⟩) = true) :
    (new.set (k + 1).toNat true).length = name.length + 1 ∧ ∀ c, (cs pat)[i]? = some c → CharW bs (cs name) c (pre ++ [k]).length (new.set (k + 1).toNat true) := by
  have e : k.toNat = pre.length := by omega
  have e' : (k + 1).toNat = pre.length + 1 := by omega
  rw [e', List.length_append, List.length_singleton, List.length_set]
  rw [e] at hb e1
  refine ⟨hl, fun c hc => charW_set (W c hc) (by rw [cs_len]; omega) hb ?_⟩
  rw [Int.toNat_natCast] at e2
  have hc2 : c2 = c := Option.some.inj (e2.symm.trans hc)
  rw [← hc2, ← beq_one.mp h]
  exact e1
theorem charW_P2 {bs : List Bool} {name pat : Str} {i c1 c2 : Nat} {pre : List Int} {k : Int} {new : List Bool} (W : ∀ c, (cs pat)[i]? = some c → CharW bs (cs name) c pre.length new) (hk : k = 0 + (pre.length : Int)) (hl : new.length = name.length + 1)
    (e1 : name.cps.toList[k.toNat]? = some c1) (e2 : pat.cps.toList[(i : Int).toNat]? = some c2) (h : ((⟨#[c1]⟩ : Str) == ⟨#[c2]⟩) = false) :
    new.length = name.length + 1 ∧ ∀ c, (cs pat)[i]? = some c → CharW bs (cs name) c (pre ++ [k]).length new := by
  have e : k.toNat = pre.length := by omega
  rw [List.length_append, List.length_singleton]
  rw [e] at e1
  rw [Int.toNat_natCast] at e2
  refine ⟨hl, fun c hc => charW_no (W c hc) fun x => ?_⟩
  have hc2 : c2 = c := Option.some.inj (e2.symm.trans hc)
  have hc1 : c1 = c := Option.some.inj (e1.symm.trans x.2)
  rw [beq_one.mpr (hc1.trans hc2.symm)] at h
  cases h
theorem charW_P3 {bs : List Bool} {name pat : Str} {i : Nat} {pre : List Int} {k : Int} {new : List Bool} (W : ∀ c, (cs pat)[i]? = some c → CharW bs (cs name) c pre.length new) (hk : k = 0 + (pre.length : Int)) (hl : new.length = name.length + 1)
    (hb : bs.getD k.toNat false = false) : new.length = name.length + 1 ∧ ∀ c, (cs pat)[i]? = some c → CharW bs (cs name) c (pre ++ [k]).length new := by
  have e : k.toNat = pre.length := by omega
  rw [List.length_append, List.length_singleton]
  rw [e] at hb
  exact ⟨hl, fun c hc => charW_no (W c hc) fun x => by rw [hb] at x; exact nomatch x.1⟩
theorem apart {D₁ D₂ D₃ : Addr} {o₂ o₃ : Obj} {own kOwn : List (Addr × Obj)} {r : List Addr} (h : D₂ < D₁ ∧ AllLt D₁ ([(D₃, o₃)] ++ own)) (hk : OwnOff kOwn (D₁ :: r)) : ∀ p ∈ (D₂, o₂) :: (D₃, o₃) :: (own ++ kOwn), p.1 ≠ D₁ := by
  intro p hp
  rcases List.mem_cons.mp hp with rfl | hp
  · exact Nat.ne_of_lt h.1
  · have h2 := kst_ltOf h.2
    rcases List.mem_cons.mp hp with rfl | hp
    · exact Nat.ne_of_lt (h2 _ (List.Mem.head _))
    · rcases List.mem_append.mp hp with hp | hp
      · exact Nat.ne_of_lt (h2 p (List.Mem.tail _ hp))
      · exact hk p hp D₁ (List.Mem.head _)
theorem apart_own {D₁ D₂ D₃ : Addr} {o₃ : Obj} {own : List (Addr × Obj)} (h : D₂ < D₁ ∧ AllLt D₁ ([(D₃, o₃)] ++ own)) {o : Obj} : OwnOff own ([(D₁, o)].map (·.1)) := by
  intro p hp b hb
  rw [List.mem_singleton.mp hb]
  exact Nat.ne_of_lt (kst_ltOf h.2 p (List.Mem.tail _ hp))
theorem sign_star {pat : Str} {i c : Nat} (e : pat.cps.toList[(i : Int).toNat]? = some c) (h : ((⟨#[c]⟩ : Str) == Str.ofString "*") = true) : (cs pat)[i]? = some 42 := by
  rw [star_is] at h
  rw [Int.toNat_natCast] at e
  rw [← beq_one.mp h]
  exact e
theorem sign_char {pat : Str} {i c : Nat} (e : pat.cps.toList[(i : Int).toNat]? = some c) (h : ((⟨#[c]⟩ : Str) == Str.ofString "*") = false) : (cs pat)[i]? = some c ∧ c ≠ 42 := by
  rw [Int.toNat_natCast] at e
  refine ⟨e, fun x => ?_⟩
  rw [star_is, beq_one.mpr x] at h
  cases h
theorem star_whole {bs new : List Bool} {name : Str} {seen : Bool} (W : StarW bs name.length (rangeKs 0 ((name.length : Int) + 1 - 0).toNat).length seen new) : StarW bs (cs name).length ((cs name).length + 1) seen new := by
  rw [rangeKs_length, Int.sub_zero, len_s] at W
  rw [cs_len]
  exact W
theorem char_whole {bs new : List Bool} {name pat : Str} {i : Nat} (W : ∀ c, (cs pat)[i]? = some c → CharW bs (cs name) c (rangeKs 0 ((name.length : Int) - 0).toNat).length new) {c : Nat} (hc : (cs pat)[i]? = some c) : CharW bs (cs name) c (cs name).length new := by
  have := W c hc
  rw [rangeKs_length, Int.sub_zero, Int.toNat_natCast] at this
  rw [cs_len]
  exact this
theorem not_three {z : Str} (h : [Str.ofString "new", Str.ofString "seen", Str.ofString "j"].contains z = false) : z ≠ Str.ofString "new" ∧ z ≠ Str.ofString "seen" ∧ z ≠ Str.ofString "j" := by
  simpa [List.contains_cons, List.contains_nil, Bool.or_eq_false_iff, beq_eq_false_iff_ne] using h
theorem twin_end {name pat : Str} {bs : List Bool} (R : RowOk (cs name) (cs pat) pat.length bs) : bs.getD (name.length : Int).toNat false = true ↔ Wild (cs name) (cs pat) := by
  rw [Int.toNat_natCast]
  rw [← cs_len pat] at R
  have := row_end R
  rwa [cs_len] at this
local macro_rules | `(tactic| walk_at "setItem ref int") => `(tactic| (k_here; (with_reducible show wpAny _ _ (setItem (Value.ref _) (Value.int _ _) (Value.bool _)) _ _ _); k_dflt (refine' kbo_set ?k1 ?k2 ?k3 ?k4 ?k5 ?k6 ?k7 ?_; (case k1 => k_asm); (case k2 => k_asm); (case k3 => exact Upd.head (apart (by assumption) (by assumption))); (case k4 => with_reducible assumption); (case k5 => omega); (case k6 => omega); (case k7 => omega); k_whole); (intro h9 F9 N9 b9 l9); (try k_sweep); walk_say "MY SET"))

set_option maxHeartbeats 4000000 in
theorem twin_tells (w : World) (mean : ExcName → Option Value) (mg mb : Str → Option Value) (name pat : Str) (t t2 : Tok) (hn : name.length ≤ 100) (hp : pat.length ≤ 12000000) :
    Tells w mean mg mb 1 70 [.str name t, .str pat t2] (fun _ r _ => ∃ b, r = .bool b ∧ (b = true ↔ Wild (cs name) (cs pat))) := by
  k_with_none; unfold Tells; k_fill
  intro dp un gd cn csc a ccd cl outer A₀ base h₀ L m s Q E B F X T hk hdp hu hret
  refine wpAny_call ?_
  k_dflt (refine' code_pure (binds := [(Str.ofString "name", .str name t), (Str.ofString "pat", .str pat t2)]) ?k1 ?k2 ?k3 ?k5 ?kA ?kF ?kK ?k6 ?k7 ?k8 ?k9 ?kB ?_ ?c2 ?c3 ?c4 ?c5; (case kA => exact rfl); (case kF => exact rfl); (case kK => assumption); (case k1 => k_asm); (case k2 => k_asm); (case k3 => k_asm); (case k5 => k_asm); (case k6 => k_is); (case k7 => k_is); (case k8 => ktr_room); (case k9 => exact BindsTo.of_eq rfl); (case c5 => decide); (case kB => exact locs rfl); (case c2 => exact rfl); (case c3 => exact rfl); (case c4 => exact rfl); k_whole)
  intro L' h' F' N' B' X' T'
  dsimp only [List.reverse, List.reverseAux] at F'
  (try dsimp only); (try k_fold)
  clear B F X T hk
  k_steps
  unfold StopP
  rename Fr _ _ _ _ => hF
  rename News _ _ _ _ => hN
  rename IsRange _ _ _ _ _ _ _ _ => hR
  rename BoolsAre _ _ => hB
  refine' range_free (n := pat.length) (TwinJ name pat _) rfl hR ?hs ?hn hF (fun p hp => hN p (List.mem_singleton.mp hp ▸ List.Mem.head _)) ⟨_, _, _, _, rfl, hB, ?h0, rfl, fun _ _ _ _ => rfl⟩ ?_ ?_
  case hs => exact small_one (by omega) (by omega) (by omega) (by omega)
  case hn => exact rangeSize_nat _ _
  case h0 => exact row_start _ _
  · rintro i tk₁ m₁ nx h₁ tk' own hi hoff ⟨D, vs, c, bs, rfl, hb, hrow, hr, hz⟩ F₁ N₁
    rw [twin_map hr hz] at F₁
    have kopnM := kstMark
    have hbl : bs.length = name.length + 1 := by rw [hrow.1, cs_len]
    clear hF hN hR hB
    (try k_fold)
    k_with "state" => first
      | exact starW_P0 bs name
      | exact charW_P0 bs name pat i
      | exact starW_P1 (by assumption) (by assumption) (by assumption) (by assumption) (by assumption)
      | exact starW_P2 (by assumption) (by assumption) (by assumption) (by assumption) (by assumption)
      | exact charW_P1 (by assumption) (by assumption) (by assumption) (by assumption) (by assumption) (by assumption) (by assumption) (by assumption)
      | exact charW_P2 (by assumption) (by assumption) (by assumption) (by assumption) (by assumption) (by assumption)
      | exact charW_P3 (by assumption) (by assumption) (by assumption) (by assumption)
    k_steps
    · unfold StopP
      k_state (fun pre seen new => new.length = name.length + 1 ∧ StarW bs name.length pre.length seen new) "seen" "new"
      · k_steps
      · k_steps
        rename Fr _ _ _ _ => hF'
        rename News _ _ _ _ => hN'
        rename StarW _ _ _ _ _ => hW
        rename BoolsAre _ _ => hB'
        refine' InvEndG.intro hF' hN' ⟨_, _, _, _, rfl, hB', row_of_star hrow (sign_star (by assumption) (by assumption)) (star_whole hW), rfl, ?same⟩ (apart_own (by assumption)) (fun p hp => List.mem_singleton.mp hp ▸ List.Mem.head _) (fun p hp => List.Mem.tail _ (List.Mem.tail _ (List.Mem.tail _ hp)))
        case same =>
          intro z z1 z2 z3
          obtain ⟨z4, z5, z6⟩ := not_three z3
          simp only [z1, z2, z3, z4, z5, z6, if_false, List.contains_nil, Bool.false_eq_true]
    · unfold StopP
      k_state (fun pre new => new.length = name.length + 1 ∧ ∀ c, (cs pat)[i]? = some c → CharW bs (cs name) c pre.length new) "new"
      · k_steps
      · k_steps
        rename Fr _ _ _ _ => hF'
        rename News _ _ _ _ => hN'
        rename (∀ c, _ → CharW _ _ _ _ _) => hW
        rename BoolsAre _ _ => hB'
        have hsc := sign_char (pat := pat) (i := i) (by assumption) (by assumption)
        refine' InvEndG.intro hF' hN' ⟨_, _, _, _, rfl, hB', row_of_char hrow hsc.1 hsc.2 (char_whole hW hsc.1), rfl, ?same⟩ (apart_own (by assumption)) (fun p hp => List.mem_singleton.mp hp ▸ List.Mem.head _) (fun p hp => List.Mem.tail _ (List.Mem.tail _ (List.Mem.tail _ hp)))
        case same =>
          intro z z1 z2 z3
          obtain ⟨z4, z5, z6⟩ := not_three z3
          simp only [z1, z2, z3, z4, z5, z6, if_false, List.contains_nil, Bool.false_eq_true]
  · rintro m₁ nx h₁ tk' ⟨D, vs, c, bs, rfl, hb, hrow, hr, hz⟩ F₁ N₁
    rw [twin_map2 hr hz] at F₁
    have hbl : bs.length = name.length + 1 := by rw [hrow.1, cs_len]
    clear hF hN hR hB
    (try dsimp only)
    (try k_fold)
    k_steps
    exact leaveP hret (by assumption) ⟨_, rfl, twin_end hrow⟩
end Mine
end

section
open PySem PySem.W PySem.Calls PySem.Spec PyProof.Rows
set_option maxRecDepth 100000
namespace Mine
local macro_rules | `(tactic| walk_at "call ref") => `(tactic| (k_here; k_dflt (refine' tells_use (match_tells _ _ _ _ _ _ _ _ ?c1 ?c2) ?k1 ?k2 ?k3 ?k4 ?k5 ?kK ?kd ?ku ?_; (case k1 => k_asm); (case k2 => k_asm); (case k3 => k_asm); (case k4 => k_asm); (case k5 => k_asm); (case kK => first | exact rfl | assumption); (case kd => ktr_room); (case ku => ktr_units); (case c1 => first | with_reducible assumption | omega | decide | exact text_pos (by assumption) | (simp only [fd3, fd5, fd7, fd9, fd11, fd13]; omega) | (simp only [Str.length_append] at *; omega)); (case c2 => first | with_reducible assumption | omega | decide | exact text_pos (by assumption) | (simp only [fd3, fd5, fd7, fd9, fd11, fd13]; omega) | (simp only [Str.length_append] at *; omega)); k_whole); intro r9 h9 tk9 F9 N9 ok9; k_dflt (obtain ⟨v9, e9, a9⟩ := ok9); subst e9; (try dsimp only); (try k_sweep); walk_say "CONTRACT match"))

theorem same_bools {a b : Bool} {P : Prop} (h1 : a = true ↔ P) (h2 : b = true ↔ P) : (a == b) = true := by
  cases a <;> cases b <;> simp_all

theorem holds_says {r : Value} (x : r = .bool true) : r = .bool true := x
set_option maxHeartbeats 4000000 in
theorem holds_tells (w : World) (mean : ExcName → Option Value) (mg mb : Str → Option Value) (name pat : Str) (t t2 : Tok) (due : Bool) (hn : name.length ≤ 100) (hp : pat.length ≤ 12000000) (hd : due = true ↔ Wild (cs name) (cs pat)) :
    Tells w mean mg mb 2 77 [.str name t, .str pat t2, .bool due] (fun _ r _ => r = .bool true) := by
  k_with_none; unfold Tells; k_fill
  intro dp un gd cn csc a ccd cl outer A₀ base h₀ L m s Q E B F X T hk hdp hu hret
  refine wpAny_call ?_
  k_dflt (refine' code_pure (binds := [(Str.ofString "name", .str name t), (Str.ofString "pat", .str pat t2), (Str.ofString "due", .bool due)]) ?k1 ?k2 ?k3 ?k5 ?kA ?kF ?kK ?k6 ?k7 ?k8 ?k9 ?kB ?_ ?c2 ?c3 ?c4 ?c5; (case kA => exact rfl); (case kF => exact rfl); (case kK => assumption); (case k1 => k_asm); (case k2 => k_asm); (case k3 => k_asm); (case k5 => k_asm); (case k6 => k_is); (case k7 => k_is); (case k8 => ktr_room); (case k9 => exact BindsTo.of_eq rfl); (case c5 => decide); (case kB => exact locs rfl); (case c2 => exact rfl); (case c3 => exact rfl); (case c4 => exact rfl); k_whole)
  intro L' h' F' N' B' X' T'
  dsimp only [List.reverse, List.reverseAux] at F'
  (try dsimp only); (try k_fold)
  clear B F X T hk
  k_steps
  rename (_ = true ↔ Wild _ _) => hm
  refine leaveP hret (by assumption) ?_
  show Value.bool _ = Value.bool true
  rw [same_bools hm hd]
end Mine
end

section
namespace Mine
def anyTail (f : List Nat → Bool) : List Nat → Bool
  | [] => f []
  | a :: n => f (a :: n) || anyTail f n
def headIs (c : Nat) (f : List Nat → Bool) : List Nat → Bool
  | [] => false
  | a :: n => a == c && f n
def wildB : List Nat → List Nat → Bool
  | [], n => n.isEmpty
  | c :: p, n => if c = 42 then anyTail (wildB p) n else headIs c (wildB p) n
theorem anyTail_iff {f : List Nat → Bool} : ∀ n, anyTail f n = true ↔ ∃ k, f (n.drop k) = true
  | [] => by
    show f [] = true ↔ _
    exact ⟨fun h => ⟨0, h⟩, fun ⟨k, h⟩ => by rwa [List.drop_nil] at h⟩
  | a :: n => by
    show (f (a :: n) || anyTail f n) = true ↔ _
    rw [Bool.or_eq_true, anyTail_iff n]
    constructor
    · rintro (h | ⟨k, h⟩)
      · exact ⟨0, h⟩
      · exact ⟨k + 1, h⟩
    · rintro ⟨k, h⟩
      cases k with
      | zero => exact .inl h
      | succ k => exact .inr ⟨k, h⟩
theorem wildB_iff : ∀ (p n : List Nat), wildB p n = true ↔ Wild n p
  | [], n => by
    show n.isEmpty = true ↔ _
    rw [wild_nil, List.isEmpty_iff]
  | c :: p, n => by
    unfold wildB
    by_cases hc : c = 42
    · rw [if_pos hc, anyTail_iff, hc, wild_star]
      exact ⟨fun ⟨k, h⟩ => ⟨k, (wildB_iff p _).mp h⟩, fun ⟨k, h⟩ => ⟨k, (wildB_iff p _).mpr h⟩⟩
    · rw [if_neg hc, wild_cons hc]
      cases n with
      | nil => exact ⟨fun h => (nomatch h), fun ⟨_, h, _⟩ => (nomatch h)⟩
      | cons a n =>
        show (a == c && wildB p n) = true ↔ _
        rw [Bool.and_eq_true, beq_iff_eq, wildB_iff p n]
        constructor
        · rintro ⟨rfl, h⟩
          exact ⟨n, rfl, h⟩
        · rintro ⟨n', e, h⟩
          injection e with e1 e2
          exact ⟨e1, e2 ▸ h⟩
theorem wildB_says {n p : List Nat} {b : Bool} (h : wildB p n = b) : b = true ↔ Wild n p := h ▸ wildB_iff p n
end Mine
end

section
open PySem PySem.W PySem.Calls PySem.Spec PyProof.Rows
set_option maxRecDepth 100000
namespace Mine
/-- a row of the law's table: a name, a pattern, and whether it fits -/
def RowOf (o : Obj) : Prop :=
  ∃ (nm pt : Str) (b : Bool) (t1 t2 : Tok) (c : Nat), o = ({ cls := .type "tuple", data := .seq #[.str nm t1, .str pt t2, .bool b] c } : Obj) ∧ nm.length ≤ 100 ∧ pt.length ≤ 12000000 ∧ (b = true ↔ Wild (cs nm) (cs pt))
theorem rowOf_mk {nm pt : Str} {b : Bool} {t1 t2 : Tok} {c : Nat} (h1 : nm.length ≤ 100) (h2 : pt.length ≤ 100) (h3 : wildB (cs pt) (cs nm) = b) : RowOf ({ cls := .type "tuple", data := .seq #[.str nm t1, .str pt t2, .bool b] c } : Obj) :=
  ⟨nm, pt, b, t1, t2, c, rfl, h1, Nat.le_trans h2 (by decide), wildB_says h3⟩
def TableOf (h : Heap) (r : Value) (h' : Heap) : Prop :=
  ∃ (D : Addr) (c : Nat) (es : List (Addr × Obj)), r = .ref D ∧ (∀ p ∈ (D, listOf (es.map fun e => Value.ref e.1).toArray c) :: es, h'.get? p.1 = some p.2 ∧ h.get? p.1 = none) ∧ (∀ p ∈ es, p.1 ≠ D) ∧ ∀ p ∈ es, RowOf p.2
theorem tableOf_says {h h' : Heap} {r : Value} (x : OkH TableOf h r h') : ∃ (D : Addr) (c : Nat) (es : List (Addr × Obj)), r = .ref D ∧ (∀ p ∈ (D, listOf (es.map fun e => Value.ref e.1).toArray c) :: es, h'.get? p.1 = some p.2 ∧ h.get? p.1 = none) ∧ (∀ p ∈ es, p.1 ≠ D) ∧ ∀ p ∈ es, RowOf p.2 := x
theorem tableOf_mk {h h' : Heap} {L D : Addr} {c : Nat} {vs : List Value} {rest : List (Addr × Obj)} (N : News h L h' ((D, listOf vs.toArray c) :: rest)) (hv : vs = rest.reverse.map fun e => Value.ref e.1) (hD : AllLt D rest) (hr : ∀ p ∈ rest, RowOf p.2) : TableOf h (.ref D) h' := by
  subst hv
  refine ⟨D, c, rest.reverse, rfl, fun p hp => ?_, fun p hp => Nat.ne_of_lt (kst_ltOf hD p (List.mem_reverse.mp hp)), fun p hp => hr p (List.mem_reverse.mp hp)⟩
  rcases List.mem_cons.mp hp with rfl | hp
  · exact ⟨(N _ (List.Mem.head _)).1, (N _ (List.Mem.head _)).2.2⟩
  · have := N p (List.Mem.tail _ (List.mem_reverse.mp hp))
    exact ⟨this.1, this.2.2⟩

set_option maxHeartbeats 8000000 in
theorem table_tells (w : World) (mean : ExcName → Option Value) (mg mb : Str → Option Value) : Tells w mean mg mb 1 28 [] TableOf := by
  k_with_none; unfold Tells; k_fill
  intro dp un gd cn csc a ccd cl outer A₀ base h₀ L m s Q E B F X T hk hdp hu hret
  refine wpAny_call ?_
  k_dflt (refine' code_pure (binds := []) ?k1 ?k2 ?k3 ?k5 ?kA ?kF ?kK ?k6 ?k7 ?k8 ?k9 ?kB ?_ ?c2 ?c3 ?c4 ?c5; (case kA => exact rfl); (case kF => exact rfl); (case kK => assumption); (case k1 => k_asm); (case k2 => k_asm); (case k3 => k_asm); (case k5 => k_asm); (case k6 => k_is); (case k7 => k_is); (case k8 => ktr_room); (case k9 => exact BindsTo.of_eq rfl); (case c5 => decide); (case kB => exact locs rfl); (case c2 => exact rfl); (case c3 => exact rfl); (case c4 => exact rfl); k_whole)
  intro L' h' F' N' B' X' T'
  dsimp only [List.reverse, List.reverseAux] at F'
  (try dsimp only); (try k_fold)
  clear B F X T hk
  k_steps
  rename News _ _ _ _ => hN
  refine leaveP hret (by assumption) (tableOf_mk hN rfl ?_ ?_)
  · simp only [AllLt, and_true]
    assumption
  · repeat' (first | exact List.forall_mem_nil _ | (refine List.forall_mem_cons.mpr ⟨rowOf_mk (by decide +kernel) (by decide +kernel) (by decide +kernel), ?_⟩))
end Mine
end

section
open PySem PySem.W PySem.Calls PySem.Spec PyProof.Rows
set_option maxRecDepth 100000
namespace Mine
local macro_rules | `(tactic| walk_at "call ref") => `(tactic| (k_here; k_dflt (refine' tells_use (step_tells _ _ _ _ _ _ ?c1 ?c2) ?k1 ?k2 ?k3 ?k4 ?k5 ?kK ?kd ?ku ?_; (case k1 => k_asm); (case k2 => k_asm); (case k3 => k_asm); (case k4 => k_asm); (case k5 => k_asm); (case kK => first | exact rfl | assumption); (case kd => ktr_room); (case ku => ktr_units); (case c1 => first | with_reducible assumption | omega | decide | exact text_pos (by assumption) | (simp only [fd3, fd5, fd7, fd9, fd11, fd13]; omega) | (simp only [Str.length_append] at *; omega)); (case c2 => first | with_reducible assumption | omega | decide | exact text_pos (by assumption) | (simp only [fd3, fd5, fd7, fd9, fd11, fd13]; omega) | (simp only [Str.length_append] at *; omega)); k_whole); intro r9 h9 tk9 F9 N9 ok9; k_dflt (obtain ⟨u9, n9, e9, a9, b9, -⟩ := ok9); subst e9; (try dsimp only); (try k_sweep); walk_say "CONTRACT step"))
local macro_rules | `(tactic| walk_at "call ref") => `(tactic| (k_here; k_dflt (refine' tells_use (pick_tells _ _ _ _ _ _ _ _ ?c1 ?c2 ?c3 ?c4) ?k1 ?k2 ?k3 ?k4 ?k5 ?kK ?kd ?ku ?_; (case k1 => k_asm); (case k2 => k_asm); (case k3 => k_asm); (case k4 => k_asm); (case k5 => k_asm); (case kK => first | exact rfl | assumption); (case kd => ktr_room); (case ku => ktr_units); (case c1 => first | with_reducible assumption | omega | decide | exact text_pos (by assumption) | (simp only [fd3, fd5, fd7, fd9, fd11, fd13]; omega) | (simp only [Str.length_append] at *; omega)); (case c2 => first | with_reducible assumption | omega | decide | exact text_pos (by assumption) | (simp only [fd3, fd5, fd7, fd9, fd11, fd13]; omega) | (simp only [Str.length_append] at *; omega)); (case c3 => first | with_reducible assumption | omega | decide | exact text_pos (by assumption) | (simp only [fd3, fd5, fd7, fd9, fd11, fd13]; omega) | (simp only [Str.length_append] at *; omega)); (case c4 => first | with_reducible assumption | omega | decide | exact text_pos (by assumption) | (simp only [fd3, fd5, fd7, fd9, fd11, fd13]; omega) | (simp only [Str.length_append] at *; omega)); k_whole); intro r9 h9 tk9 F9 N9 ok9; k_dflt (obtain ⟨u9, n9, e9, a9, b9, -⟩ := ok9); subst e9; (try dsimp only); (try k_sweep); walk_say "CONTRACT pick"))
local macro_rules | `(tactic| walk_at "call ref") => `(tactic| (k_here; k_dflt (refine' tells_use (word_tells _ _ _ _ _ _ _ _ _ _ ?c1 ?c2 ?c3 ?c4 ?c5 ?c6) ?k1 ?k2 ?k3 ?k4 ?k5 ?kK ?kd ?ku ?_; (case k1 => k_asm); (case k2 => k_asm); (case k3 => k_asm); (case k4 => k_asm); (case k5 => k_asm); (case kK => first | exact rfl | assumption); (case kd => ktr_room); (case ku => ktr_units); (case c1 => first | with_reducible assumption | omega | decide | exact text_pos (by assumption) | (simp only [fd3, fd5, fd7, fd9, fd11, fd13]; omega) | (simp only [Str.length_append] at *; omega)); (case c2 => first | with_reducible assumption | omega | decide | exact text_pos (by assumption) | (simp only [fd3, fd5, fd7, fd9, fd11, fd13]; omega) | (simp only [Str.length_append] at *; omega)); (case c3 => first | with_reducible assumption | omega | decide | exact text_pos (by assumption) | (simp only [fd3, fd5, fd7, fd9, fd11, fd13]; omega) | (simp only [Str.length_append] at *; omega)); (case c4 => first | with_reducible assumption | omega | decide | exact text_pos (by assumption) | (simp only [fd3, fd5, fd7, fd9, fd11, fd13]; omega) | (simp only [Str.length_append] at *; omega)); (case c5 => first | with_reducible assumption | omega | decide | exact text_pos (by assumption) | (simp only [fd3, fd5, fd7, fd9, fd11, fd13]; omega) | (simp only [Str.length_append] at *; omega)); (case c6 => first | with_reducible assumption | omega | decide | exact text_pos (by assumption) | (simp only [fd3, fd5, fd7, fd9, fd11, fd13]; omega) | (simp only [Str.length_append] at *; omega)); k_whole); intro r9 h9 tk9 F9 N9 ok9; k_dflt (obtain ⟨w9, n9, u9, v9, a9, b9, c9, D9, k9, e9, f9, g9⟩ := ok9); subst e9; have N10 := news_pair (by k_asm) N9 f9 g9; clear N9 f9 g9; (try dsimp only); (try k_sweep); walk_say "CONTRACT word"))
local macro_rules | `(tactic| walk_at "call ref") => `(tactic| (k_here; k_dflt (refine' tells_use (cut_tells _ _ _ _ _ _ _ _ ?c1 ?c2 ?c3) ?k1 ?k2 ?k3 ?k4 ?k5 ?kK ?kd ?ku ?_; (case k1 => k_asm); (case k2 => k_asm); (case k3 => k_asm); (case k4 => k_asm); (case k5 => k_asm); (case kK => first | exact rfl | assumption); (case kd => ktr_room); (case ku => ktr_units); (case c1 => first | with_reducible assumption | omega | decide | exact text_pos (by assumption) | (simp only [fd3, fd5, fd7, fd9, fd11, fd13]; omega) | (simp only [Str.length_append] at *; omega)); (case c2 => first | with_reducible assumption | omega | decide | exact text_pos (by assumption) | (simp only [fd3, fd5, fd7, fd9, fd11, fd13]; omega) | (simp only [Str.length_append] at *; omega)); (case c3 => first | with_reducible assumption | omega | decide | exact text_pos (by assumption) | (simp only [fd3, fd5, fd7, fd9, fd11, fd13]; omega) | (simp only [Str.length_append] at *; omega)); k_whole); intro r9 h9 tk9 F9 N9 ok9; k_dflt (obtain ⟨w9, n9, u9, v9, z9, a9, b9, c9, D9, k9, e9, f9, g9⟩ := ok9); subst e9; have N10 := news_pair (by k_asm) N9 f9 g9; clear N9 f9 g9; (try dsimp only); (try k_sweep); walk_say "CONTRACT cut"))
local macro_rules | `(tactic| walk_at "subscriptTail") => `(tactic| (k_here; (with_reducible show wpAny _ _ (subscriptTail _ _ (Value.str _ _) (Value.int _ _)) _ _ _); (refine my_item (by omega) (by omega) (by omega) ?_); intro c9 k9 u9 e9; (try dsimp only); walk_say "MY ITEM"))
local macro_rules | `(tactic| walk_at "subscriptTail Name Name str int") => `(tactic| (k_here; (with_reducible show wpAny _ _ (subscriptTail _ _ (Value.str _ _) (Value.int _ _)) _ _ _); (refine my_item (by omega) (by omega) (by omega) ?_); intro c9 k9 u9 e9; (try dsimp only); walk_say "MY ITEM"))
local macro_rules | `(tactic| walk_at "subscriptTail Name Call str int") => `(tactic| (k_here; (with_reducible show wpAny _ _ (subscriptTail _ _ (Value.str _ _) (Value.int _ _)) _ _ _); (refine my_item (by omega) (by omega) (by omega) ?_); intro c9 k9 u9 e9; (try dsimp only); walk_say "MY ITEM"))
local macro_rules | `(tactic| walk_at "InvEndN") => `(tactic| k_dflt kst_close)
theorem my_table {prog : Program} {w : World} {A : Around} {E : Value → Shared → Prop} {s : Shared} {value slice : Expr} {h₀ : Heap} {L l : Addr} {vs : List Value} {nn lo hi : Nat} {news : List (Addr × Obj)} {k : Int} {u : Tok} {Q : Value → Shared → Prop}
    (N : News h₀ L s.heap news) (hm : (l, listOf vs.toArray nn) ∈ news) (hv : ∀ v ∈ vs, ∃ x t, v = .str x t ∧ lo ≤ x.length ∧ x.length ≤ hi) (h0 : 0 ≤ k) (h1 : k < vs.length) (hhi : k < 2 ^ 63) (h : ∀ x t, lo ≤ x.length → x.length ≤ hi → Q (.str x t) s)
    (hs : subscripted slice false (.ref l) (.int k u) = operate [.ref l, .int k u] (getItem (.ref l) (.int k u)) := by with_unfolding_all rfl) : wpAny (model prog w) A (subscriptTail value slice (.ref l) (.int k u)) Q E s := by
  have hl : s.heap.IsList l vs.toArray := ⟨_, (N _ hm).1, rfl, nn, rfl⟩
  have hlt : k.toNat < vs.length := by omega
  obtain ⟨x, t, e, a, b⟩ := hv _ (List.getElem_mem hlt)
  refine tail_any hl.typeIs slot_list_getitem.lookup (wpAny_getItem_list hl h0 hhi (x := .str x t) ?_ (h x t a b)) hs
  have := List.getElem?_eq_getElem hlt
  rw [e] at this
  simpa using this
theorem str_row {x : Str} {t : Tok} {lo hi : Nat} {vs : List Value} (h1 : lo ≤ x.length) (h2 : x.length ≤ hi) (h : ∀ v ∈ vs, ∃ x t, v = .str x t ∧ lo ≤ x.length ∧ x.length ≤ hi) : ∀ v ∈ Value.str x t :: vs, ∃ x t, v = .str x t ∧ lo ≤ x.length ∧ x.length ≤ hi :=
  List.forall_mem_cons.mpr ⟨⟨_, _, rfl, h1, h2⟩, h⟩
local macro_rules | `(tactic| walk_at "subscriptTail") => `(tactic| (k_here; (with_reducible show wpAny _ _ (subscriptTail (Expr.List _ _) _ (Value.ref _) (Value.int _ _)) _ _ _); k_dflt (refine' my_table (lo := 2) (hi := 3) ?k1 ?k2 ?k3 ?k4 ?k5 ?k6 ?_; (case k1 => k_asm); (case k2 => k_mem); (case k3 => exact str_row (by decide +kernel) (by decide +kernel) (str_row (by decide +kernel) (by decide +kernel) (str_row (by decide +kernel) (by decide +kernel) (str_row (by decide +kernel) (by decide +kernel) (List.forall_mem_nil _))))); (case k4 => omega); (case k5 => (show (_ : Int) < (4 : Int); omega)); (case k6 => omega); k_whole); (intro x9 t9 a9 b9); walk_say "MY TABLE"))
theorem slice_short (x : Str) (l u : Option Int) : (Txt.slice x l u).length ≤ x.length := Txt.slice_le x l u
local macro_rules | `(tactic| walk_at "call builtin:len") => `(tactic| (k_here; (with_reducible show wpAny _ _ (call (Value.builtin "len") [Value.str _ _]) _ _ _); (refine P.len_str (by first | omega | (simp only [rangeKs_length] at *; omega)) ?_); (try dsimp only); walk_say "MY LEN"))
section
variable {prog : Program} {w : World} {A : Around} {E : Value → Shared → Prop} {s : Shared} {value slice : Expr} {x : Str} {t u : Tok} {h₀ : Heap} {L : Addr} {m : Str → Option Value} {news : List (Addr × Obj)} {Q : Value → Shared → Prop}
theorem my_mul4 (h0 : 2 ≤ x.length) (h1 : x.length ≤ 3) (h : ∀ y t' k, 8 ≤ y.length → y.length ≤ 12 → Q (.str y t') { s with toks := k }) : wpAny (model prog w) A (binaryOp .Mult (.str x t) (.int 4 u)) Q E s := by
  have e := len_mul x 4
  have e2 : (if decide ((4 : Int) < 0) = true then (0 : Int) else 4) = 4 := rfl
  rw [e2] at e
  refine SB.mul ⟨by decide, fun _ _ => by omega, fun _ _ => ?_⟩ fun t' k => h _ t' k (by omega) (by omega)
  unfold Builtin.Str.tooLong
  rw [decide_eq_false_iff_not, sizeLine_eq]
  show ¬ x.length * 4 > _
  omega
theorem my_slice_ns {j : Int} {uj : Tok} (hF : Fr h₀ L s.heap m) (hN : News h₀ L s.heap news) (hj : 0 ≤ j) (hsz : x.length ≤ 12000000)
    (h : ∀ y h' t' k, Fr h₀ L h' m → News h₀ L h' news → y.length ≤ x.length → (j ≤ (x.length : Int) → (y.length : Int) = j) → ((x.length : Int) ≤ j → y.length = x.length) → Q (.str y t') { s with heap := h', toks := k })
    (hs : subscripted slice false (.str x t) (.ref s.heap.objs.size) = operate [.ref s.heap.objs.size, .str x t] (getItem (.str x t) (.ref s.heap.objs.size)) := by with_unfolding_all rfl)
    (ht : ∀ r, letTemporaryGo value (.str x t) r = pure () := by intro _; with_unfolding_all rfl) :
    wpAny (model prog w) A (subscriptTail value slice (.str x t) (.ref s.heap.objs.size)) Q E { s with heap := s.heap.push { cls := .type "slice", data := .fields #[.none, .int j uj, .none] } } := by
  have e := fact_slice_ns x j
  exact slice_strN_ns hF hN (fun h' t' k F' N' => h _ h' t' k F' N' (slice_short x _ _) (fun a => e.1 hj a) (fun a => by have := e.2 a; omega)) hs ht (by rw [sizeLine_eq]; omega)
theorem my_slice_sn {i : Int} {ui : Tok} (hF : Fr h₀ L s.heap m) (hN : News h₀ L s.heap news) (hsz : x.length ≤ 12000000)
    (h : ∀ y h' t' k, Fr h₀ L h' m → News h₀ L h' news → y.length ≤ x.length → Q (.str y t') { s with heap := h', toks := k })
    (hs : subscripted slice false (.str x t) (.ref s.heap.objs.size) = operate [.ref s.heap.objs.size, .str x t] (getItem (.str x t) (.ref s.heap.objs.size)) := by with_unfolding_all rfl)
    (ht : ∀ r, letTemporaryGo value (.str x t) r = pure () := by intro _; with_unfolding_all rfl) :
    wpAny (model prog w) A (subscriptTail value slice (.str x t) (.ref s.heap.objs.size)) Q E { s with heap := s.heap.push { cls := .type "slice", data := .fields #[.int i ui, .none, .none] } } :=
  slice_strN_sn hF hN (fun h' t' k F' N' => h _ h' t' k F' N' (slice_short x _ _)) hs ht (by rw [sizeLine_eq]; omega)
theorem my_slice_ss {i j : Int} {ui uj : Tok} (hF : Fr h₀ L s.heap m) (hN : News h₀ L s.heap news) (hsz : x.length ≤ 12000000)
    (h : ∀ y h' t' k, Fr h₀ L h' m → News h₀ L h' news → y.length ≤ x.length → Q (.str y t') { s with heap := h', toks := k })
    (hs : subscripted slice false (.str x t) (.ref s.heap.objs.size) = operate [.ref s.heap.objs.size, .str x t] (getItem (.str x t) (.ref s.heap.objs.size)) := by with_unfolding_all rfl)
    (ht : ∀ r, letTemporaryGo value (.str x t) r = pure () := by intro _; with_unfolding_all rfl) :
    wpAny (model prog w) A (subscriptTail value slice (.str x t) (.ref s.heap.objs.size)) Q E { s with heap := s.heap.push { cls := .type "slice", data := .fields #[.int i ui, .int j uj, .none] } } :=
  slice_strN_ss hF hN (fun h' t' k F' N' => h _ h' t' k F' N' (slice_short x _ _)) hs ht (by rw [sizeLine_eq]; omega)
end
local macro_rules | `(tactic| walk_at "binaryOp Mult str int") => `(tactic| (k_here; (with_reducible show wpAny _ _ (binaryOp Operator.Mult (Value.str _ _) (Value.int 4 _)) _ _ _); (refine my_mul4 (by assumption) (by assumption) ?_); intro y9 t9 k9 a9 b9; (try dsimp only); walk_say "MY MUL"))
local macro_rules | `(tactic| walk_at "subscriptTail") => `(tactic| (k_here; (with_reducible show wpAny _ _ (subscriptTail _ (Expr.Slice none (some _) none _) (Value.str _ _) (Value.ref _)) _ _ _); ((with_reducible rename Fr _ _ _ _ => F'); (with_reducible rename News _ _ _ _ => N')); (refine my_slice_ns (s := ⟨_, _, _, _, _⟩) F' N' (by omega) (by omega) ?_); (intro y9 h9 t9 k9 F9 N9 a9 b9 c9); (try dsimp only); (try k_sweep); walk_say "MY SLICE"))
local macro_rules | `(tactic| walk_at "subscriptTail") => `(tactic| (k_here; (with_reducible show wpAny _ _ (subscriptTail _ (Expr.Slice (some _) none none _) (Value.str _ _) (Value.ref _)) _ _ _); ((with_reducible rename Fr _ _ _ _ => F'); (with_reducible rename News _ _ _ _ => N')); (refine my_slice_sn (s := ⟨_, _, _, _, _⟩) F' N' (by omega) ?_); (intro y9 h9 t9 k9 F9 N9 a9); (try dsimp only); (try k_sweep); walk_say "MY SLICE"))
local macro_rules | `(tactic| walk_at "subscriptTail") => `(tactic| (k_here; (with_reducible show wpAny _ _ (subscriptTail _ (Expr.Slice (some _) (some _) none _) (Value.str _ _) (Value.ref _)) _ _ _); ((with_reducible rename Fr _ _ _ _ => F'); (with_reducible rename News _ _ _ _ => N')); (refine my_slice_ss (s := ⟨_, _, _, _, _⟩) F' N' (by omega) ?_); (intro y9 h9 t9 k9 F9 N9 a9); (try dsimp only); (try k_sweep); walk_say "MY SLICE"))
/-- a case that the law draws: a name, a pattern, and True where it is sure to fit -/
def CaseOf (h : Heap) (r : Value) (h' : Heap) : Prop :=
  ∃ (name pat : Str) (sure : Value) (t1 t2 : Tok), name.length ≤ 100 ∧ pat.length ≤ 12000000 ∧ (sure = .bool true ∧ Wild (cs name) (cs pat) ∨ sure = .none) ∧ tripleOf (.str name t1) (.str pat t2) sure h r h'

theorem caseOf_says {h h' : Heap} {r : Value} (x : OkH CaseOf h r h') : ∃ (name pat : Str) (sure : Value) (t1 t2 : Tok), name.length ≤ 100 ∧ pat.length ≤ 12000000 ∧ (sure = .bool true ∧ Wild (cs name) (cs pat) ∨ sure = .none) ∧
    ∃ D c, r = .ref D ∧ h.get? D = none ∧ h'.get? D = some ({ cls := .type "tuple", data := .seq #[.str name t1, .str pat t2, sure] c } : Obj) := x
theorem caseOf_mk {h h' : Heap} {L D : Addr} {c : Nat} {news : List (Addr × Obj)} {name pat : Str} {sure : Value} {t1 t2 : Tok} (N : News h L h' ((D, ({ cls := .type "tuple", data := .seq #[.str name t1, .str pat t2, sure] c } : Obj)) :: news)) (hn : name.length ≤ 100) (hp : pat.length ≤ 12000000)
    (hs : sure = .bool true ∧ Wild (cs name) (cs pat) ∨ sure = .none) : CaseOf h (.ref D) h' := by
  obtain ⟨a, _, b⟩ := N _ (List.Mem.head _)
  exact ⟨name, pat, sure, t1, t2, hn, hp, hs, D, c, rfl, b, a⟩
theorem glue_short {w c : Str} {a b a' b' : Option Int} (hw : w.length ≤ 5111821) (hc : c.length ≤ 1) : (Txt.slice w a b ++ c ++ Txt.slice w a' b').length ≤ 12000000 := by
  have h1 := slice_short w a b
  have h2 := slice_short w a' b'
  rw [Str.length_append, Str.length_append]
  omega
theorem loop_P {pat nm : Str} {a b : Option Int} {pre : List Int} {k n : Int} (h : pat.length ≤ 20 * pre.length) (hm : nm.length ≤ 12) (h0 : 0 ≤ n) (h1 : n < 2147483648) : (pat ++ Txt.slice nm a b ++ Str.ofString "*").length ≤ 20 * (pre ++ [k]).length ∧ 0 ≤ n ∧ n < 2147483648 := by
  have h2 := slice_short nm a b
  have h3 : (Str.ofString "*").length = 1 := by decide +kernel
  rw [Str.length_append, Str.length_append, List.length_append, List.length_singleton, h3]
  exact ⟨by omega, h0, h1⟩
theorem loop_P0 {n : Int} (h0 : 0 ≤ n) (h1 : n < 2147483648) : (Str.ofString "").length ≤ 20 * ([] : List Int).length ∧ 0 ≤ n ∧ n < 2147483648 := ⟨by decide +kernel, h0, h1⟩
theorem loop_end {pat : Str} {a b : Option Int} {n : Int} (h : pat.length ≤ 20 * (rangeKs 0 n.toNat).length) (hn : n ≤ 100) : (Txt.slice pat a b).length ≤ 12000000 := by
  have h2 := slice_short pat a b
  rw [rangeKs_length] at h
  omega

set_option maxHeartbeats 8000000 in
theorem case_tells (w : World) (mean : ExcName → Option Value) (mg mb : Str → Option Value) (v : Int) (t : Tok) (h0 : 0 ≤ v) (h1 : v < 2147483648) : Tells w mean mg mb 4 63 [.int v t] CaseOf := by
  k_with_none; unfold Tells; k_fill
  intro dp un gd cn csc a ccd cl outer A₀ base h₀ L m s Q E B F X T hk hdp hu hret
  refine wpAny_call ?_
  k_dflt (refine' code_pure (binds := [(Str.ofString "v", .int v t)]) ?k1 ?k2 ?k3 ?k5 ?kA ?kF ?kK ?k6 ?k7 ?k8 ?k9 ?kB ?_ ?c2 ?c3 ?c4 ?c5; (case kA => exact rfl); (case kF => exact rfl); (case kK => assumption); (case k1 => k_asm); (case k2 => k_asm); (case k3 => k_asm); (case k5 => k_asm); (case k6 => k_is); (case k7 => k_is); (case k8 => ktr_room); (case k9 => exact BindsTo.of_eq rfl); (case c5 => decide); (case kB => exact locs rfl); (case c2 => exact rfl); (case c3 => exact rfl); (case c4 => exact rfl); k_whole)
  intro L' h' F' N' B' X' T'
  dsimp only [List.reverse, List.reverseAux] at F'
  (try dsimp only); (try k_fold)
  clear B F X T hk
  k_with "pyIter ref" => k_state (fun pre pat x => pat.length ≤ 20 * pre.length ∧ 0 ≤ x ∧ x < 2147483648) "pat" "x"
  k_with "state" => first | exact loop_P0 (by assumption) (by assumption) | exact loop_P (by assumption) (by omega) (by assumption) (by assumption)
  k_steps
  · rename News _ _ _ _ => hN
    exact leaveP hret (by with_reducible assumption) (caseOf_mk hN (by omega) (by omega) (.inr rfl))
  · rename News _ _ _ _ => hN
    rename (_ ≤ 20 * List.length _) => hl
    exact leaveP hret (by with_reducible assumption) (caseOf_mk hN (by omega) (loop_end hl (by omega)) (.inr rfl))
  · rename News _ _ _ _ => hN
    rename Wild _ _ => hW
    exact leaveP hret (by with_reducible assumption) (caseOf_mk hN (by omega) (by omega) (.inl ⟨rfl, hW⟩))
  · rename News _ _ _ _ => hN
    rename Wild _ _ => hW
    exact leaveP hret (by with_reducible assumption) (caseOf_mk hN (by omega) (by omega) (.inl ⟨rfl, hW⟩))
  · rename News _ _ _ _ => hN
    exact leaveP hret (by with_reducible assumption) (caseOf_mk hN (by omega) (glue_short (by with_reducible assumption) (Nat.le_of_eq (len_item _ _))) (.inr rfl))
end Mine
end

section
open PySem PySem.W PySem.Calls PySem.Spec PyProof.Rows
set_option maxRecDepth 100000
namespace Mine
local macro_rules | `(tactic| walk_at "call ref") => `(tactic| ((with_reducible show wpAny _ _ (call (Value.ref _) _) _ _ _); refine stopP ?_; walk_say "STOP CALL"))
local macro_rules | `(tactic| walk_at "InvEndN") => `(tactic| (refine stopP ?_; walk_say "STOP"))
local macro_rules | `(tactic| walk_at "call ref") => `(tactic| (k_here; k_dflt (refine' tells_use (table_tells _ _ _ _ ) ?k1 ?k2 ?k3 ?k4 ?k5 ?kK ?kd ?ku ?_; (case k1 => k_asm); (case k2 => k_asm); (case k3 => k_asm); (case k4 => k_asm); (case k5 => k_asm); (case kK => first | exact rfl | assumption); (case kd => ktr_room); (case ku => ktr_units); skip; k_whole); intro r9 h9 tk9 F9 N9 ok9; k_dflt (obtain ⟨D9, k9, es9, e9, f9, g9, q9⟩ := tableOf_says ok9); subst e9; have N10 := news_all (by k_asm) f9; clear N9 f9; (try dsimp only); (try k_sweep); walk_say "CONTRACT table"))
local macro_rules | `(tactic| walk_at "call ref") => `(tactic| (k_here; k_dflt (refine' tells_use (holds_tells _ _ _ _ _ _ _ _ _ ?c1 ?c2 ?c3) ?k1 ?k2 ?k3 ?k4 ?k5 ?kK ?kd ?ku ?_; (case k1 => k_asm); (case k2 => k_asm); (case k3 => k_asm); (case k4 => k_asm); (case k5 => k_asm); (case kK => first | exact rfl | assumption); (case kd => ktr_room); (case ku => ktr_units); (case c1 => first | with_reducible assumption | omega); (case c2 => first | with_reducible assumption | omega); (case c3 => first | with_reducible assumption | omega); k_whole); intro r9 h9 tk9 F9 N9 ok9; (k_dflt (replace ok9 := holds_says ok9)); subst ok9; (try dsimp only); (try k_sweep); walk_say "CONTRACT holds"))
local macro_rules | `(tactic| walk_at "call ref") => `(tactic| (k_here; k_dflt (refine' tells_use (case_tells _ _ _ _ _ _ ?c1 ?c2) ?k1 ?k2 ?k3 ?k4 ?k5 ?kK ?kd ?ku ?_; (case k1 => k_asm); (case k2 => k_asm); (case k3 => k_asm); (case k4 => k_asm); (case k5 => k_asm); (case kK => first | exact rfl | assumption); (case kd => ktr_room); (case ku => ktr_units); (case c1 => first | with_reducible assumption | omega | decide | exact text_pos (by assumption) | (simp only [fd3, fd5, fd7, fd9, fd11, fd13]; omega) | (simp only [Str.length_append] at *; omega)); (case c2 => first | with_reducible assumption | omega | decide | exact text_pos (by assumption) | (simp only [fd3, fd5, fd7, fd9, fd11, fd13]; omega) | (simp only [Str.length_append] at *; omega)); k_whole); intro r9 h9 tk9 F9 N9 ok9; k_dflt (obtain ⟨nm9, pt9, su9, u9, v9, a9, b9, s9, D9, k9, e9, f9, g9⟩ := caseOf_says ok9); subst e9; have N10 := news_pair (by k_asm) N9 f9 g9; clear N9 f9 g9; (rcases s9 with ⟨s9, w9⟩ | s9 <;> subst s9); (all_goals (try dsimp only)); (all_goals (try k_sweep)); walk_say "CONTRACT case"))
local macro_rules | `(tactic| walk_at "call ref") => `(tactic| (k_here; k_dflt (refine' tells_use (twin_tells _ _ _ _ _ _ _ _ ?c1 ?c2) ?k1 ?k2 ?k3 ?k4 ?k5 ?kK ?kd ?ku ?_; (case k1 => k_asm); (case k2 => k_asm); (case k3 => k_asm); (case k4 => k_asm); (case k5 => k_asm); (case kK => first | exact rfl | assumption); (case kd => ktr_room); (case ku => ktr_units); (case c1 => first | with_reducible assumption | omega | decide | exact text_pos (by assumption) | (simp only [fd3, fd5, fd7, fd9, fd11, fd13]; omega) | (simp only [Str.length_append] at *; omega)); (case c2 => first | with_reducible assumption | omega | decide | exact text_pos (by assumption) | (simp only [fd3, fd5, fd7, fd9, fd11, fd13]; omega) | (simp only [Str.length_append] at *; omega)); k_whole); intro r9 h9 tk9 F9 N9 ok9; k_dflt (obtain ⟨v9, e9, a9⟩ := ok9); subst e9; (try dsimp only); (try k_sweep); walk_say "CONTRACT twin"))
local macro_rules | `(tactic| walk_at "InvEndN") => `(tactic| k_dflt kst_close)
local macro_rules | `(tactic| walk_at "exec For Tuple Call cons nil") => `(tactic| (k_here; (rename Fr _ _ _ _ => lF'); (with_unfolding_all refine' For_turns lF' ?_; k_whole); walk_say "MY FOR"))
local macro_rules | `(tactic| walk_at "pyIter ref") => `(tactic| ((with_reducible show wpAny _ _ (pyIter (Value.ref _)) (fun it s₂ => TurnsAt _ _ _ _ _ _ _ _ _ it s₂) _ _); refine stopP ?_; walk_say "STOP"))

theorem map_off {m m₀ : Str → Option Value} (ns : List Str) (hz : ∀ z, ns.contains z = false → m z = m₀ z) : m = fun y => if ns.contains y then m y else m₀ y := by
  funext y
  cases h : ns.contains y with
  | true => simp only [if_true]
  | false => simp only [Bool.false_eq_true, if_false]; exact hz y h
theorem three_off {z : Str} (h : [Str.ofString "name", Str.ofString "pat", Str.ofString "due"].contains z = false) : z ≠ Str.ofString "name" ∧ z ≠ Str.ofString "pat" ∧ z ≠ Str.ofString "due" := by
  simpa [List.contains_cons, List.contains_nil, Bool.or_eq_false_iff, beq_eq_false_iff_ne] using h
theorem news_dup {h₀ h : Heap} {L : Addr} {q : Addr × Obj} {news : List (Addr × Obj)} (N : News h₀ L h news) (hq : q ∈ news) : News h₀ L h (q :: news) := fun p hp => by
  rcases List.mem_cons.mp hp with rfl | hp
  · exact N _ hq
  · exact N p hp
theorem news_drop {h₀ h : Heap} {L : Addr} {news : List (Addr × Obj)} (_ : News h₀ L h news) : News h₀ L h [] := News.nil
theorem five_off {z : Str} (h : [Str.ofString "v", Str.ofString "name", Str.ofString "pat", Str.ofString "sure", Str.ofString "due"].contains z = false) : z ≠ Str.ofString "v" ∧ z ≠ Str.ofString "name" ∧ z ≠ Str.ofString "pat" ∧ z ≠ Str.ofString "sure" ∧ z ≠ Str.ofString "due" := by
  simpa [List.contains_cons, List.contains_nil, Bool.or_eq_false_iff, beq_eq_false_iff_ne] using h
theorem seeds_P {pre seeds : List Int} {k e n : Int} (h1 : seeds.length = pre.length + 8) (h2 : ∀ x, x ∈ seeds → 0 ≤ x ∧ x < 2147483648) (hk : k = 0 + (pre.length : Int)) (hlt : pre.length < ((if 24 < n then 24 else n) - 0).toNat) :
    (seeds ++ [e.fmod 1000003 * 64 + k]).length = (pre ++ [k]).length + 8 ∧ ∀ x, x ∈ seeds ++ [e.fmod 1000003 * 64 + k] → 0 ≤ x ∧ x < 2147483648 := by
  refine ⟨by simp [h1], fun x hx => ?_⟩
  rcases List.mem_append.mp hx with hx | hx
  · exact h2 x hx
  · rw [List.mem_singleton.mp hx]
    have a := Int.emod_nonneg e (show (1000003 : Int) ≠ 0 by decide)
    have b := Int.emod_lt_of_pos e (show (0 : Int) < 1000003 by decide)
    rw [Int.fmod_eq_emod_of_nonneg e (by decide)]
    split at hlt <;> omega
theorem int_at : ∀ {vs : List Value} {ns : List Int}, IntsAre vs ns → ∀ v ∈ vs, ∃ n t, v = .int n t ∧ n ∈ ns
  | _, _, .nil, v, hv => nomatch hv
  | _, _, .cons n t h, v, hv => by
    rcases List.mem_cons.mp hv with rfl | hv
    · exact ⟨n, t, rfl, List.Mem.head _⟩
    · obtain ⟨n', t', e, hm⟩ := int_at h v hv
      exact ⟨n', t', e, List.Mem.tail _ hm⟩
theorem row_at {es : List (Addr × Obj)} {v : Value} (h : v ∈ es.map fun e => Value.ref e.1) : ∃ e, e ∈ es ∧ v = .ref e.1 := by
  obtain ⟨e, he, rfl⟩ := List.mem_map.mp h
  exact ⟨e, he, rfl⟩

local macro_rules | `(tactic| walk_at "pyIter ref") => `(tactic| ((with_reducible show wpAny _ _ (pyIter (Value.ref _)) (fun it s₂ => LoopAtV _ _ _ _ _ (Str.ofString "v") _ _ _ it s₂) _ _); refine stopP ?_; walk_say "STOP"))

set_option maxHeartbeats 8000000 in
theorem law_holds : PySem.Challenge.rw_aa6010_01.Holds := hd (by
  w_strict (
    k_with_none; k_go0; (all_goals try k_fold)
    k_steps
    unfold StopP
    rename Fr _ _ _ _ => hF
    rename News _ _ _ _ => hN
    rename List (Addr × Obj) => es
    rename (∀ p, p ∈ es → p.1 ≠ _) => hne
    rename (∀ p, p ∈ es → RowOf p.2) => hrow
    refine' turns_names (news := es) [Str.ofString "name", Str.ofString "pat", Str.ofString "due"] rfl (fun p hp => hN p (List.mem_singleton.mp hp ▸ List.Mem.head _)) hne hF (fun p hp => hN p (List.Mem.tail _ hp)) ?_ ?_
    · rintro v m₁ h tk own hv hJ F₁ N₁
      obtain ⟨⟨T, o⟩, he, rfl⟩ := row_at hv
      obtain ⟨nm, pt, b, t1, t2, c, rfl, l1, l2, hw⟩ := hrow _ he
      have N₂ := news_dup N₁ (List.mem_append_left _ he)
      clear N₁ hF hN
      (try k_fold)
      k_steps
      rename Fr _ _ _ _ => hF'
      rename News _ _ _ _ => hN'
      unfold StopP
      refine InvEndN.intro hF' hN' ⟨rfl, fun z hz => ?_⟩ rfl (fun p hp => List.Mem.tail _ (List.mem_append_left _ hp)) (fun p hp => List.Mem.tail _ (List.mem_append_right _ hp))
      · obtain ⟨z1, z2, z3⟩ := three_off hz
        simp only [z1, z2, z3, if_false]
        exact hJ z hz
    · intro m₁ h tk hJ F₁ N₁
      rw [map_off _ hJ] at F₁
      replace N₁ := news_drop N₁
      clear hF hN hne hrow
      (try dsimp only)
      (try k_fold)
      k_with "pyIter ref" => k_state (fun pre seeds => seeds.length = pre.length + 8 ∧ ∀ x, x ∈ seeds → 0 ≤ x ∧ x < 2147483648) "seeds"
      k_with "state" => exact seeds_P (by assumption) (by assumption) (by assumption) (by assumption)
      k_steps
      unfold StopP
      rename Fr _ _ _ _ => hF
      rename News _ _ _ _ => hN
      rename IntsAre _ _ => hI
      rename (∀ x : Int, _ → 0 ≤ x ∧ x < 2147483648) => hS
      refine' iter_names (news := []) [Str.ofString "v", Str.ofString "name", Str.ofString "pat", Str.ofString "sure", Str.ofString "due"] rfl (fun p hp => hN p (List.mem_singleton.mp hp ▸ List.Mem.head _)) (fun _ hp => nomatch hp) hF News.nil ?_ ?_
      · rintro v m₂ h₂ tk₂ own hv hJ₂ F₂ N₂
        obtain ⟨n, t, rfl, hn⟩ := int_at hI v hv
        obtain ⟨hn0, hn1⟩ := hS n hn
        clear hF hN
        (try k_fold)
        k_steps
        unfold StopP
        (k_here; k_dflt (refine' tells_use (case_tells _ _ _ _ _ _ ?c1 ?c2) ?k1 ?k2 ?k3 ?k4 ?k5 ?kK ?kd ?ku ?_; (case k1 => k_asm); (case k2 => k_asm); (case k3 => k_asm); (case k4 => k_asm); (case k5 => k_asm); (case kK => first | exact rfl | assumption); (case kd => ktr_room); (case ku => ktr_units); (case c1 => omega); (case c2 => omega); k_whole); intro r9 h9 tk9 F9 N9 ok9; k_dflt (obtain ⟨nm9, pt9, su9, u9, v9, a9, b9, s9, D9, k9, e9, f9, g9⟩ := caseOf_says ok9); subst e9; have N10 := news_pair (by k_asm) N9 f9 g9; clear N9 f9 g9; (rcases s9 with ⟨s9, w9⟩ | s9 <;> subst s9); (all_goals (try dsimp only)); (all_goals (try k_sweep)))
        all_goals (try k_fold)
        all_goals k_steps
        all_goals unfold StopP
        all_goals (rename Fr _ _ _ _ => hF'; rename News _ _ _ _ => hN')
        all_goals (refine InvEndN.intro hF' hN' ⟨rfl, fun z hz => ?_⟩ rfl (fun _ hp => nomatch hp) (fun p hp => List.Mem.tail _ hp))
        all_goals
          obtain ⟨z1, z2, z3, z4, z5⟩ := five_off hz
          simp only [z1, z2, z3, z4, z5, if_false]
          exact hJ₂ z hz
      · intro m₂ h₂ tk₂ hJ₂ F₂ N₂
        clear hF hN
        (try dsimp only)
        (try k_fold)
        k_steps))
end Mine
end


theorem PySem.Challenge.cw_aa6010_01_holds : PySem.Challenge.rw_aa6010_01.Holds :=
  Mine.law_holds
