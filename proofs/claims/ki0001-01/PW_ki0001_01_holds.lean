import PyProof.Rows.All
import Wide.All
import OpenK.AllK
import Wide.FinOn
import PyProof.AttrMissHeap
import PyProof.EnumMake
import PyProof.WalksU
import PyProof.ZipIter
import PyProof.Rows.LoopPair
import PyProof.WalksEnum
import PyProof.TypeEq
import KE.KDictOf
import KE.KRevIter
import KE.KStar
import Lean
import PySem.Challenge.RW_ki0001_01

-- the head
section
open PySem PySem.W PyProof.Rows
set_option Elab.async false
set_option maxRecDepth 100000
set_option maxHeartbeats 8000000
namespace Mine
open_top hd for PySem.Challenge.rw_ki0001_01
end Mine
end

-- part B0
section
open PySem PySem.W PyProof.Rows
set_option Elab.async false
set_option maxRecDepth 100000
namespace Mine
open PySem.Calls

abbrev P0 : Program := PySem.Challenge.rw_ki0001_01.row.prog

/-- what a call of the text's own leaves: the heap grows, nothing that stood is turned; tl is new -/
structure Grew (h h' : Heap) (tl : List (Addr × Obj)) : Prop where
  st : h.StaysIn h'
  new : ∀ p ∈ tl, h'.get? p.1 = some p.2 ∧ h.get? p.1 = none

theorem fr_stays {h₀ h h' : Heap} {L : Addr} {m : Str → Option Value} (F : Fr h₀ L h m) (st : h.StaysIn h') : Fr h₀ L h' m :=
  ⟨F.ns.keeps st, fun b o e => st _ _ (F.keep b o e), F.above⟩
theorem fr_get {h₀ h : Heap} {L : Addr} {m : Str → Option Value} (F : Fr h₀ L h m) : ∃ o, h.get? L = some o :=
  let ⟨o, _, _, ho, _⟩ := F.ns; ⟨o, ho⟩
theorem news_grew {h₀ h h' : Heap} {L : Addr} {m : Str → Option Value} {news tl : List (Addr × Obj)} (F : Fr h₀ L h m) (N : News h₀ L h news) (g : Grew h h' tl) : News h₀ L h' (tl ++ news) := by
  intro p hp
  rcases List.mem_append.mp hp with hp | hp
  · refine ⟨(g.new p hp).1, fun e => ?_, ?_⟩
    · obtain ⟨o, ho⟩ := fr_get F
      have := (g.new p hp).2
      rw [e, ho] at this; cases this
    · cases q : h₀.get? p.1 with
      | none => rfl
      | some o => have := (g.new p hp).2; rw [F.keep _ _ q] at this; cases this
  · exact ⟨g.st _ _ (N p hp).1, (N p hp).2⟩

section
variable {prog : Program} {w : World} {A₀ A : Around} {s : Shared} {base h₀ : Heap} {outer : List Env} {L : Addr} {m : Str → Option Value} {env : Env} {K : Frag} {p : Program} {loose : List Str} {mean : ExcName → Option Value} {mg mb : Str → Option Value}
  {R : Result → Shared → Prop} {name qual : Str} {params : Arguments} {body : List Stmt} {scope : Scope} {dV kV doc pm cdv ct oc : Value} {an od : Option Addr} {osl : Array (Option Value)} {f : Addr} {args : Args} {binds : List (Str × Value)}

/-- a def is entered; all that stands is the base -/
theorem enterB (B : Below A₀ base outer h₀) (F : Fr h₀ L s.heap m) (X₀ : K.In h₀) (T : Top p loose mean mg mb h₀) (hA : A.frames = some (env :: outer)) (hf : env.frame = some L) (hke : env.scope.kind = .function)
    (ho : K.lookup f = some ⟨oc, od, .func (fnOf name qual params body scope dV kV doc pm an cdv ct), osl⟩) (hcd : codeIn K cdv qual = true) (hroom : A.depth < recursionLimit)
    (hbind : BindsTo s (fnOf name qual params body scope dV kV doc pm an cdv ct) args binds) (hloc : ∀ y ∈ binds, scope.names.lookup y.1 = some .local)
    (h : ∀ L' h₁, Fr s.heap L' h₁ (fun y => binds.reverse.lookup y) → News s.heap L' h₁ [] → Below A base (env :: outer) s.heap → K.In s.heap → Top p loose mean mg mb s.heap →
      wpAny (model prog w) (A.deeper (envOf qual scope L' f cdv)) (execs body (envOf qual scope L' f cdv))
        (fun fl s' => R (.ok (.ret (match fl with | .ret v => v | _ => .none))) s')
        (fun _ _ => False)
        { s with heap := h₁, toks := s.toks + binds.length })
    (hco : scope.isCoroutine = false) (hgen : scope.isGenerator = false) (hk : scope.kind = .function)
    (hcell : ∀ x ∈ scope.names, x.2 ≠ .cell) : codeAny (model prog w) A (.call (.ref f) args) R s := by
  have st : h₀.StaysIn s.heap := F.keep
  have BG : Below A base (env :: outer) s.heap := by
    have := groundX (R := R) B F (News.nil) hA hf hke
    exact this.2.1
  refine codeAny_call_def (fd := fnX name qual params body scope [] dV kV doc pm an cdv ct) (body := body) (binds := binds) hroom ((X₀.keeps F.keep) _ _ ho) rfl (T.nolimit.keeps F.keep) (codeRec_of (X₀.keeps F.keep) hcd) rfl hbind hcell hloc (fun h₁ hns hk₁ => ?_) hco hgen hk
  exact wpAny_mono (h s.heap.objs.size h₁ ⟨hns, fun b o e => hk₁ b o e, Nat.le_refl _⟩ News.nil BG (X₀.keeps st) (T.keeps st)) (fun fl s' hl => hl) fun _ _ y => y.elim
end
end Mine
end

-- part D0
section
open PySem PySem.W PyProof.Rows
set_option Elab.async false
set_option maxRecDepth 100000
namespace Mine
open PySem.Calls

abbrev tupO (vs : List Value) (k : Nat) : Obj := { cls := .type "tuple", data := .seq vs.toArray k }

/-- a thing: an int, a bool, a str, or a pair of a str and a thing -/
inductive TIn (kn : List (Addr × Obj)) : Nat → Value → PyData → Prop
  | bool {n : Nat} (b : Bool) : TIn kn n (.bool b) (.bool b)
  | int {n : Nat} (i : Int) (t : Tok) : TIn kn n (.int i t) (.int i)
  | str {n : Nat} (x : Str) (t : Tok) : PyData.strOk x = true → TIn kn n (.str x t) (.str x)
  | pair {n : Nat} {a : Addr} {k : Nat} {x : Str} {t : Tok} {v : Value} {d : PyData} : (a, tupO [.str x t, v] k) ∈ kn → PyData.strOk x = true → TIn kn n v d → TIn kn (n + 1) (.ref a) (.tuple [.str x, d])

theorem TIn.mono {kn kn' : List (Addr × Obj)} (hs : ∀ p ∈ kn, p ∈ kn') {n : Nat} {v : Value} {d : PyData} (h : TIn kn n v d) : TIn kn' n v d := by
  induction h with
  | bool b => exact .bool b
  | int i t => exact .int i t
  | str x t o => exact .str x t o
  | pair hm o _ ih => exact .pair (hs _ hm) o ih
theorem TIn.up {kn : List (Addr × Obj)} {n : Nat} {v : Value} {d : PyData} (h : TIn kn n v d) : ∀ {k : Nat}, n ≤ k → TIn kn k v d := by
  induction h with
  | bool b => exact fun _ => .bool b
  | int i t => exact fun _ => .int i t
  | str x t o => exact fun _ => .str x t o
  | pair hm o _ ih =>
    intro k hk
    obtain ⟨j, rfl⟩ : ∃ j, k = j + 1 := ⟨k - 1, by omega⟩
    exact .pair hm o (ih (by omega))

def KnOk (kn : List (Addr × Obj)) (h : Heap) : Prop := ∀ p ∈ kn, h.get? p.1 = some p.2
theorem KnOk.keeps {kn : List (Addr × Obj)} {h h' : Heap} (k : KnOk kn h) (st : h.StaysIn h') : KnOk kn h' := fun p hp => st _ _ (k p hp)

theorem TIn.reads {kn : List (Addr × Obj)} {h : Heap} (k : KnOk kn h) {n : Nat} {v : Value} {d : PyData} (x : TIn kn n v d) : ∃ as, Reads h v d as := by
  induction x with
  | bool b => exact ⟨_, Reads.bool b⟩
  | int i t => exact ⟨_, Reads.int i t⟩
  | str y t _ => exact ⟨_, Reads.str y t⟩
  | pair hm _ _ ih =>
    obtain ⟨as, r⟩ := ih
    exact ⟨_, reads_tuple_at (k _ hm) rfl rfl (ReadsAll.cons (Reads.str _ _) (ReadsAll.cons r ReadsAll.nil))⟩
theorem TIn.lay {kn : List (Addr × Obj)} {n : Nat} {v : Value} {d : PyData} (x : TIn kn n v d) : d.canLay0 = true ∧ d.depth ≤ n := by
  induction x with
  | bool b => simp [PyData.canLay0, PyData.depth]
  | int i t => simp [PyData.canLay0, PyData.depth]
  | str y t o => simp [PyData.canLay0, PyData.depth, o]
  | pair hm o _ ih =>
    obtain ⟨h1, h2⟩ := ih
    simp only [PyData.canLay0, PyData.canLayAll0, PyData.depth, PyData.depthAll, h1, o, Bool.and_self, true_and]
    omega

def kindD : PyData → Int
  | .bool _ => 1
  | .int _ => 2
  | .str _ => 3
  | _ => 4
def fellowD : PyData → PyData
  | .bool b => .int (if b then 1 else 0)
  | .int i => if 0 ≤ i ∧ i < 2 then .bool (i == 1) else .int i
  | d => d
def alikeD (d e : PyData) (k : Bool) : Bool := PyData.eqv d e && (!k || kindD d == kindD e)

section
variable {prog : Program} {w : World} {A : Around} {E : Value → Shared → Prop} {s : Shared} {kn : List (Addr × Obj)} {Q : Value → Shared → Prop}
theorem eq_things {n k : Nat} {v u : Value} {d e : PyData} (hkn : KnOk kn s.heap) (hv : TIn kn n v d) (hu : TIn kn k u e) (hn : n ≤ 8) (hk : k ≤ 8) (hun : A.units + 64 < cLine)
    (h : Q (.bool (PyData.eqv d e)) s) : wpAny (model prog w) A (compareOp .Eq v u) Q E s := by
  obtain ⟨as, ra⟩ := hv.reads hkn
  obtain ⟨bs, rb⟩ := hu.reads hkn
  have la := hv.lay
  have lb := hu.lay
  refine eq_dataH ra rb ?_ ?_ hun h
  · unfold SeqAt.shaped; rw [la.1, Bool.true_and]; exact decide_eq_true (Nat.le_trans (Nat.le_trans la.2 hn) (by decide))
  · unfold SeqAt.shaped; rw [lb.1, Bool.true_and]; exact decide_eq_true (Nat.le_trans (Nat.le_trans lb.2 hk) (by decide))
end
end Mine
end

-- part D1
section
open PySem PySem.W PyProof.Rows
open Lean Elab Tactic Meta
set_option Elab.async false
set_option maxRecDepth 100000
set_option pp.deepTerms false
set_option pp.deepTerms.threshold 12
set_option pp.maxSteps 60000
namespace Mine
open PySem.Calls
section
variable {w : World} {p : Program} {loose : List Str} {mean : ExcName → Option Value} {mg mb : Str → Option Value}
  {dp un : Nat} {gd : Option (List Code)} {cn : Str} {cs : Scope} {a : Addr} {ccd : Value} {cl : List (Str × Addr)} {outer : List Env} {A₀ : Around} {base h₀ : Heap} {L : Addr} {m : Str → Option Value} {s : Shared} {Q E : Value → Shared → Prop}
set_option maxHeartbeats 2000000 in
theorem kind_sum {kn : List (Addr × Obj)} {n : Nat} {v : Value} {d : PyData} (B : Below A₀ base outer h₀) (F : Fr h₀ L s.heap m) (X : (hd.heap_39 w.params).In h₀) (T : Top p loose mean mg mb h₀) (hk : cs.kind = .function) (hd : dp + 8 < recursionLimit) (hu : un + 200 < cLine) (hkn : KnOk kn s.heap) (hv : TIn kn n v d)
  (hret : ∀ t' h' tk', Grew s.heap h' [] → Q (.int (kindD d) t') { s with heap := h', toks := tk' }) :
  wpAny (model PySem.Challenge.rw_ki0001_01.row.prog w) (ktrTop dp un gd cn cs L a ccd cl outer) (call (.ref 66) [v]) Q E s := by
  revert X; k_fill; intro X
  refine wpAny_call ?_
  cases hv
  case pair hm ok hv =>
    have hT : s.heap.IsTuple _ _ := ⟨_, hkn _ hm, rfl, _, rfl⟩
    (refine' enterB ?k1 ?k2 ?k3 ?k5 ?kA ?kF ?kK ?k6 ?k7 ?k8 ?k9 ?kB ?_ ?c2 ?c3 ?c4 ?c5; (case kA => exact rfl); (case kF => exact rfl); (case kK => assumption); (case k1 => k_asm); (case k2 => k_asm); (case k3 => k_asm); (case k5 => k_asm); (case k6 => k_is); (case k7 => k_is); (case k8 => ktr_room); (case k9 => exact BindsTo.of_eq rfl); (case c5 => decide); (case kB => exact locs rfl); (case c2 => exact rfl); (case c3 => exact rfl); (case c4 => exact rfl); k_whole; intro L' h' F' N' B' X' T'; (try dsimp only); (try k_lift B'); (try k_fold))
    k_steps
    all_goals exact hret _ _ _ ⟨F'.keep, fun _ h => nomatch h⟩
  all_goals (
    (refine' enterB ?k1 ?k2 ?k3 ?k5 ?kA ?kF ?kK ?k6 ?k7 ?k8 ?k9 ?kB ?_ ?c2 ?c3 ?c4 ?c5; (case kA => exact rfl); (case kF => exact rfl); (case kK => assumption); (case k1 => k_asm); (case k2 => k_asm); (case k3 => k_asm); (case k5 => k_asm); (case k6 => k_is); (case k7 => k_is); (case k8 => ktr_room); (case k9 => exact BindsTo.of_eq rfl); (case c5 => decide); (case kB => exact locs rfl); (case c2 => exact rfl); (case c3 => exact rfl); (case c4 => exact rfl); k_whole; intro L' h' F' N' B' X' T'; (try dsimp only); (try k_lift B'); (try k_fold))
    k_steps
    all_goals exact hret _ _ _ ⟨F'.keep, fun _ h => nomatch h⟩)
end
end Mine
end

-- part D2
section
open PySem PySem.W PyProof.Rows
open Lean Elab Tactic Meta
set_option Elab.async false
set_option maxRecDepth 100000
set_option linter.unusedVariables false
set_option pp.deepTerms false
set_option pp.deepTerms.threshold 12
set_option pp.maxSteps 60000
namespace Mine
local macro_rules | `(tactic| walk_at $s:str) => `(tactic| k_extra $s)
open PySem.Calls PySem.SeqAt
theorem ge_bool_int (b : Bool) (i : Int) (t : Tok) : Gives (Builtin.«int.__ge__» ⟨[.bool b, .int i t], []⟩) (.val (Value.bool (decide ((if b = true then (1 : Int) else 0) ≥ i)))) :=
  .of_wp fun M A E s Q h => by obtain ⟨hp, g, d, tk, os⟩ := s; wp_walk; exact ⟨_, rfl, h⟩
theorem lt_bool_int (b : Bool) (i : Int) (t : Tok) : Gives (Builtin.«int.__lt__» ⟨[.bool b, .int i t], []⟩) (.val (Value.bool (decide ((if b = true then (1 : Int) else 0) < i)))) :=
  .of_wp fun M A E s Q h => by obtain ⟨hp, g, d, tk, os⟩ := s; wp_walk; exact ⟨_, rfl, h⟩
section
variable {prog : Program} {w : World} {A : Around} {E : Value → Shared → Prop} {s : Shared} {Q : Value → Shared → Prop} {b : Bool} {i : Int} {t : Tok}
theorem le_int_bool (h : Q (.bool (decide ((if b = true then (1 : Int) else 0) ≥ i))) s) : wpAny (model prog w) A (compareOp .LtE (.int i t) (.bool b)) Q E s :=
  cmp_ofLtE (rc_sub_first_or (typeIs_int s i t) rfl (by decide) F.sub_bool_int F.slot_bool_ge_refl
    (call_gives F.slot_bool_ge_refl rfl F.entry_int_ge (F.args_int_ge_2 _ _) (ge_bool_int b i t) ⟨nofun, h⟩) (.inl rfl))
theorem lt_bool_int' (h : Q (.bool (decide ((if b = true then (1 : Int) else 0) < i))) s) : wpAny (model prog w) A (compareOp .Lt (.bool b) (.int i t)) Q E s :=
  cmp_ofLt (rc_left_or rfl (typeIs_int s i t) (by decide) F.sub_int_bool F.slot_bool_lt
    (call_gives F.slot_bool_lt rfl F.entry_int_lt (F.args_int_lt_2 _ _) (lt_bool_int b i t) ⟨nofun, h⟩) (.inl rfl))
end
theorem wordsD2w_1 : True := by
  k_with_none
  k_with "compareOp LtE int bool" => refine le_int_bool ?_
  k_with "compareOp Lt bool int" => refine lt_bool_int' ?_
  trivial

theorem stay_both {h₀ h h' : Heap} {L : Addr} {m : Str → Option Value} {news : List (Addr × Obj)} (F : Fr h₀ L h m) (N : News h₀ L h news) (g : Grew h h' []) : Fr h₀ L h' m ∧ News h₀ L h' news :=
  ⟨fr_stays F g.st, fun p hp => ⟨g.st _ _ (N p hp).1, (N p hp).2⟩⟩
section
variable {w : World} {p : Program} {loose : List Str} {mean : ExcName → Option Value} {mg mb : Str → Option Value}
  {dp un : Nat} {gd : Option (List Code)} {cn : Str} {cs : Scope} {a : Addr} {ccd : Value} {cl : List (Str × Addr)} {outer : List Env} {A₀ : Around} {base h₀ : Heap} {L : Addr} {m : Str → Option Value} {s : Shared} {Q E : Value → Shared → Prop}
variable {news kn : List (Addr × Obj)} {n k : Nat} {v u : Value} {d e : PyData}
theorem kind_use (B : Below A₀ base outer h₀) (F : Fr h₀ L s.heap m) (X : (hd.heap_39 w.params).In h₀) (T : Top p loose mean mg mb h₀) (hk : cs.kind = .function) (hd : dp + 8 < recursionLimit) (hu : un + 200 < cLine) (N : News h₀ L s.heap news) (hkn : KnOk kn h₀) (hv : TIn kn n v d)
  (hret : ∀ t' h' tk', Fr h₀ L h' m → News h₀ L h' news → Q (.int (kindD d) t') { s with heap := h', toks := tk' }) :
  wpAny (model PySem.Challenge.rw_ki0001_01.row.prog w) (ktrTop dp un gd cn cs L a ccd cl outer) (call (.ref 66) [v]) Q E s :=
  kind_sum B F X T hk hd hu (hkn.keeps F.keep) hv fun t' h' tk' g => hret t' h' tk' (stay_both F N g).1 (stay_both F N g).2

theorem grew_of {h₀ h : Heap} {L : Addr} {m : Str → Option Value} {news : List (Addr × Obj)} (F : Fr h₀ L h m) (N : News h₀ L h news) : Grew h₀ h news := ⟨F.keep, fun p hp => ⟨(N p hp).1, (N p hp).2.2⟩⟩
section
theorem wordsD2w_2 : True := by
  k_with "call ref" => (k_here; (with_reducible show wpAny _ _ (call (Value.ref 66) [_]) _ _ _); k_dflt (refine' kind_use (by k_asm) (by k_asm) (by k_asm) (by k_asm) (by first | exact rfl | assumption) (by ktr_room) (by ktr_units) (by k_asm) (by k_asm) (by k_asm) ?_); intro t' h' tk' F' N'; (try dsimp only [kindD]))
  trivial

set_option maxHeartbeats 2000000 in
theorem fellow_sum (B : Below A₀ base outer h₀) (F : Fr h₀ L s.heap m) (X : (hd.heap_39 w.params).In h₀) (T : Top p loose mean mg mb h₀) (hk : cs.kind = .function) (hd : dp + 12 < recursionLimit) (hu : un + 230 < cLine) (hkn : KnOk kn s.heap) (hv : TIn kn n v d)
  (hret : ∀ r d' h' tk', Grew s.heap h' [] → TIn kn n r d' → Q r { s with heap := h', toks := tk' }) :
  wpAny (model PySem.Challenge.rw_ki0001_01.row.prog w) (ktrTop dp un gd cn cs L a ccd cl outer) (call (.ref 73) [v]) Q E s := by
  revert X; k_fill; intro X
  refine wpAny_call ?_
  have hv' := hv
  cases hv
  all_goals (
    (refine' enterB ?k1 ?k2 ?k3 ?k5 ?kA ?kF ?kK ?k6 ?k7 ?k8 ?k9 ?kB ?_ ?c2 ?c3 ?c4 ?c5; (case kA => exact rfl); (case kF => exact rfl); (case kK => assumption); (case k1 => k_asm); (case k2 => k_asm); (case k3 => k_asm); (case k5 => k_asm); (case k6 => k_is); (case k7 => k_is); (case k8 => ktr_room); (case k9 => exact BindsTo.of_eq rfl); (case c5 => decide); (case kB => exact locs rfl); (case c2 => exact rfl); (case c3 => exact rfl); (case c4 => exact rfl); k_whole; intro L' h' F' N' B' X' T'; (try dsimp only); (try k_lift B'); (try k_fold))
    k_steps
    all_goals (try dsimp only)
    all_goals (try unfold qk)
    all_goals (try dsimp only)
    all_goals (rename Fr _ _ _ _ => G'))
  all_goals first
    | exact hret _ _ _ _ ⟨G'.keep, fun _ h => nomatch h⟩ hv'
    | exact hret _ _ _ _ ⟨G'.keep, fun _ h => nomatch h⟩ (.int _ _)
    | exact hret _ _ _ _ ⟨G'.keep, fun _ h => nomatch h⟩ (.bool _)

end
theorem wordsD2w_3 : True := by
  k_with "call ref" => (k_here; (with_reducible show wpAny _ _ (call (Value.ref 66) [_]) _ _ _); k_dflt (refine' kind_use (by k_asm) (by k_asm) (by k_asm) (by k_asm) (by first | exact rfl | assumption) (by ktr_room) (by ktr_units) (by k_asm) (by k_asm) (by k_asm) ?_); intro t' h' tk' F' N'; (try dsimp only))
  k_with "compareOp Eq" => (k_here; k_dflt (refine' eq_things (by exact KnOk.keeps (by k_asm) (Fr.keep (by k_asm))) (by k_asm) (by k_asm) (Nat.le_refl 8) (Nat.le_refl 8) (by ktr_units) ?_))
  trivial

set_option maxHeartbeats 2000000 in
theorem alike_sum {b : Bool} (B : Below A₀ base outer h₀) (F : Fr h₀ L s.heap m) (X : (hd.heap_39 w.params).In h₀) (T : Top p loose mean mg mb h₀) (hk : cs.kind = .function) (hd : dp + 12 < recursionLimit) (hu : un + 230 < cLine) (hkn : KnOk kn s.heap) (hv : TIn kn 8 v d) (hv2 : TIn kn 8 u e)
  (hret : ∀ h' tk', Grew s.heap h' [] → Q (.bool (alikeD d e b)) { s with heap := h', toks := tk' }) :
  wpAny (model PySem.Challenge.rw_ki0001_01.row.prog w) (ktrTop dp un gd cn cs L a ccd cl outer) (call (.ref 80) [v, u, .bool b]) Q E s := by
  revert X; k_fill; intro X
  refine wpAny_call ?_
  (refine' enterB ?k1 ?k2 ?k3 ?k5 ?kA ?kF ?kK ?k6 ?k7 ?k8 ?k9 ?kB ?_ ?c2 ?c3 ?c4 ?c5; (case kA => exact rfl); (case kF => exact rfl); (case kK => assumption); (case k1 => k_asm); (case k2 => k_asm); (case k3 => k_asm); (case k5 => k_asm); (case k6 => k_is); (case k7 => k_is); (case k8 => ktr_room); (case k9 => exact BindsTo.of_eq rfl); (case c5 => decide); (case kB => exact locs rfl); (case c2 => exact rfl); (case c3 => exact rfl); (case c4 => exact rfl); k_whole; intro L' h' F' N' B' X' T'; (try dsimp only); (try k_lift B'); (try k_fold))
  k_steps
  all_goals (try dsimp only)
  all_goals (try unfold qk)
  all_goals (try dsimp only)
  all_goals (rename Fr _ _ _ _ => G')
  all_goals (
    have hr : ∀ r, r = alikeD d e b → ∀ h' tk', Grew s.heap h' [] → Q (.bool r) { s with heap := h', toks := tk' } := fun r hr => hr ▸ hret
    exact hr _ (by simp [alikeD, *]) _ _ ⟨G'.keep, fun _ h => nomatch h⟩)

theorem ok_n : PyData.strOk (Str.ofString "n") = true := by decide +kernel
theorem ok_k : PyData.strOk (Str.ofString "k") = true := by decide +kernel
theorem ok_e : PyData.strOk (Str.ofString "") = true := by decide +kernel
set_option maxHeartbeats 2000000 in
theorem thing_sum {x y : Int} {tx ty : Tok} (B : Below A₀ base outer h₀) (F : Fr h₀ L s.heap m) (X : (hd.heap_39 w.params).In h₀) (T : Top p loose mean mg mb h₀) (hk : cs.kind = .function) (hd : dp + 12 < recursionLimit) (hu : un + 230 < cLine) 
  (hret : ∀ r d h' tk' tl, Grew s.heap h' tl → TIn tl 1 r d → Q r { s with heap := h', toks := tk' }) :
  wpAny (model PySem.Challenge.rw_ki0001_01.row.prog w) (ktrTop dp un gd cn cs L a ccd cl outer) (call (.ref 59) [.int x tx, .int y ty]) Q E s := by
  revert X; k_fill; intro X
  refine wpAny_call ?_
  (refine' enterB ?k1 ?k2 ?k3 ?k5 ?kA ?kF ?kK ?k6 ?k7 ?k8 ?k9 ?kB ?_ ?c2 ?c3 ?c4 ?c5; (case kA => exact rfl); (case kF => exact rfl); (case kK => assumption); (case k1 => k_asm); (case k2 => k_asm); (case k3 => k_asm); (case k5 => k_asm); (case k6 => k_is); (case k7 => k_is); (case k8 => ktr_room); (case k9 => exact BindsTo.of_eq rfl); (case c5 => decide); (case kB => exact locs rfl); (case c2 => exact rfl); (case c3 => exact rfl); (case c4 => exact rfl); k_whole; intro L' h' F' N' B' X' T'; (try dsimp only); (try k_lift B'); (try k_fold))
  k_steps
  all_goals (rename Fr _ _ _ _ => G')
  all_goals (rename News _ _ _ _ => N')
  all_goals first
    | exact hret _ _ _ _ _ (grew_of G' N') (.int _ _)
    | exact hret _ _ _ _ _ (grew_of G' N') (.bool _)
    | exact hret _ _ _ _ _ (grew_of G' N') (.str _ _ ok_n)
    | exact hret _ _ _ _ _ (grew_of G' N') (.str _ _ ok_e)
    | exact hret _ _ _ _ _ (grew_of G' N') (.pair (.tail _ (.head _)) ok_n (.int _ _))
end
end Mine
theorem Mine.wordsD2_off : True := by
  k_with_none
  trivial
end

-- part E1
section
open PySem PySem.W PyProof.Rows
set_option Elab.async false
set_option maxRecDepth 100000
set_option linter.unusedSimpArgs false
namespace Mine
open PySem.Calls

section
variable {M : Model} {A : Around} {E : Value → Shared → Prop} {s : Shared}
theorem extra_loop (sl : List (Str × Value)) : ∀ (kw ex : List (Str × Value)),
    (forIn kw (sl, ex) (fun x (r : List (Str × Value) × List (Str × Value)) => (pure (ForInStep.yield (r.1, r.2 ++ [(x.1, x.2)])) : Sem _)) : Sem (List (Str × Value) × List (Str × Value))) = pure (sl, ex ++ kw)
  | [], ex => by simp
  | x :: r, ex => by
    rw [List.forIn_cons]
    show (forIn r _ _ : Sem _) = _
    rw [extra_loop sl r]
    simp
theorem bind_star0 {fd : FuncData} {vs : List Value} {kw : List (Str × Value)} {va ka : Arg} {Q : List (Str × Value) → Shared → Prop}
    (hp : fd.params = ⟨[], [], some va, [], [], some ka, []⟩) (hd : fd.defaults = .none) (hk : kw.length ≤ 2)
    (h : wpAny M A (newTuple vs) (fun t s₁ => wpAny M A (alloc { cls := .type "dict", data := .dict #[] }) (fun d s₂ =>
      wpAny M A (forIn kw PUnit.unit fun x _ => (nsSet d x.1 x.2 >>= fun _ => pure (ForInStep.yield PUnit.unit))) (fun _ s₃ => Q [(va.arg, t), (ka.arg, .ref d)] s₃) E s₂) E s₁) E s) :
    wpAny M A (bindArgs fd ⟨vs, kw⟩) Q E s := by
  have hn : ¬ kw.length > sizeLine + 1 := by rw [sizeLine_eq]; omega
  unfold bindArgs
  rw [hp, hd]
  simp only [List.map_nil, List.append_nil, List.zip_nil_left, List.contains_nil, Bool.or_false, Bool.false_eq_true, if_false, Option.isSome_some, if_true, Option.isNone_some, Bool.and_false, List.length_nil, List.drop_zero, Nat.sub_zero, List.take_nil, List.filter_nil, List.isEmpty_nil, Bool.not_true]
  rw [extra_loop [] kw []]
  refine wpAny_bind (wpAny_pure ?_)
  refine wpAny_bind (m := seqItems? Value.none) (wpAny_pure ?_)
  refine wpAny_bind (wpAny_pure ?_)
  refine wpAny_bind (wpAny_pure ?_)
  simp only [List.isEmpty_nil, Bool.not_true, Bool.false_eq_true, if_false, List.nil_append, hn, List.filterMap_nil]
  refine wpAny_bind (wpAny_mono h (fun t s₁ h₁ => ?_) fun _ _ x => x)
  refine wpAny_bind (wpAny_mono h₁ (fun d s₂ h₂ => ?_) fun _ _ x => x)
  refine wpAny_bind (wpAny_mono h₂ (fun _ s₃ h₃ => wpAny_pure h₃) fun _ _ x => x)
theorem bind_star1 {fd : FuncData} {v : Value} {vs : List Value} {kw : List (Str × Value)} {pa va ka : Arg} {Q : List (Str × Value) → Shared → Prop}
    (hp : fd.params = ⟨[pa], [], some va, [], [], some ka, []⟩) (hd : fd.defaults = .none) (hk : kw.length ≤ 2)
    (h : wpAny M A (newTuple vs) (fun t s₁ => wpAny M A (alloc { cls := .type "dict", data := .dict #[] }) (fun d s₂ =>
      wpAny M A (forIn kw PUnit.unit fun x _ => (nsSet d x.1 x.2 >>= fun _ => pure (ForInStep.yield PUnit.unit))) (fun _ s₃ => Q [(pa.arg, v), (va.arg, t), (ka.arg, .ref d)] s₃) E s₂) E s₁) E s) :
    wpAny M A (bindArgs fd ⟨v :: vs, kw⟩) Q E s := by
  have hn : ¬ kw.length > sizeLine + 1 := by rw [sizeLine_eq]; omega
  unfold bindArgs
  rw [hp, hd]
  simp only [List.map_nil, List.map_cons, List.append_nil, List.zip_nil_left, List.contains_nil, Bool.or_false, Bool.false_eq_true, if_false, Option.isSome_some, if_true, Option.isNone_some, Bool.and_false, List.length_nil, List.drop_zero, Nat.sub_zero, List.take_nil, List.filter_nil, List.isEmpty_nil, Bool.not_true, List.zip_cons_cons]
  rw [extra_loop _ kw []]
  refine wpAny_bind (wpAny_pure ?_)
  refine wpAny_bind (m := seqItems? Value.none) (wpAny_pure ?_)
  have e1 : (List.filter (fun n => (List.lookup n [(pa.arg, v)]).isNone) [pa.arg]) = [] := by simp [List.lookup]
  simp only [Option.getD_none, List.length_nil, List.length_cons, Nat.zero_add, Nat.sub_zero, List.take_succ_cons, List.take_nil, List.drop_nil, List.drop_succ_cons, List.zip_nil_left, List.drop_zero, List.nil_append, e1, List.isEmpty_nil, Bool.not_true, Bool.false_eq_true, if_false, List.toList_toArray, Nat.zero_sub]
  refine wpAny_bind (wpAny_pure ?_)
  refine wpAny_bind (wpAny_pure ?_)
  simp only [List.isEmpty_nil, Bool.not_true, Bool.false_eq_true, if_false, List.nil_append, hn, List.filterMap_nil, List.filterMap_cons]
  refine wpAny_bind (wpAny_mono h (fun t s₁ h₁ => ?_) fun _ _ x => x)
  refine wpAny_bind (wpAny_mono h₁ (fun d s₂ h₂ => ?_) fun _ _ x => x)
  refine wpAny_bind (wpAny_mono h₂ (fun _ s₃ h₃ => wpAny_pure ?_) fun _ _ x => x)
  simpa [List.lookup] using h₃
end
section
variable {prog : Program} {w : World} {A : Around} {E : Value → Shared → Prop}
theorem nsSet_new {s : Shared} {d : Addr} {es : List DictEntry} {n : Nat} {k : Str} {v : Value} {Q : Unit → Shared → Prop} (D : s.heap.get? d = some (dictOf es n))
    (hs : ∀ e ∈ es, e.key.isStr k = false) (hr : ∀ e ∈ es, e.refKey = false)
    (h : ∀ h', h'.get? d = some (dictOf (es ++ [⟨PyData.keyHash w.params k, .str k s.toks, v⟩]) (n + 1)) → Heap.SameBut d s.heap h' → Q () { s with heap := h', toks := s.toks + 1 }) :
    wpAny (model prog w) A (nsSet d k v) Q E s := by
  have e1 : es.any (·.key.isStr k) = false := List.any_eq_false.mpr fun e he => by simp [hs e he]
  have e2 : es.any (·.refKey) = false := List.any_eq_false.mpr fun e he => by simp [hr e he]
  have e : Obj.putName k (PyData.keyHash w.params k) (.str k s.toks) v (dictOf es n) = dictOf (es ++ [⟨PyData.keyHash w.params k, .str k s.toks, v⟩]) (n + 1) := by
    rw [putName_dict, putL_new hs]
    show dictOf _ (if es.any (·.key.isStr k) then n else n + 1) = _
    rw [e1, if_neg Bool.false_ne_true]
  have c : aRefKeyMayBeTheName k es.toArray = false := by
    rw [aRefKeyMayBeTheName_at, ← Array.any_toList, ← Array.any_toList]
    show (!es.any (·.key.isStr k) && es.any (·.refKey)) = false
    rw [e2, Bool.and_false]
  unfold nsSet
  refine wpAny_bind (wpAny_bind (wpAny_askSetting (wpAny_pure (wpAny_bind (wpAny_mkText (wpAny_bind (wpAny_loadPart D ?_)))))))
  dsimp only
  rw [c]
  exact wpAny_updatePart D (h _ ((Heap.get?_update_self _ D ((congrArg Obj.isFreed e).trans rfl)).trans (congrArg some e)) (Heap.SameBut.update ..))

theorem fill_new {d : Addr} {Q : PUnit → Shared → Prop} : ∀ (ex : List (Str × Value)) (s : Shared) (es : List DictEntry) (n : Nat), s.heap.get? d = some (dictOf es n) →
    (∀ e ∈ es, ∀ x ∈ ex, e.key.isStr x.1 = false) → (∀ e ∈ es, e.refKey = false) → (ex.map (·.1)).Nodup →
    (∀ h', h'.get? d = some (dictOf (es ++ kwEs w.params s.toks ex) (n + ex.length)) → Heap.SameBut d s.heap h' → Q ⟨⟩ { s with heap := h', toks := s.toks + ex.length }) →
    wpAny (model prog w) A (forIn ex PUnit.unit fun x _ => (nsSet d x.1 x.2 >>= fun _ => pure (ForInStep.yield PUnit.unit))) Q E s
  | [], s, es, n, D, _, _, _, h => by
    rw [List.forIn_nil]
    exact wpAny_pure (h s.heap (by show _ = some (dictOf (es ++ []) n); rw [List.append_nil]; exact D) (Heap.SameBut.refl ..))
  | x :: r, s, es, n, D, hs, hr, hn, h => by
    obtain ⟨hn1, hn2⟩ := List.nodup_cons.mp (show (x.1 :: r.map (·.1)).Nodup from hn)
    rw [List.forIn_cons]
    refine wpAny_bind (wpAny_bind (nsSet_new D (fun e he => hs e he x (.head _)) hr fun h' D' S' => wpAny_pure ?_))
    show wpAny (model prog w) A (forIn r PUnit.unit fun x _ => (nsSet d x.1 x.2 >>= fun _ => pure (ForInStep.yield PUnit.unit))) Q E { s with heap := h', toks := s.toks + 1 }
    refine fill_new r { s with heap := h', toks := s.toks + 1 } _ _ D' (fun e he y hy => ?_) (fun e he => ?_) hn2 fun h'' D'' S'' => ?_
    · rcases List.mem_append.mp he with he | he
      · exact hs e he y (.tail _ hy)
      · obtain rfl := List.mem_singleton.mp he
        show (x.1 == y.1) = false
        exact beq_eq_false_iff_ne.mpr fun q => hn1 (by rw [q]; exact List.mem_map_of_mem hy)
    · rcases List.mem_append.mp he with he | he
      · exact hr e he
      · obtain rfl := List.mem_singleton.mp he
        rfl
    · have t1 : s.toks + 1 + r.length = s.toks + (r.length + 1) := by omega
      have t2 : n + 1 + r.length = n + (r.length + 1) := by omega
      show Q ⟨⟩ { s with heap := h'', toks := s.toks + 1 + r.length }
      rw [t1]
      refine h h'' ?_ (S'.trans S'')
      rw [t2, List.append_assoc] at D''
      exact D''
end

section
variable {prog : Program} {w : World} {A₀ A : Around} {s : Shared} {base h₀ : Heap} {outer : List Env} {L : Addr} {m : Str → Option Value} {env : Env} {K : Frag} {p : Program} {loose : List Str} {mean : ExcName → Option Value} {mg mb : Str → Option Value}
  {R : Result → Shared → Prop} {name qual : Str} {params : Arguments} {body : List Stmt} {scope : Scope} {dV kV doc pm cdv ct oc : Value} {an od : Option Addr} {osl : Array (Option Value)} {f : Addr} {args : Args} {vs : List Value} {kw front : List (Str × Value)} {va ka : Arg}

/-- a def with *args and **kwargs is entered; all that stands is the base -/
theorem enterS (B : Below A₀ base outer h₀) (F : Fr h₀ L s.heap m) (X₀ : K.In h₀) (T : Top p loose mean mg mb h₀) (hA : A.frames = some (env :: outer)) (hf : env.frame = some L) (hke : env.scope.kind = .function)
    (ho : K.lookup f = some ⟨oc, od, .func (fnOf name qual params body scope dV kV doc pm an cdv ct), osl⟩) (hcd : codeIn K cdv qual = true) (hroom : A.depth < recursionLimit)
    (hvs : vs.length ≤ sizeLine) (hn : (kw.map (·.1)).Nodup)
    (hbind : ∀ (M : Model) (Q : List (Str × Value) → Shared → Prop) (E : Value → Shared → Prop), wpAny M A.in1 (newTuple vs) (fun t s₁ => wpAny M A.in1 (alloc { cls := .type "dict", data := .dict #[] }) (fun d s₂ =>
      wpAny M A.in1 (forIn kw PUnit.unit fun x _ => (nsSet d x.1 x.2 >>= fun _ => pure (ForInStep.yield PUnit.unit))) (fun _ s₃ => Q (front ++ [(va.arg, t), (ka.arg, .ref d)]) s₃) E s₂) E s₁) E s →
      wpAny M A.in1 (bindArgs (fnOf name qual params body scope dV kV doc pm an cdv ct) args) Q E s)
    (hloc : ∀ C D, ∀ y ∈ front ++ [(va.arg, Value.ref C), (ka.arg, .ref D)], scope.names.lookup y.1 = some .local)
    (h : ∀ L' h₁ C D o, C < D → (D == sysModules) = false → o.IsDictOf (strKind prog w) kw → Fr s.heap L' h₁ (fun y => (front ++ [(va.arg, Value.ref C), (ka.arg, .ref D)]).reverse.lookup y) → News s.heap L' h₁ [(D, o), (C, tupO vs 0)] →
      Below A base (env :: outer) s.heap → K.In s.heap → Top p loose mean mg mb s.heap →
      wpAny (model prog w) (A.deeper (envOf qual scope L' f cdv)) (execs body (envOf qual scope L' f cdv))
        (fun fl s' => R (.ok (.ret (match fl with | .ret v => v | _ => .none))) s')
        (fun _ _ => False)
        { s with heap := h₁, toks := s.toks + kw.length + (front.length + 2) })
    (hco : scope.isCoroutine = false) (hgen : scope.isGenerator = false) (hk : scope.kind = .function)
    (hcell : ∀ x ∈ scope.names, x.2 ≠ .cell) : codeAny (model prog w) A (.call (.ref f) args) R s := by
  have st : h₀.StaysIn s.heap := F.keep
  have BG : Below A base (env :: outer) s.heap := (groundX (R := R) B F (News.nil) hA hf hke).2.1
  have XS := X₀.keeps st
  have TS := T.keeps st
  refine codeAny_call_function (fd := fnOf name qual params body scope dV kV doc pm an cdv ct) (body := body) hroom (XS _ _ ho) rfl hco hgen rfl (codeRec_of XS hcd) ?_
  refine hbind _ _ _ ?_
  refine wpAny_newObj_type (T := "tuple") (data := .seq vs.toArray) ?_ (by show vs.toArray.size ≤ sizeLine; rw [List.size_toArray]; exact hvs)
  refine wpAny_alloc ?_
  dsimp only
  generalize hh1 : s.heap.push { cls := .type "tuple", dict := none, data := .seq vs.toArray } = h1
  have k1 : s.heap.StaysIn h1 := fun b o e => hh1 ▸ Heap.get?_push_of_some _ e
  have z1 : h1.objs.size = s.heap.objs.size + 1 := by rw [← hh1, Heap.size_push]
  have g1 : h1.get? s.heap.objs.size = some (tupO vs 0) := hh1 ▸ Heap.get?_push_size _ rfl
  generalize hh2 : h1.push { cls := .type "dict", dict := none, data := .dict #[] } = h2
  have k2 : h1.StaysIn h2 := fun b o e => hh2 ▸ Heap.get?_push_of_some _ e
  have z2 : h2.objs.size = s.heap.objs.size + 2 := by rw [← hh2, Heap.size_push, z1]
  have g2 : h2.get? h1.objs.size = some (dictOf [] 0) := hh2 ▸ Heap.get?_push_size _ rfl
  have hsys : (h1.objs.size == sysModules) = false := by
    have F2 : Fr h₀ L h2 m := fr_stays F fun b o e => k2 _ _ (k1 _ _ e)
    exact beq_eq_false_iff_ne.mpr fun q => by
      have lo := modules_low TS.nolimit
      exact Nat.lt_irrefl _ (Nat.lt_trans (q ▸ lo : h1.objs.size < s.heap.objs.size) (by rw [z1]; exact Nat.lt_succ_self _))
  refine fill_new kw _ [] 0 g2 (fun _ he => nomatch he) (fun _ he => nomatch he) hn fun h3 D3 S3 => ?_
  rw [List.nil_append, Nat.zero_add] at D3
  have hne : s.heap.objs.size ≠ h1.objs.size := by rw [z1]; omega
  have k3 : ∀ b o, b ≠ h1.objs.size → h2.get? b = some o → h3.get? b = some o := fun b o hb e => S3.extBut b o hb e
  have z3 : h3.objs.size = s.heap.objs.size + 2 := S3.1.trans z2
  refine wpAny_newFunctionEnv hcell (hloc _ _) (fun h4 hns hsb => ⟨?_, codeAny_func ?_⟩) hk
  · exact TS.nolimit.keeps fun b o e => hsb.extBut b o (Nat.ne_of_lt (by show b < h3.objs.size; rw [z3]; exact Nat.lt_add_right 2 (Heap.lt_size e))) (Heap.get?_push_of_some _ (k3 b o (by rw [z1]; exact Nat.ne_of_lt (Nat.lt_succ_of_lt (Heap.lt_size e))) (k2 _ _ (k1 _ _ e))))
  · have k4 : ∀ b o, h3.get? b = some o → h4.get? b = some o := fun b o e => hsb.extBut b o (Nat.ne_of_lt (Heap.lt_size e)) (Heap.get?_push_of_some _ e)
    have old : s.heap.StaysIn h4 := fun b o e => k4 _ _ (k3 b o (by rw [z1]; exact Nat.ne_of_lt (Nat.lt_succ_of_lt (Heap.lt_size e))) (k2 _ _ (k1 _ _ e)))
    have none_of : ∀ a, s.heap.objs.size ≤ a → s.heap.get? a = none := fun a ha => by
      cases q : s.heap.get? a with
      | none => rfl
      | some o => exact absurd (Heap.lt_size q) (Nat.not_lt.mpr ha)
    have fin := h h3.objs.size h4 s.heap.objs.size h1.objs.size _ (by rw [z1]; exact Nat.lt_succ_self _) hsys (kp_isDict s.toks kw.length hn) ⟨hns, old, by rw [z3]; exact Nat.le_add_right _ _⟩ (fun q hq => ?_) BG XS TS
    · have el : (front ++ [(va.arg, Value.ref s.heap.objs.size), (ka.arg, Value.ref h1.objs.size)]).length = front.length + 2 := by simp
      rw [el]
      exact wpAny_mono fin (fun fl s' hl => hl) fun _ _ y => False.elim y
    · rcases List.mem_cons.mp hq with rfl | hq
      · exact ⟨k4 _ _ D3, by show h1.objs.size ≠ h3.objs.size; omega, none_of _ (by show _ ≤ h1.objs.size; omega)⟩
      · obtain rfl := List.mem_singleton.mp hq
        exact ⟨k4 _ _ (k3 _ _ hne (k2 _ _ g1)), by show s.heap.objs.size ≠ h3.objs.size; omega, none_of _ (Nat.le_refl _)⟩
theorem enterS0 (B : Below A₀ base outer h₀) (F : Fr h₀ L s.heap m) (X₀ : K.In h₀) (T : Top p loose mean mg mb h₀) (hA : A.frames = some (env :: outer)) (hf : env.frame = some L) (hke : env.scope.kind = .function)
    (ho : K.lookup f = some ⟨oc, od, .func (fnOf name qual params body scope dV kV doc pm an cdv ct), osl⟩) (hcd : codeIn K cdv qual = true) (hroom : A.depth < recursionLimit)
    (hvs : vs.length ≤ sizeLine) (hn : (kw.map (·.1)).Nodup) (hk2 : kw.length ≤ 2)
    (hp : params = ⟨[], [], some va, [], [], some ka, []⟩) (hdV : dV = .none)
    (hloc : ∀ C D, ∀ y ∈ [(va.arg, Value.ref C), (ka.arg, .ref D)], scope.names.lookup y.1 = some .local)
    (h : ∀ L' h₁ C D o, C < D → (D == sysModules) = false → o.IsDictOf (strKind prog w) kw → Fr s.heap L' h₁ (fun y => ([(va.arg, Value.ref C), (ka.arg, .ref D)] : List (Str × Value)).reverse.lookup y) → News s.heap L' h₁ [(D, o), (C, tupO vs 0)] →
      Below A base (env :: outer) s.heap → K.In s.heap → Top p loose mean mg mb s.heap →
      wpAny (model prog w) (A.deeper (envOf qual scope L' f cdv)) (execs body (envOf qual scope L' f cdv))
        (fun fl s' => R (.ok (.ret (match fl with | .ret v => v | _ => .none))) s')
        (fun _ _ => False)
        { s with heap := h₁, toks := s.toks + kw.length + 2 })
    (hco : scope.isCoroutine = false) (hgen : scope.isGenerator = false) (hk : scope.kind = .function)
    (hcell : ∀ x ∈ scope.names, x.2 ≠ .cell) : codeAny (model prog w) A (.call (.ref f) ⟨vs, kw⟩) R s :=
  enterS (front := []) B F X₀ T hA hf hke ho hcd hroom hvs hn (fun M Q E h => bind_star0 (fd := fnOf name qual params body scope dV kV doc pm an cdv ct) hp hdV hk2 h) hloc h hco hgen hk hcell
theorem enterS1 {v : Value} {pa : Arg} (B : Below A₀ base outer h₀) (F : Fr h₀ L s.heap m) (X₀ : K.In h₀) (T : Top p loose mean mg mb h₀) (hA : A.frames = some (env :: outer)) (hf : env.frame = some L) (hke : env.scope.kind = .function)
    (ho : K.lookup f = some ⟨oc, od, .func (fnOf name qual params body scope dV kV doc pm an cdv ct), osl⟩) (hcd : codeIn K cdv qual = true) (hroom : A.depth < recursionLimit)
    (hvs : vs.length ≤ sizeLine) (hn : (kw.map (·.1)).Nodup) (hk2 : kw.length ≤ 2)
    (hp : params = ⟨[pa], [], some va, [], [], some ka, []⟩) (hdV : dV = .none)
    (hloc : ∀ C D, ∀ y ∈ [(pa.arg, v), (va.arg, Value.ref C), (ka.arg, .ref D)], scope.names.lookup y.1 = some .local)
    (h : ∀ L' h₁ C D o, C < D → (D == sysModules) = false → o.IsDictOf (strKind prog w) kw → Fr s.heap L' h₁ (fun y => ([(pa.arg, v), (va.arg, Value.ref C), (ka.arg, .ref D)] : List (Str × Value)).reverse.lookup y) → News s.heap L' h₁ [(D, o), (C, tupO vs 0)] →
      Below A base (env :: outer) s.heap → K.In s.heap → Top p loose mean mg mb s.heap →
      wpAny (model prog w) (A.deeper (envOf qual scope L' f cdv)) (execs body (envOf qual scope L' f cdv))
        (fun fl s' => R (.ok (.ret (match fl with | .ret v => v | _ => .none))) s')
        (fun _ _ => False)
        { s with heap := h₁, toks := s.toks + kw.length + 3 })
    (hco : scope.isCoroutine = false) (hgen : scope.isGenerator = false) (hk : scope.kind = .function)
    (hcell : ∀ x ∈ scope.names, x.2 ≠ .cell) : codeAny (model prog w) A (.call (.ref f) ⟨v :: vs, kw⟩) R s :=
  enterS (front := [(pa.arg, v)]) B F X₀ T hA hf hke ho hcd hroom hvs hn (fun M Q E h => bind_star1 (fd := fnOf name qual params body scope dV kV doc pm an cdv ct) hp hdV hk2 h) hloc h hco hgen hk hcell
end
end Mine
end

-- part E3
section
open PySem PySem.W PyProof.Rows
set_option Elab.async false
set_option maxRecDepth 100000
set_option linter.unusedVariables false
namespace Mine
open PySem.Calls
section
variable {prog : Program} {w : World} {A : Around} {E : Value → Shared → Prop} {s : Shared} {h₀ : Heap} {L a : Addr} {m : Str → Option Value} {news : List (Addr × Obj)} {x : Value} {n : Nat}
theorem list_sort_one {P : PySem.Fin → Shared → Prop} (F : Fr h₀ L s.heap m) (N : News h₀ L s.heap ((a, listOf #[x] n) :: news)) (hna : ∀ p ∈ news, p.1 ≠ a)
    (h : ∀ c h', Fr h₀ L h' m → News h₀ L h' ((a, listOf #[x] c) :: news) → P (.done (.ret .none)) { s with heap := h' }) :
    wpAny (model prog w) A (Builtin.«list.sort» ⟨[.ref a], []⟩) P E s := by
  obtain ⟨ho, haL, ha0⟩ := N _ (.head _)
  replace ho : s.heap.get? a = some (seqObj "list" #[x] n) := ho
  have N0 : News h₀ L s.heap news := fun p hp => N p (.tail _ hp)
  have s1 := Heap.SameBut.update s.heap a (Obj.mapSeq fun _ => (#[] : Array Value))
  obtain ⟨e1, ho1⟩ : ∃ e1, (s.heap.update a (Obj.mapSeq fun _ => (#[] : Array Value))).get? a = some (seqObj "list" #[] e1) := ⟨_, get?_update_seq ho fun _ => #[]⟩
  have F3 : Fr h₀ L (((s.heap.update a (Obj.mapSeq fun _ => (#[] : Array Value))).push (seqObj "tuple" #[x] 0)).push (seqObj "list" #[] 0)) m := ((kas_fr F s1 haL ha0).push _).push _
  have N2 : News h₀ L (((s.heap.update a (Obj.mapSeq fun _ => (#[] : Array Value))).push (seqObj "tuple" #[x] 0)).push (seqObj "list" #[] 0)) news :=
    (kas_news N0 s1 hna).grown fun b x e => Heap.get?_push_of_some _ (Heap.get?_push_of_some _ e)
  have ho3 : (((s.heap.update a (Obj.mapSeq fun _ => (#[] : Array Value))).push (seqObj "tuple" #[x] 0)).push (seqObj "list" #[] 0)).get? a = some (seqObj "list" #[] e1) :=
    Heap.get?_push_of_some _ (Heap.get?_push_of_some _ ho1)
  rw [list_sort_plain]
  refine wpAny_bind (listItems_at ho rfl ?_)
  refine wpAny_bind (listUpdate_at ho rfl ?_ (by show 1 ≤ _; rw [sizeLine_eq]; omega) (Nat.zero_le _))
  refine wpAny_bind (seqEpoch_at ho1 rfl ?_)
  refine wpAny_bind (wpAny_newTuple ?_ (by show 1 ≤ _; rw [sizeLine_eq]; omega))
  refine wpAny_bind (wpAny_newList ?_ (Nat.zero_le _))
  refine wpAny_holding ?_
  show wpAny (model prog w) A _ P E { s with heap := ((s.heap.update a (Obj.mapSeq fun _ => (#[] : Array Value))).push (seqObj "tuple" #[x] 0)).push (seqObj "list" #[] 0) }
  dsimp only
  have hn2 : (#[x] : Array Value).size < 2 := by show 1 < 2; omega
  rw [if_pos hn2, if_pos hn2]
  refine wpAny_bind (wpAny_pure ?_)
  refine wpAny_bind (m := (pure () : StateT SortSt Sem Unit).run _) (wpAny_pure ?_)
  dsimp only
  have hz : (arrOf (SortSt.mk' general' (#[x].zip #[x]) #[] 7 none)).map (fun y => y.2) = #[x] := by
    show (#[x].zip #[x]).map (fun y => y.2) = #[x]
    simp
  rw [hz]
  have s2 := Heap.SameBut.update (((s.heap.update a (Obj.mapSeq fun _ => (#[] : Array Value))).push (seqObj "tuple" #[x] 0)).push (seqObj "list" #[] 0)) a (Obj.mapSeq fun _ => (#[x] : Array Value))
  obtain ⟨c2, hc2⟩ : ∃ c2, ((((s.heap.update a (Obj.mapSeq fun _ => (#[] : Array Value))).push (seqObj "tuple" #[x] 0)).push (seqObj "list" #[] 0)).update a (Obj.mapSeq fun _ => (#[x] : Array Value))).get? a = some (seqObj "list" #[x] c2) := ⟨_, get?_update_seq ho3 fun _ => (#[x] : Array Value)⟩
  refine wpAny_bind (seqEpoch_at ho3 rfl ?_)
  refine wpAny_bind (listUpdate_at ho3 rfl ?_ (Nat.zero_le _) (by show 1 ≤ _; rw [sizeLine_eq]; omega))
  simp only [bne_self_eq_false, Bool.false_eq_true, if_false]
  show wpAny (model prog w) A (pure (.done (.ret .none))) P E _
  refine wpAny_pure (h c2 _ (kas_fr F3 s2 haL ha0) fun p hp => ?_)
  rcases List.mem_cons.mp hp with rfl | hp
  · exact ⟨hc2, haL, ha0⟩
  · exact (kas_news N2 s2 hna) p hp
theorem sort_one {Q : Value → Shared → Prop} (F : Fr h₀ L s.heap m) (N : News h₀ L s.heap ((a, listOf #[x] n) :: news)) (hna : ∀ p ∈ news, p.1 ≠ a)
    (h : ∀ c h', Fr h₀ L h' m → News h₀ L h' ((a, listOf #[x] c) :: news) → Q .none { s with heap := h' }) :
    wpAny (model prog w) A (call (.builtin "list.sort") [.ref a]) Q E s := by
  have ho := (N _ (.head _)).1
  exact wpAny_call_entry slot_list_sort ⟨_, ho, rfl⟩ entry_list_sort (list_sort_one F N hna fun c h' F' N' => ⟨_, rfl, h c h' F' N'⟩) (args_list_sort _)
end
end Mine
end

-- part E4
section
open PySem PySem.W PyProof.Rows
set_option Elab.async false
set_option maxRecDepth 100000
set_option linter.unusedVariables false
namespace Mine
open PySem.Calls
open Sem (wp)
open AutoSeq1 (wpAny_loadPart')

theorem slot_map_next : Slot "map" "__next__" "map.__next__" :=
  .of (owner := "map") (n := "__next__") (by rw [typeLookup_type, builtinLookup_eq_fast]; kernel_rfl) (by decide +kernel) (by decide +kernel) (by decide +kernel)
    (by first | exact .inl (by decide +kernel) | exact .inr (by decide +kernel)) (by rw [isSubtype_type]; kernel_rfl)
theorem slot_map_iter : Slot "map" "__iter__" "map.__iter__" :=
  .of (owner := "map") (n := "__iter__") (by rw [typeLookup_type, builtinLookup_eq_fast]; kernel_rfl) (by decide +kernel) (by decide +kernel) (by decide +kernel)
    (by first | exact .inl (by decide +kernel) | exact .inr (by decide +kernel)) (by rw [isSubtype_type]; kernel_rfl)
theorem slot_map_init : Slot "map" "__init__" "object.__init__" :=
  .of (owner := "object") (n := "__init__") (by rw [typeLookup_type, builtinLookup_eq_fast]; kernel_rfl) (by decide +kernel) (by decide +kernel) (by decide +kernel)
    (by first | exact .inl (by decide +kernel) | exact .inr (by decide +kernel)) (by rw [isSubtype_type]; kernel_rfl)
theorem entry_map_next : entryFor table "map.__next__" = some Builtin.«map.__next__» := entryFor_of_tree (by kernel_rfl)
theorem owner_map : Manifest.owners.lookup (String.ofList ['p', 'a', 'm'].reverse) = some Manifest.sig_map := by kernel_rfl
theorem args_map_next (a : Value) : argsOk "map.__next__" ⟨[a], []⟩ := by
  unfold argsOk; rw [signature?_of (id := "map.__next__") (n := ['_', '_', 't', 'x', 'e', 'n', '_', '_']) (o := ['p', 'a', 'm']) (by kernel_rfl) owner_map]; kernel_rfl
theorem args_map_iter (a : Value) : argsOk "map.__iter__" ⟨[a], []⟩ := by
  unfold argsOk; rw [signature?_of (id := "map.__iter__") (n := ['_', '_', 'r', 'e', 't', 'i', '_', '_']) (o := ['p', 'a', 'm']) (by kernel_rfl) owner_map]; kernel_rfl
theorem entry_map_iter : entryFor table "map.__iter__" = some Builtin.«dict_keyiterator.__iter__» :=
  entryFor_alias (id' := "dict_keyiterator.__iter__") (by kernel_rfl) (by first | rfl | decide +kernel | (unfold String.splitOn; simp +decide [String.splitOnAux])) (by decide +kernel) (by kernel_rfl)
theorem mro_map : mroOf (.type "map") = pure [.type "map", .type "object"] := by rw [mroOf_type]; kernel_rfl
theorem lookup_map_new : typeLookup (.type "map") "__new__" = pure (some (.builtin "map.__new__")) := by rw [typeLookup_type, builtinLookup_eq_fast]; kernel_rfl
theorem called_map : TypeCalled "map" "map.__new__" "object.__init__" :=
  ⟨by decide +kernel, by decide +kernel, ⟨_, _, mro_map⟩, madeBy_type mro_map lookup_map_new (by decide +kernel), by decide +kernel, by rw [isSubtype_type]; kernel_rfl, slot_map_init⟩
theorem typeCall_map (a b : Value) : checkTypeCall "map" ⟨[a, b], []⟩ = pure () := by kernel_rfl
theorem newCall_map (a b : Value) : checkBuiltinCall "map.__new__" ⟨[.type "map", a, b], []⟩ = pure () := by kernel_rfl
theorem entry_map_new : entryFor table "map.__new__" = some Builtin.«map.__new__» := entryFor_of_tree (by kernel_rfl)
theorem sub_map : isSubtype (.type "map") (.type "map") = pure true := by rw [isSubtype_type]; kernel_rfl
theorem map_no_len : typeLookup (.type "map") "__len__" = pure none := by rw [typeLookup_type, builtinLookup_eq_fast]; kernel_rfl
theorem map_no_hint : typeLookup (.type "map") "__length_hint__" = pure none := by rw [typeLookup_type, builtinLookup_eq_fast]; kernel_rfl

abbrev IsMap (h : Heap) (M TI : Addr) : Prop := h.get? M = some { cls := .type "map", dict := none, data := .fields #[.ref TI, .type "type"], slots := #[] }
abbrev IsOne (h : Heap) (T I : Addr) : Prop := h.get? T = some { cls := .type "tuple", data := .seq #[.ref I] }

section
variable {prog : Program} {w : World} {A : Around} {E : Value → Shared → Prop} {s : Shared}

theorem nextOf_tuple_item {it t : Addr} {i : Nat} {items} {x : Value} {Q : Value → Shared → Prop} (hit : s.heap.IsTupleIter it t i)
    (ht : s.heap.IsTuple t items) (hx : items[i]? = some x)
    (hQ : ∀ h', h'.IsTupleIter it t (i + 1) → Heap.SameBut it s.heap h' → Q x { s with heap := h' }) :
    wpAny (model prog w) A (Builtin.SmallTypes.nextOf (.ref it)) Q E s := by
  obtain ⟨o, ho, hc, hd⟩ := id hit
  obtain ⟨ol, hol, _, nl, hdl⟩ := ht
  unfold Builtin.SmallTypes.nextOf
  refine wpAny_bind (wpAny_callSpecial?_slot (name := Str.ofString "__next__") hit.typeIs F.slot_tuple_iterator_next
    (wpAny_call_entry F.slot_tuple_iterator_next hit.typeIs F.entry_tuple_iterator_next ?_ (F.args_tuple_iterator_next_1 _)))
  show wpAny _ _ (field (.ref it) 0 >>= _) _ _ s
  refine wpAny_bind (wpAny_field ho hd (x := .ref t) rfl ?_)
  show wpAny _ _ (if (Value.ref t == Value.none) = true then _ else _) _ _ s
  rw [if_neg (show ¬ ((Value.ref t == Value.none) = true) from Bool.false_ne_true)]
  show wpAny _ _ (field (.ref it) 1 >>= _) _ _ s
  refine wpAny_bind (wpAny_field ho hd (x := .int i 0) rfl ?_)
  show wpAny _ _ (seqItems? (.ref t) >>= _) _ _ s
  refine wpAny_bind (wpAny_seqItems hol hdl ?_)
  simp only [Int.toNat_natCast, hx]
  refine wpAny_bind (wpAny_setField ho hd (by simp) (wpAny_pure ⟨x, rfl, wpAny_pure (hQ _ ?_ (Heap.SameBut.update ..))⟩))
  exact ⟨_, Heap.get?_update_self _ ho (Obj.isFreed_of_fields (Obj.data_mapFields hd _)), (Obj.cls_mapFields ..).trans hc, by
    rw [Obj.data_mapFields hd]; simp [rawInt]⟩

theorem nextOf_tuple_end {it t : Addr} {i : Nat} {items} {Q : Value → Shared → Prop} (hh : A.handled = none)
    (hit : s.heap.IsTupleIter it t i) (ht : s.heap.IsTuple t items) (hx : items[i]? = none)
    (hE : ∀ h' e, Heap.ExtBut it s.heap h' → (∃ o, h'.get? e = some o ∧ o.cls = .type "StopIteration") → E (.ref e) { s with heap := h' }) :
    wpAny (model prog w) A (Builtin.SmallTypes.nextOf (.ref it)) Q E s := by
  obtain ⟨o, ho, hc, hd⟩ := id hit
  obtain ⟨ol, hol, _, nl, hdl⟩ := ht
  unfold Builtin.SmallTypes.nextOf
  refine wpAny_bind (wpAny_callSpecial?_slot (name := Str.ofString "__next__") hit.typeIs F.slot_tuple_iterator_next
    (wpAny_call_entry F.slot_tuple_iterator_next hit.typeIs F.entry_tuple_iterator_next ?_ (F.args_tuple_iterator_next_1 _)))
  show wpAny _ _ (field (.ref it) 0 >>= _) _ _ s
  refine wpAny_bind (wpAny_field ho hd (x := .ref t) rfl ?_)
  show wpAny _ _ (if (Value.ref t == Value.none) = true then _ else _) _ _ s
  rw [if_neg (show ¬ ((Value.ref t == Value.none) = true) from Bool.false_ne_true)]
  show wpAny _ _ (field (.ref it) 1 >>= _) _ _ s
  refine wpAny_bind (wpAny_field ho hd (x := .int i 0) rfl ?_)
  show wpAny _ _ (seqItems? (.ref t) >>= _) _ _ s
  refine wpAny_bind (wpAny_seqItems hol hdl ?_)
  simp only [Int.toNat_natCast, hx]
  refine wpAny_bind (wpAny_rule (wpAny_bind (wpAny_setField ho hd (by simp) ?_)))
  show wpAny _ _ (newExc (.type "StopIteration") [] >>= _) _ _ _
  refine wpAny_bind ?_
  simp only [newExc, newTuple]
  refine wpAny_bind (wpAny_newObj_type ?_ (by size_fits))
  refine wpAny_bind (m := firstArgMember _ _) (wpAny_of_eq (a := Value.none) (by first | rfl | (simp only [firstArgMember]; rfl)) ?_)
  refine wpAny_newObj_type ?_ (by size_fits)
  simp only [raiseNew]
  refine wpAny_bind (wpAny_handled ?_)
  first | rw [show A.in1.handled = none from hh] | rw [hh]
  refine wpAny_bind (wpAny_pure (wpAny_throw ?_))
  exact hE _ _ (((Heap.SameBut.update ..).extBut.push _).push _) ⟨_, Heap.get?_push_size _ rfl, rfl⟩

theorem map_next_item {M TI I t : Addr} {i : Nat} {vs : Array Value} {x : Value} {Tx : String} {Q : Value → Shared → Prop}
    (hM : IsMap s.heap M TI) (hTI : IsOne s.heap TI I) (hI : s.heap.IsTupleIter I t i) (ht : s.heap.IsTuple t vs) (hx : vs[i]? = some x) (hMI : M ≠ I) (hTII : TI ≠ I)
    (hT : ∀ h', Heap.SameBut I s.heap h' → (Shared.mk h' s.gens s.drawn s.toks s.os).TypeIs x Tx) (hnb : (Value.type Tx == Value.type "builtin_function_or_method") = false)
    (hQ : ∀ h', h'.IsTupleIter I t (i + 1) → Heap.SameBut I s.heap h' → Q (.type Tx) { s with heap := h' }) :
    wpAny (model prog w) A (Builtin.«map.__next__» ⟨[.ref M], []⟩) (fun fin s' => ∃ v, fin = .done (.ret v) ∧ Q v s') E s := by
  show wpAny _ _ (field (.ref M) 0 >>= _) _ _ _
  refine wpAny_bind (wpAny_field hM rfl (x := .ref TI) rfl ?_)
  refine wpAny_bind (wpAny_seqItems hTI rfl ?_)
  dsimp only
  rw [← Array.forIn_toList]
  simp only [List.forIn_cons, List.forIn_nil]
  refine wpAny_bind (wpAny_bind (wpAny_bind (wpAny_holding (nextOf_tuple_item hI ht hx fun h₁ hI₁ hs₁ => wpAny_pure (wpAny_pure ?_)))))
  have hM₁ : IsMap h₁ M TI := (hs₁.2 M hMI).trans hM
  refine wpAny_bind (wpAny_field hM₁ rfl (x := .type "type") rfl ?_)
  refine wpAny_bind (wpAny_holding (call_type_of (hT h₁ hs₁) hnb ?_))
  refine wpAny_bind (wpAny_letGo ?_)
  exact wpAny_pure ⟨_, rfl, hQ h₁ hI₁ hs₁⟩
theorem map_next_end {M TI I t : Addr} {i : Nat} {vs : Array Value} {Q : Fin → Shared → Prop} (hh : A.handled = none)
    (hM : IsMap s.heap M TI) (hTI : IsOne s.heap TI I) (hI : s.heap.IsTupleIter I t i) (ht : s.heap.IsTuple t vs) (hx : vs[i]? = none)
    (hE : ∀ h' e, Heap.ExtBut I s.heap h' → (∃ o, h'.get? e = some o ∧ o.cls = .type "StopIteration") → E (.ref e) { s with heap := h' }) :
    wpAny (model prog w) A (Builtin.«map.__next__» ⟨[.ref M], []⟩) Q E s := by
  show wpAny _ _ (field (.ref M) 0 >>= _) _ _ _
  refine wpAny_bind (wpAny_field hM rfl (x := .ref TI) rfl ?_)
  refine wpAny_bind (wpAny_seqItems hTI rfl ?_)
  dsimp only
  rw [← Array.forIn_toList]
  simp only [List.forIn_cons, List.forIn_nil]
  exact wpAny_bind (wpAny_bind (wpAny_bind (wpAny_holding (nextOf_tuple_end hh hI ht hx hE))))

theorem pyNext_map_item {M TI I t : Addr} {i : Nat} {vs : Array Value} {x : Value} {Tx : String} {Q : Option Value → Shared → Prop}
    (hM : IsMap s.heap M TI) (hTI : IsOne s.heap TI I) (hI : s.heap.IsTupleIter I t i) (ht : s.heap.IsTuple t vs) (hx : vs[i]? = some x) (hMI : M ≠ I) (hTII : TI ≠ I)
    (hT : ∀ h', Heap.SameBut I s.heap h' → (Shared.mk h' s.gens s.drawn s.toks s.os).TypeIs x Tx) (hnb : (Value.type Tx == Value.type "builtin_function_or_method") = false)
    (hQ : ∀ h', h'.IsTupleIter I t (i + 1) → Heap.SameBut I s.heap h' → Q (some (.type Tx)) { s with heap := h' }) :
    wpAny (model prog w) A (pyNext (.ref M)) Q E s := by
  have hTM : s.TypeIs (.ref M) "map" := ⟨_, hM, rfl⟩
  unfold pyNext
  exact wpAny_bind (wpAny_attempt (wpAny_callSpecial?_slot (name := Str.ofString "__next__") hTM slot_map_next
    (wpAny_call_entry slot_map_next hTM entry_map_next
      (map_next_item hM hTI hI ht hx hMI hTII hT hnb fun h' a1 a2 => wpAny_pure (hQ h' a1 a2)) (args_map_next _))))
theorem pyNext_map_end {M TI I t : Addr} {i : Nat} {vs : Array Value} {Q : Option Value → Shared → Prop} (hh : A.handled = none)
    (hM : IsMap s.heap M TI) (hTI : IsOne s.heap TI I) (hI : s.heap.IsTupleIter I t i) (ht : s.heap.IsTuple t vs) (hx : vs[i]? = none)
    (hQ : ∀ h', Heap.ExtBut I s.heap h' → Q none { s with heap := h' }) : wpAny (model prog w) A (pyNext (.ref M)) Q E s := by
  have hTM : s.TypeIs (.ref M) "map" := ⟨_, hM, rfl⟩
  unfold pyNext
  refine wpAny_bind (wpAny_attempt (wpAny_callSpecial?_slot (name := Str.ofString "__next__") hTM slot_map_next
    (wpAny_call_entry slot_map_next hTM entry_map_next (map_next_end hh hM hTI hI ht hx fun h' e hk he => ?_) (args_map_next _))))
  obtain ⟨o, ho, hc⟩ := he
  refine wpAny_bind (wpAny_isInstance (T := "StopIteration") (b := true) ⟨o, ho, hc⟩ isSubtype_stop ?_)
  exact wpAny_pure (hQ _ hk)
theorem pyIter_map {M TI : Addr} {Q : Value → Shared → Prop} (hM : IsMap s.heap M TI) (h : Q (.ref M) s) : wpAny (model prog w) A (pyIter (.ref M)) Q E s := by
  have hT : s.TypeIs (.ref M) "map" := ⟨_, hM, rfl⟩
  refine wpAny_pyIter_slot hT slot_map_iter (wpAny_call_entry slot_map_iter hT entry_map_iter ?_ (args_map_iter _))
  show wpAny _ _ (ret (.ref M)) _ _ s
  exact wpAny_pure ⟨_, rfl, "map", _, hT, slot_map_next.lookup, h⟩
end

theorem meets_map_new (t : Addr) (items : Array Value) (n : Nat) :
    Meets (Builtin.«map.__new__» ⟨[.type "map", .type "type", .ref t], []⟩) (fun _ R s => s.heap.get? t = some { cls := .type "tuple", dict := none, data := .seq items n, slots := #[] } ∧
      R (.ok (.ret (.ref (s.heap.objs.size + 2))))
        { s with heap := ((s.heap.push { cls := .type "tuple_iterator", data := .fields #[.ref t, .int 0 0] }).push { cls := .type "tuple", data := .seq #[.ref s.heap.objs.size] }).push { cls := .type "map", data := .fields #[.ref (s.heap.objs.size + 1), .type "type"] } }) :=
  .of_wp fun prog w A R s h => by
    obtain ⟨hp, g, d, tk, os⟩ := s; obtain ⟨hl, h⟩ := h
    have hsub := sub_map
    have hL : Heap.IsTuple (Shared.heap ⟨hp, g, d, tk, os⟩) t items := ⟨_, hl, rfl, n, rfl⟩
    wp_walk using wpAny_loadPart' hl, wpAny_pyIter_tuple hL
    refine ⟨_, rfl, ?_⟩
    simpa [Heap.size_push] using h
end Mine
end

-- part E5
section
open PySem PySem.W PyProof.Rows
set_option Elab.async false
set_option maxRecDepth 100000
set_option linter.unusedVariables false
namespace Mine
open PySem.Calls
open Sem (wp)

inductive Things (kn : List (Addr × Obj)) (n : Nat) : List Value → List PyData → Prop
  | nil : Things kn n [] []
  | cons {v : Value} {d : PyData} {vs : List Value} {ds : List PyData} : TIn kn n v d → Things kn n vs ds → Things kn n (v :: vs) (d :: ds)
theorem Things.length {kn : List (Addr × Obj)} {n : Nat} {vs : List Value} {ds : List PyData} (h : Things kn n vs ds) : vs.length = ds.length := by
  induction h with
  | nil => rfl
  | cons _ _ ih => simp [ih]
theorem Things.get {kn : List (Addr × Obj)} {n : Nat} {vs : List Value} {ds : List PyData} (h : Things kn n vs ds) : ∀ {i : Nat} {v : Value}, vs[i]? = some v → ∃ d, ds[i]? = some d ∧ TIn kn n v d := by
  induction h with
  | nil => intro i v e; simp at e
  | cons hd _ ih =>
    intro i v e
    cases i with
    | zero => simp at e; subst e; exact ⟨_, rfl, hd⟩
    | succ i => simp at e; obtain ⟨d, h1, h2⟩ := ih e; exact ⟨d, by simpa using h1, h2⟩
theorem Things.mono {kn kn' : List (Addr × Obj)} (hs : ∀ p ∈ kn, p ∈ kn') {n : Nat} {vs : List Value} {ds : List PyData} (h : Things kn n vs ds) : Things kn' n vs ds := by
  induction h with
  | nil => exact .nil
  | cons hd _ ih => exact .cons (hd.mono hs) ih
theorem Things.up {kn : List (Addr × Obj)} {n k : Nat} (hk : n ≤ k) {vs : List Value} {ds : List PyData} (h : Things kn n vs ds) : Things kn k vs ds := by
  induction h with
  | nil => exact .nil
  | cons hd _ ih => exact .cons (hd.up hk) ih
theorem Things.append {kn : List (Addr × Obj)} {n : Nat} {vs us : List Value} {ds es : List PyData} (h : Things kn n vs ds) (k : Things kn n us es) : Things kn n (vs ++ us) (ds ++ es) := by
  induction h with
  | nil => exact k
  | cons hd _ ih => exact .cons hd ih

def tyD : PyData → String
  | .bool _ => "bool"
  | .int _ => "int"
  | .str _ => "str"
  | _ => "tuple"
theorem tyD_nb (d : PyData) : (Value.type (tyD d) == Value.type "builtin_function_or_method") = false := by cases d <;> (simp only [tyD]; decide)
theorem TIn.typeIs {kn : List (Addr × Obj)} {s : Shared} (k : KnOk kn s.heap) {n : Nat} {v : Value} {d : PyData} (x : TIn kn n v d) : s.TypeIs v (tyD d) := by
  cases x with
  | bool b => exact rfl
  | int i t => exact typeIs_int s i t
  | str y t _ => exact typeIs_str s y t
  | pair hm _ _ => exact ⟨_, k _ hm, rfl⟩

section
variable {prog : Program} {w : World} {A : Around} {E : Value → Shared → Prop} {s : Shared} {I : Addr} {fp wr : List Addr} {G : Array GenState → Array GenState → Prop} {n : Nat} {P : Nat → Value → Prop} {St : Nat → Shared → Prop}

theorem collect_map {Q : List Value → Shared → Prop} (W : WalksS prog w A.in1 I fp wr G n P St) (hT : ∀ i s, St i s → s.TypeIs (.ref I) "map") (hst : St 0 s) (hfp : ∀ b ∈ fp, b < s.heap.objs.size) (hI : I ∈ fp)
    (hQ : ∀ s' acc, Moved wr G s s' → ItemsOf P acc n → Q acc.toList s') (hn : n ≤ sizeLine) : wpAny (model prog w) A (collect (.ref I)) Q E s := by
  have hSf : s.heap.objs.size ∉ fp := fun hm => Nat.lt_irrefl _ (hfp _ hm)
  have hSI : s.heap.objs.size ≠ I := fun e => hSf (e ▸ hI)
  unfold collect
  refine wpAny_bind (wpAny_runValue (codeAny_builtin F.entry_proto_collect ?_))
  rw [Around.under_plainId F.plain_proto_collect _]
  show wpAny _ A.in1 (newList [] >>= fun l => again (.builtin "list.__iadd__" ⟨[l, .ref I], []⟩)) _ _ s
  refine wpAny_bind (wpAny_newObj_type ?_)
  refine wpAny_pure ⟨plainId_quiet F.plain_list_iadd _, codeAny_builtin F.entry_list_iadd ?_⟩
  rw [Around.under_plainId F.plain_list_iadd _]
  have hst₁ := W.frame 0 s (s.heap.push { cls := .type "list", data := .seq ([] : List Value).toArray }) s.toks hst (Nat.le_refl _) fun b _ o e => Heap.get?_push_of_some _ e
  show wpAny _ A.in1 (Builtin.List.listExtendWith (.ref s.heap.objs.size) (.ref I) (.ref s.heap.objs.size)) _ _ _
  unfold Builtin.List.listExtendWith
  refine wpAny_bind (wpAny_typeOf (hT 0 _ hst₁) ?_)
  have h1 : Builtin.List.listSameRef (.ref s.heap.objs.size) (.ref I) = false := by simp [Builtin.List.listSameRef, hSI]
  have h2 : (Value.type "map" == Value.type "list") = false := by decide
  have h3 : (Value.type "map" == Value.type "tuple") = false := by decide
  simp only [h1, h2, h3, Bool.or_false, Bool.false_eq_true, if_false]
  refine wpAny_bind (W.self 0 _ _ _ hst₁ ?_)
  refine wpAny_bind (wpAny_holding ?_)
  unfold Builtin.List.listLengthHint
  refine wpAny_bind (wpAny_specialOf (hT 0 _ hst₁) map_no_len ?_)
  show wpAny _ A.in1 (specialOf (Value.ref I) (Str.ofString "__length_hint__") >>= _) _ _ _
  refine wpAny_bind (wpAny_specialOf (hT 0 _ hst₁) map_no_hint ?_)
  refine wpAny_pure ?_
  show wpAny _ A.in1 (rule "list.extend.makes-room" >>= fun _ => Builtin.List.listTouch (.ref s.heap.objs.size) >>= fun _ =>
    again (.builtin "list.extend.loop" ⟨[.ref s.heap.objs.size, .ref I, .ref s.heap.objs.size], []⟩)) _ _ _
  refine wpAny_bind (wpAny_rule ?_)
  have hS₁ : (s.heap.push { cls := .type "list", data := .seq ([] : List Value).toArray }).get? s.heap.objs.size = some { cls := .type "list", data := .seq ([] : List Value).toArray } := Heap.get?_push_size _ rfl
  refine wpAny_bind ?_
  show wpAny _ A.in1 (updateSeq s.heap.objs.size (·.push .none) >>= fun _ => updateSeq s.heap.objs.size (·.pop)) _ _ _
  refine wpAny_bind (wpAny_updateSeq hS₁ rfl ?_)
  have hS₂ := Heap.get?_update_self (Obj.mapSeq (·.push Value.none)) hS₁ rfl
  refine wpAny_updateSeq hS₂ rfl ?_
  have hS₃ := Heap.get?_update_self (Obj.mapSeq (·.pop)) hS₂ rfl
  have oth : ∀ b o, b ≠ s.heap.objs.size → (s.heap.push { cls := .type "list", data := .seq ([] : List Value).toArray }).get? b = some o →
      (((s.heap.push { cls := .type "list", data := .seq ([] : List Value).toArray }).update s.heap.objs.size (Obj.mapSeq (·.push Value.none))).update s.heap.objs.size (Obj.mapSeq (·.pop))).get? b = some o :=
    fun b o hb e => (Heap.get?_update_other _ _ (Ne.symm hb)).trans ((Heap.get?_update_other _ _ (Ne.symm hb)).trans e)
  refine wpAny_pure ⟨plainId_quiet F.plain_extend_loop _, codeAny_extend_loopS W hn _ hSf _ n 0 _ _ _ rfl (Nat.zero_le _)
    (W.frame 0 ({ s with heap := s.heap.push { cls := .type "list", data := .seq ([] : List Value).toArray } } : Shared) _ s.toks hst₁ (Nat.le_refl _) fun b hb o e => oth b o (fun h => hSf (h ▸ hb)) e) hS₃ (ItemsOf.nil P) fun s' acc' c' hm hS' hacc => ?_⟩
  show wpAny _ A (load s.heap.objs.size >>= _) _ _ s'
  refine wpAny_bind (wpAny_load hS' ?_)
  refine wpAny_pure (hQ s' acc' (Moved.drop_new (o := { cls := .type "list", data := .seq ([] : List Value).toArray }) (tk := s.toks) (Moved.trans W.gtrans ((Moved.refl W.grefl).then_heap (by first | exact Nat.le_refl _ | exact Nat.le_succ _ | omega) fun b o hb e => ?_) hm) (Nat.le_refl _)) hacc)
  exact oth b o (fun h => hb (h ▸ List.mem_cons_self)) e

theorem tuple_new_map {Q₁ : Value → Shared → Prop} (W : WalksS prog w A.in1.in1 I fp wr G n P St) (hT : ∀ i s, St i s → s.TypeIs (.ref I) "map") (hst : St 0 s) (hfp : ∀ b ∈ fp, b < s.heap.objs.size) (hI : I ∈ fp)
    (h : ∀ s' acc, Moved wr G s s' → ItemsOf P acc n → Q₁ (.ref s'.heap.objs.size) { s' with heap := s'.heap.push { cls := .type "tuple", data := .seq acc } }) (hsz : n ≤ sizeLine) :
    codeAny (model prog w) A (.call (.builtin "tuple.__new__") ⟨[.type "tuple", .ref I], []⟩) (wants Q₁ E) s := by
  refine codeAny_of_tree ?_
  show wpAny _ A.in1 (do checkBuiltinCall "tuple.__new__" ⟨[.type "tuple", .ref I], []⟩; again (.builtin "tuple.__new__" ⟨[.type "tuple", .ref I], []⟩)) _ _ s
  refine wpAny_bind (wpAny_of_eq (F.newCall_tuple_1 _) (wpAny_pure ⟨plainId_quiet F.plain_tuple_new _, codeAny_builtin F.entry_tuple_new ?_⟩))
  rw [Around.under_plainId F.plain_tuple_new _]
  have hsub := sub_tuple_self
  have hinit := init_tuple_lookup
  have hmh := madeHere_tuple
  have hTI := hT 0 s hst
  wp_walk using wpAny_typeOf hTI, collect_map (hn := hsz) W hT hst hfp hI
  intro s' acc hm hacc
  show wpAny _ _ (Builtin.Tuple.tupleExact acc.toList.toArray >>= fun v => ret v) _ _ _
  unfold Builtin.Tuple.tupleExact
  refine wpAny_bind (wpAny_newObj_type ?_ (by show acc.toList.toArray.size ≤ sizeLine; simp only [Array.toArray_toList]; rw [hacc.1]; exact hsz))
  refine wpAny_pure ?_
  have e : acc.toList.toArray = acc := by simp
  rw [e]
  exact h s' acc hm hacc
theorem call_tuple_map {Q : Value → Shared → Prop} (W : WalksS prog w A.in1.in1.in1 I fp wr G n P St) (hT : ∀ i s, St i s → s.TypeIs (.ref I) "map") (hst : St 0 s) (hfp : ∀ b ∈ fp, b < s.heap.objs.size) (hI : I ∈ fp)
    (hQ : ∀ s' acc, Moved wr G s s' → ItemsOf P acc n → Q (.ref s'.heap.objs.size) { s' with heap := s'.heap.push { cls := .type "tuple", data := .seq acc } }) (hsz : n ≤ sizeLine) :
    wpAny (model prog w) A (call (.type "tuple") [.ref I]) Q E s := by
  refine callType_codes (Q₁ := fun obj s₁ => s₁.TypeIs obj "tuple" ∧ Q obj s₁) F.called_tuple (F.typeCall_tuple_1 _) F.entry_object_init
    (tuple_new_map (hsz := hsz) W hT hst hfp hI fun s' acc hm hacc => ⟨⟨_, Heap.get?_push_size _ rfl, rfl⟩, hQ s' acc hm hacc⟩) fun obj s₁ h₁ => ?_
  exact ⟨h₁.1, F.args_object_init_2 obj _, object_init_meets F.called_tuple.init.lookup F.called_tuple.made (by decide) prog w A.in1 _ s₁ ⟨h₁.1, rfl, h₁.2⟩⟩
end

section
variable {prog : Program} {w : World} {A : Around} {E : Value → Shared → Prop} {s : Shared} {h₀ : Heap} {L : Addr} {m : Str → Option Value} {news kn : List (Addr × Obj)} {n k : Nat} {t M TI I : Addr} {vs : List Value} {ds : List PyData} {Q : Value → Shared → Prop}

structure MapSt (kn : List (Addr × Obj)) (M TI I t : Addr) (vs : Array Value) (i : Nat) (h : Heap) : Prop where
  m : IsMap h M TI
  o : IsOne h TI I
  it : h.IsTupleIter I t i
  t : h.IsTuple t vs
  kn : KnOk kn h
theorem IsTupleIter_at {h h' : Heap} {a t : Addr} {i : Nat} (x : h.IsTupleIter a t i) (e : ∀ o, h.get? a = some o → h'.get? a = some o) : h'.IsTupleIter a t i := let ⟨o, ho, r⟩ := x; ⟨o, e _ ho, r⟩
theorem IsTuple_at {h h' : Heap} {a : Addr} {vs : Array Value} (x : h.IsTuple a vs) (e : ∀ o, h.get? a = some o → h'.get? a = some o) : h'.IsTuple a vs := let ⟨o, ho, r⟩ := x; ⟨o, e _ ho, r⟩
theorem walks_map (hh : A.handled = none) (hMI : M ≠ I) (hTI : TI ≠ I) (htI : t ≠ I) (hkI : ∀ p ∈ kn, p.1 ≠ I) (hT : Things kn n vs ds) :
    WalksS prog w A M (M :: TI :: I :: t :: kn.map (·.1)) [I] (· = ·) vs.length (fun i v => ∃ d, ds[i]? = some d ∧ v = .type (tyD d)) (fun i s => MapSt kn M TI I t vs.toArray i s.heap) where
  sub := fun b hb => by rw [List.mem_singleton.mp hb]; exact .tail _ (.tail _ (.head _))
  grefl := fun _ => rfl
  gtrans := fun _ _ _ => Eq.trans
  frame := fun i s h' tk x _ k => ⟨k _ (.head _) _ x.m, k _ (.tail _ (.head _)) _ x.o, IsTupleIter_at x.it fun o => k _ (.tail _ (.tail _ (.head _))) o, IsTuple_at x.t fun o => k _ (.tail _ (.tail _ (.tail _ (.head _)))) o,
    fun p hp => k _ (.tail _ (.tail _ (.tail _ (.tail _ (List.mem_map_of_mem hp))))) _ (x.kn p hp)⟩
  item := fun i s Q E hi x hQ => by
    have hx : vs.toArray[i]? = some vs[i] := by simp [hi]
    have hx' : vs[i]? = some vs[i] := by simp [hi]
    obtain ⟨d, hd, hin⟩ := hT.get hx'
    refine pyNext_map_item (Tx := tyD d) x.m x.o x.it x.t hx hMI hTI (fun h' hs => hin.typeIs (s := Shared.mk h' s.gens s.drawn s.toks s.os) fun p hp => (hs.2 _ (hkI p hp)).trans (x.kn p hp)) (tyD_nb d) fun h' it' hs => ?_
    refine hQ _ _ ⟨d, hd, rfl⟩ ⟨(hs.2 _ hMI).trans x.m, (hs.2 _ hTI).trans x.o, it', IsTuple_at x.t fun o e => (hs.2 _ htI).trans e, fun p hp => (hs.2 _ (hkI p hp)).trans (x.kn p hp)⟩
      ⟨fun b o hb e => (hs.2 _ (fun q => hb (q ▸ .head _))).trans e, rfl, rfl, rfl, Nat.le_refl _⟩
  done := fun s Q E x hQ => pyNext_map_end hh x.m x.o x.it x.t (by simp) fun h' hs => hQ _ ⟨fun b o hb e => hs b o (fun q => hb (q ▸ .head _)) e, rfl, rfl, rfl, Nat.le_refl _⟩
  self := fun i s Q E x hQ => pyIter_map x.m hQ

theorem call_map_type {k : Nat} (F : Fr h₀ L s.heap m) (N : News h₀ L s.heap news) (ht : s.heap.get? t = some (tupO vs k))
    (h : ∀ h', Fr h₀ L h' m → News h₀ L h' ((s.heap.objs.size + 2, ({ cls := .type "map", data := .fields #[.ref (s.heap.objs.size + 1), .type "type"] } : Obj)) :: (s.heap.objs.size + 1, tupO [.ref s.heap.objs.size] 0) ::
        (s.heap.objs.size, ({ cls := .type "tuple_iterator", data := .fields #[.ref t, .int 0 0] } : Obj)) :: news) → Q (.ref (s.heap.objs.size + 2)) { s with heap := h' }) :
    wpAny (model prog w) A (call (.type "map") [.type "type", .ref t]) Q E s := by
  refine callType_new called_map (by decide) (typeCall_map _ _) (newCall_map _ _) (fun obj => PySem.F.args_object_init_3 obj _ _) entry_map_new (meets_map_new t vs.toArray k) ⟨ht, ?_⟩
  have z1 : (s.heap.push { cls := .type "tuple_iterator", data := .fields #[.ref t, .int 0 0] }).objs.size = s.heap.objs.size + 1 := Heap.size_push ..
  have z2 : ((s.heap.push { cls := .type "tuple_iterator", data := .fields #[.ref t, .int 0 0] }).push (tupO [.ref s.heap.objs.size] 0)).objs.size = s.heap.objs.size + 2 := by rw [Heap.size_push, z1]
  have N1 := News.push F N ({ cls := .type "tuple_iterator", data := .fields #[.ref t, .int 0 0] } : Obj)
  have N2 := News.push (F.push _) N1 (tupO [.ref s.heap.objs.size] 0)
  have N3 := News.push ((F.push _).push _) N2 ({ cls := .type "map", data := .fields #[.ref (s.heap.objs.size + 1), .type "type"] } : Obj)
  rw [z1, z2] at N3
  refine ⟨⟨_, (N3 _ (.head _)).1, rfl⟩, h _ (((F.push _).push _).push _) N3⟩

theorem tuple_of_map (hh : A.handled = none) (F : Fr h₀ L s.heap m) (N : News h₀ L s.heap ((M, ({ cls := .type "map", data := .fields #[.ref TI, .type "type"] } : Obj)) :: (TI, tupO [.ref I] 0) :: (I, ({ cls := .type "tuple_iterator", data := .fields #[.ref t, .int 0 0] } : Obj)) :: news))
    (hMI : M ≠ I) (hTI : TI ≠ I) (hnI : ∀ p ∈ news, p.1 ≠ I) (htm : (t, tupO vs k) ∈ news) (hkn : KnOk kn h₀) (hT : Things kn n vs ds) (hsz : vs.length ≤ sizeLine)
    (h : ∀ D h' tk, Fr h₀ L h' m → News h₀ L h' ((D, tupO (ds.map fun d => .type (tyD d)) 0) :: news) → (∀ p ∈ news, p.1 < D) → Q (.ref D) { s with heap := h', toks := tk }) :
    wpAny (model prog w) A (call (.type "tuple") [.ref M]) Q E s := by
  have hI0 := (N _ (.tail _ (.tail _ (.head _)))).2
  have hkI : ∀ p ∈ kn, p.1 ≠ I := fun p hp e => by have := hkn p hp; rw [e, hI0.2] at this; cases this
  have hst : MapSt kn M TI I t vs.toArray 0 s.heap := ⟨(N _ (.head _)).1, (N _ (.tail _ (.head _))).1, ⟨_, (N _ (.tail _ (.tail _ (.head _)))).1, rfl, rfl⟩, ⟨_, (N _ (.tail _ (.tail _ (.tail _ htm)))).1, rfl, _, rfl⟩, hkn.keeps F.keep⟩
  refine call_tuple_map (walks_map (A := A.in1.in1.in1) hh hMI hTI (hnI _ htm) hkI hT) (fun i s x => ⟨_, x.m, rfl⟩) hst (fun b hb => ?_) (.head _) (fun s' acc hm hacc => ?_) hsz
  · rcases List.mem_cons.mp hb with rfl | hb
    · exact Heap.lt_size hst.m
    rcases List.mem_cons.mp hb with rfl | hb
    · exact Heap.lt_size hst.o
    rcases List.mem_cons.mp hb with rfl | hb
    · obtain ⟨_, e, _⟩ := hst.it; exact Heap.lt_size e
    rcases List.mem_cons.mp hb with rfl | hb
    · obtain ⟨_, e, _⟩ := hst.t; exact Heap.lt_size e
    · obtain ⟨p, hp, rfl⟩ := List.mem_map.mp hb
      exact Heap.lt_size (hst.kn p hp)
  · have hacc' : acc = (ds.map fun d => Value.type (tyD d)).toArray := by
      apply Array.ext'
      apply List.ext_getElem?
      intro i
      by_cases hi : i < acc.size
      · have e1 : acc.toList[i]? = some acc[i] := by simp [hi]
        obtain ⟨d, hd, hv⟩ := hacc.2 i acc[i] (by simp [hi])
        rw [e1, hv]
        simp [hd]
      · have : ds.length ≤ i := by have := hacc.1; have := hT.length; omega
        simp [hi, this]
    obtain ⟨hp', g', d', tk', os'⟩ := s'
    obtain ⟨c1, c2, c3, c4, c5⟩ := hm
    dsimp only at c1 c2 c3 c4 c5
    subst c2 c3 c4
    have old : ∀ b o, b ≠ I → s.heap.get? b = some o → hp'.get? b = some o := fun b o hb e => c1 b o (fun q => hb (List.mem_singleton.mp q)) e
    have F' : Fr h₀ L hp' m := ⟨F.ns.at' fun o e => old _ o (Ne.symm hI0.1) e, fun b o e => old b o (fun q => by rw [q, hI0.2] at e; cases e) (F.keep b o e), F.above⟩
    have N' : News h₀ L hp' news := fun p hp => by
      have z := N p (.tail _ (.tail _ (.tail _ hp)))
      exact ⟨old _ _ (hnI p hp) z.1, z.2⟩
    rw [hacc']
    exact h _ _ _ (F'.push _) (News.push F' N' _) fun p hp => Heap.lt_size (N' p hp).1
end
end Mine
end

-- part E7
section
open PySem PySem.W PyProof.Rows
set_option Elab.async false
set_option maxRecDepth 100000
set_option linter.unusedVariables false
namespace Mine
open PySem.Calls PyProof.Rows.LCg
open Sem (wp)

section
variable {prog : Program} {w : World} {A : Around} {E : Value → Shared → Prop} {s : Shared}
theorem loop_pairs {elt iter : Expr} {elts : List Expr} {x1} {tp : Pos} {ifs : List Expr} {scope : Scope} {pos : Pos} {it acc : Value} {env : Env} {R : Result → Shared → Prop} (I : Nat → Shared → Prop)
    (turn : ∀ n s, I n s → wpAny (model prog w) A (pyNext it) (fun r s₁ => match r with
      | none => R (.ok .next) s₁
      | some v => wpAny (model prog w) A (letOwnedTupleGo (.Tuple elts x1 tp) it v) (fun _ s₀ => wpAny (model prog w) A (assign (.Tuple elts x1 tp) env v) (fun _ s₂ =>
          wpAny (model prog w) A (forIn ifs true fun c r => if r = true then do let ok ← isTrue c env (eval c env); pure (ForInStep.yield ok) else pure (ForInStep.yield r)) (fun ok s₃ =>
            if ok = true then wpAny (model prog w) A (eval elt env) (fun x s₄ =>
              wpAny (model prog w) A (call (.builtin "list.append") [acc, x]) (fun _ s₅ => ∃ m, m < n ∧ I m s₅) (notedBy (model prog w) A env fun e s' => R (.error e) s') s₄) (notedBy (model prog w) A env fun e s' => R (.error e) s') s₃
            else ∃ m, m < n ∧ I m s₃) (notedBy (model prog w) A env fun e s' => R (.error e) s') s₂)
          (notedBy (model prog w) A env fun e s' => R (.error e) s') s₀) (notedBy (model prog w) A env fun e s' => R (.error e) s') s₁) (notedBy (model prog w) A env fun e s' => R (.error e) s') s)
    (n : Nat) (h : I n s) : codeAny (model prog w) A (.compLoop (.ListComp elt [⟨.Tuple elts x1 tp, iter, ifs, 0⟩] scope pos) 0 it acc env) R s := by
  refine codeAny_loop rfl I (fun n s hI => ?_) n h
  show wpAny _ A ((compTurn (.ListComp elt [⟨.Tuple elts x1 tp, iter, ifs, 0⟩] scope pos) 0 it acc env).onRaise (fun x => do noteFrame x env; theTreesLotGoes x)) _ _ s
  refine wpAny_noted ?_
  rw [compTurn_list]
  refine wpAny_bind (wpAny_standAt (wpAny_bind (wpAny_mono (turn n s hI) (fun r s₁ h₁ => ?_) fun _ _ h' => h')))
  cases r with
  | none => exact wpAny_pure h₁
  | some v =>
    refine wpAny_bind (wpAny_mono h₁ (fun _ s₀ h₀' => ?_) fun _ _ h' => h')
    refine wpAny_bind (wpAny_mono h₀' (fun _ s₂ h₂ => ?_) fun _ _ h' => h')
    refine wpAny_bind (wpAny_mono h₂ (fun ok s₃ h₃ => ?_) fun _ _ h' => h')
    cases ok with
    | false => exact wpAny_pure ⟨rfl, h₃⟩
    | true => exact wpAny_bind (wpAny_bind (wpAny_mono h₃ (fun x s₄ h₄ => wpAny_bind (wpAny_mono h₄ (fun _ s₅ h₅ => wpAny_pure (wpAny_pure ⟨rfl, h₅⟩)) fun _ _ h' => h')) fun _ _ h' => h'))
end

def PEnd (h₀ : Heap) (L : Addr) (m : Str → Option Value) (s₁ : Shared) (I : Addr) (oI : Obj) (C : Addr) (oC : Obj) (D : Addr) (oD : Obj) (cst : List (Addr × Obj)) (J : List (Addr × Obj) → Prop) (s₂ : Shared) : Prop :=
  ∃ h' tk ex', s₂ = { s₁ with heap := h', toks := tk } ∧ Fr h₀ L h' m ∧ News h₀ L h' ((I, oI) :: (C, oC) :: (D, oD) :: (cst ++ ex')) ∧ Off3 I C D ex' ∧ J ex'
theorem PEnd.intro {h₀ : Heap} {L I C D : Addr} {m : Str → Option Value} {s₁ : Shared} {oI oC oD : Obj} {cst : List (Addr × Obj)} {J : List (Addr × Obj) → Prop} {h' : Heap} {tk : Nat} {all : List (Addr × Obj)}
    (F : Fr h₀ L h' m) (N : News h₀ L h' all) (ex' : List (Addr × Obj)) (sub : ∀ p ∈ (I, oI) :: (C, oC) :: (D, oD) :: (cst ++ ex'), p ∈ all) (off : Off3 I C D ex') (r : J ex') :
    PEnd h₀ L m s₁ I oI C oC D oD cst J { s₁ with heap := h', toks := tk } := ⟨h', tk, ex', rfl, F, fun p hp => N p (sub p hp), off, r⟩

section
variable {prog : Program} {w : World} {A : Around} {E : Value → Shared → Prop} {s : Shared} {h₀ : Heap} {L : Addr} {m : Str → Option Value} {env : Env}

theorem block_pairs {elt iter : Expr} {ifs : List Expr} {x x₂ : Str} {px px₂ tp : Pos} {tkk} {scope : Scope} {cl : List (Str × Addr)} {pos : Pos} {s₂ : Shared} {I : Addr} {fp : List Addr} {n : Nat} {Pt : Nat → Array Value → Prop} {St : Nat → Heap → Prop} {Mid : Nat → Addr → Heap → Prop}
    {cst ex : List (Addr × Obj)} {RR : Value → Addr → Result → Shared → Prop} (P : Nat → Value → Value → Prop) (J : Nat → List Value → List (Addr × Obj) → Prop)
    (W : WalksU prog w A I fp [I] n Pt St Mid) (hPt : ∀ i vals, Pt i vals → ∃ a b, vals = #[a, b] ∧ P i a b) (hh : A.handled = none) (hsz : n ≤ sizeLine) (hIo : ∀ i h, St i h → ∃ o, h.get? I = some o)
    (hfp : ∀ b ∈ fp, b = I ∨ (∃ o, h₀.get? b = some o) ∨ ∃ o, (b, o) ∈ cst) (hMl : ∀ i T h, Mid i T h → ∃ o, h.get? I = some o)
    (hcell : ∀ y ∈ scope.names, y.2 ≠ .cell) (hkind : scope.kind = .function) (hx : scope.names.lookup x = some .local) (hx₂ : scope.names.lookup x₂ = some .local) (hxx : x ≠ x₂) (hst : St 0 s₂.heap)
    (F : Fr h₀ L s₂.heap m) (N : News h₀ L s₂.heap (cst ++ ex)) (hIL : L ≠ I) (hI₀ : h₀.get? I = none) (off : ∀ p ∈ cst ++ ex, p.1 ≠ I)
    (hJ : J 0 [] ex)
    (turn : ∀ i ys ex a b oI C oC D m₂ h tk (E' : Value → Shared → Prop), i < n → ys.length ≤ i → P i a b → J i ys ex → NsObj oC m₂ → m₂ x = some a → m₂ x₂ = some b → Fr h₀ L h m → News h₀ L h ((I, oI) :: (C, oC) :: (D, lst ys) :: (cst ++ ex)) → Off3 I C D (cst ++ ex) →
      ((@Ne Nat I C) ∧ (@Ne Nat I D) ∧ (@Ne Nat C D)) →
      wpAny (model prog w) A (forIn ifs true fun c r => if r = true then do let ok ← isTrue c (compEnvC scope cl C env) (eval c (compEnvC scope cl C env)); pure (ForInStep.yield ok) else pure (ForInStep.yield r)) (fun ok s₃ =>
        if ok = true then wpAny (model prog w) A (eval elt (compEnvC scope cl C env)) (fun y s₄ => PEnd h₀ L m { s₂ with heap := h, toks := tk } I oI C oC D (lst ys) cst (J (i + 1) (ys ++ [y])) s₄) E' s₃
        else PEnd h₀ L m { s₂ with heap := h, toks := tk } I oI C oC D (lst ys) cst (J (i + 1) ys) s₃) E' { s₂ with heap := h, toks := tk })
    (hRR : ∀ D C h tk m' ys ex', Fr h₀ L h m → News h₀ L h ((D, lst ys) :: (cst ++ ex')) → Off1 D (cst ++ ex') → h.Ns C m' → h₀.get? C = none → h₀.get? D = none → C ≠ L → D ≠ L → C ≠ D → (∀ p ∈ cst ++ ex', p.1 ≠ C) → J n ys ex' → RR (.ref D) C (.ok .next) { s₂ with heap := h, toks := tk }) :
    wpAny (model prog w) A (newList []) (fun acc s₃ => wpAny (model prog w) A (newFunctionEnv scope env.globals cl [] env.qual none .none (some env)) (fun cenv s₄ =>
      codeAny (model prog w) A (.compStart (.ListComp elt [⟨.Tuple [.Name x px, .Name x₂ px₂] tkk tp, iter, ifs, 0⟩] scope pos) 0 (.ref I) acc { cenv with scope := relabel scope env }) (RR acc cenv.locals) s₄) E s₃) E s₂ := by
  refine wpAny_newObj_type (wpAny_newFunctionEnv hcell (by intro y hy; simp at hy) (fun h₁ hns₁ hsb₁ => ?_) hkind)
  dsimp only at hns₁ hsb₁ ⊢
  generalize hH2 : s₂.heap.push { cls := .type "list", dict := none, data := .seq ([] : List Value).toArray } = H2 at hns₁ hsb₁ ⊢
  have hC : H2.objs.size = s₂.heap.objs.size + 1 := by rw [← hH2, Heap.size_push]
  have hDC : s₂.heap.objs.size ≠ H2.objs.size := by rw [hC]; exact Nat.ne_of_lt (Nat.lt_succ_self _)
  have below : ∀ b, b < s₂.heap.objs.size → b ≠ H2.objs.size ∧ b ≠ s₂.heap.objs.size := fun b hb => ⟨by rw [hC]; exact Nat.ne_of_lt (Nat.lt_succ_of_lt hb), Nat.ne_of_lt hb⟩
  have hIlt : I < s₂.heap.objs.size := by obtain ⟨o, e⟩ := hIo _ _ hst; exact Heap.lt_size e
  have hfpl : ∀ b ∈ fp, b < s₂.heap.objs.size := fun b hb => by
    rcases hfp b hb with rfl | ⟨o, e⟩ | ⟨o, hm⟩
    · exact hIlt
    · exact Heap.lt_size (F.keep _ _ e)
    · exact Heap.lt_size (N _ (List.mem_append_left _ hm)).1
  have hDf : s₂.heap.objs.size ∉ fp := fun hm => Nat.lt_irrefl _ (hfpl _ hm)
  have hCf : H2.objs.size ∉ fp := fun hm => by have := hfpl _ hm; rw [hC] at this; exact Nat.lt_irrefl _ (Nat.lt_of_succ_lt this)
  have old : ∀ b o, s₂.heap.get? b = some o → h₁.get? b = some o := fun b o e => hsb₁.extBut b o (below b (Heap.lt_size e)).1 (Heap.get?_push_of_some _ (hH2 ▸ Heap.get?_push_of_some _ e))
  have hacc : h₁.get? s₂.heap.objs.size = some (lst []) := hsb₁.extBut _ _ hDC (Heap.get?_push_of_some _ (hH2 ▸ Heap.get?_push_size _ rfl))
  have hst₁ : St 0 h₁ := W.frame _ _ _ hst fun b _ o e => old b o e
  have fresh : ∀ a, s₂.heap.objs.size ≤ a → s₂.heap.get? a = none := fun a ha => by
    cases e : s₂.heap.get? a with
    | none => rfl
    | some o' => exact absurd (Heap.lt_size e) (Nat.not_lt.mpr ha)
  have fresh₀ : ∀ a, s₂.heap.objs.size ≤ a → h₀.get? a = none := fun a ha => by
    cases e : h₀.get? a with
    | none => rfl
    | some o' => have := F.keep a o' e; rw [fresh a ha] at this; cases this
  have hD₀ : h₀.get? s₂.heap.objs.size = none := fresh₀ _ (Nat.le_refl _)
  have hC₀ : h₀.get? H2.objs.size = none := fresh₀ _ (by rw [hC]; exact Nat.le_succ _)
  have hLlt : L < s₂.heap.objs.size := F.ns.lt
  have hDL : s₂.heap.objs.size ≠ L := Ne.symm (below L hLlt).2
  have hCL : H2.objs.size ≠ L := Ne.symm (below L hLlt).1
  have hCI : I ≠ H2.objs.size := (below I hIlt).1
  have hDI : I ≠ s₂.heap.objs.size := (below I hIlt).2
  have off₀ : Off3 I H2.objs.size s₂.heap.objs.size (cst ++ ex) := Off3.of fun p hp => ⟨off p hp, (below _ (Heap.lt_size (N p hp).1)).1, (below _ (Heap.lt_size (N p hp).1)).2⟩
  have loop : ∀ s₃ : Shared, s₃ = { s₂ with heap := h₁, toks := s₂.toks + ([] : List (Str × Value)).length } →
      codeAny (model prog w) A (.compLoop (.ListComp elt [⟨.Tuple [.Name x px, .Name x₂ px₂] tkk tp, iter, ifs, 0⟩] scope pos) 0 (.ref I) (.ref s₂.heap.objs.size) (compEnvC scope cl H2.objs.size env))
        (RR (.ref s₂.heap.objs.size) H2.objs.size) s₃ := by
    rintro s₃ rfl
    refine loop_pairs
      (fun k s' => ∃ h' tk i ys m' ex', s' = { s₂ with heap := h', toks := tk } ∧ i ≤ n ∧ k = n + 1 - i ∧ ys.length ≤ i ∧ St i h' ∧ Fr h₀ L h' m ∧ h'.Ns H2.objs.size m' ∧ News h₀ L h' ((s₂.heap.objs.size, lst ys) :: (cst ++ ex')) ∧
        Off3 I H2.objs.size s₂.heap.objs.size (cst ++ ex') ∧ J i ys ex') ?_ (n + 1)
      ⟨h₁, _, 0, [], _, ex, rfl, Nat.zero_le _, rfl, Nat.le_refl _, hst₁, F.keeps old, hns₁, fun p hp => ?_, off₀, hJ⟩
    · rintro k s' ⟨h', tk, i, ys, m', ex', rfl, hi, rfl, hyl, hst', F', hn', N', off', hJ'⟩
      have off3 := off'.mem
      have offI : ∀ p ∈ (s₂.heap.objs.size, lst ys) :: (cst ++ ex'), p.1 ≠ I := fun p hp => by
        rcases List.mem_cons.mp hp with rfl | hp
        · exact Ne.symm hDI
        · exact (off3 p hp).1
      by_cases hlt : i < n
      · refine W.item i _ _ _ hlt hst' fun T vals h₂ tk₂ hPv hT₂ hMid₂ hk₂ => ?_
        obtain ⟨v₁, v₂, rfl, hP⟩ := hPt _ _ hPv
        refine W.go _ _ _ i T _ _ _ hMid₂ fun h₄ hst₄ hk₄ => ?_
        have hTI : T ≠ I := fun e => W.apart i T _ hMid₂ (e ▸ List.mem_singleton.mpr rfl)
        have hk₄₂ : ∀ b o, b ∉ [I] → h'.get? b = some o → h₄.get? b = some o := fun b o hb e => hk₄ b o hb (hk₂ b o hb e)
        have F₄ : Fr h₀ L h₄ m := fr_but F' hk₄₂ hIL hI₀
        have N₄ : News h₀ L h₄ ((s₂.heap.objs.size, lst ys) :: (cst ++ ex')) := news_but N' hk₄₂ offI
        have ht : IsTup h₄ T #[v₁, v₂] := by
          obtain ⟨o, e, r⟩ := hT₂
          exact ⟨o, hk₄ T o (by simpa using hTI) e, r⟩
        refine assign_Tuple_tuple hh ht rfl rfl fun h₅ he => ?_
        have he' : ∀ b o, h₄.get? b = some o → h₅.get? b = some o := fun b o e => he b o (Nat.ne_of_lt (Heap.lt_size e)) e
        refine assignInOrder_cons (wpAny_assign_Name (wpAny_storeName_local (lookup_relabel_local hx) ((hn'.at' fun o e => hk₄₂ _ o (by simpa using Ne.symm hCI) e).at' fun o e => he' _ o e) (fun h₆ hn₆ hs₆ => ?_) (by simp [compEnvC, relabel, hkind])))
        refine assignInOrder_cons (wpAny_assign_Name (wpAny_storeName_local (lookup_relabel_local hx₂) hn₆ (fun h₃ hn₃ hs₃ => ?_) (by simp [compEnvC, relabel, hkind])))
        refine assignInOrder_nil ?_
        have old3 : ∀ b o, b ≠ H2.objs.size → h₄.get? b = some o → h₃.get? b = some o := fun b o hb e => hs₃.extBut b o hb (hs₆.extBut b o hb (he' b o e))
        have hst₃ : St (i + 1) h₃ := W.frame _ _ _ hst₄ fun b hb o e => old3 b o (fun q => hCf (by rw [← q]; exact hb)) e
        obtain ⟨oI, heI⟩ := hIo _ _ hst₃
        obtain ⟨oC, heC, hoC⟩ := ns_obj hn₃
        have F₃ : Fr h₀ L h₃ m := ((F₄.keeps he').change hs₆ hCL hC₀).change hs₃ hCL hC₀
        have N₃ : News h₀ L h₃ ((I, oI) :: (H2.objs.size, oC) :: (s₂.heap.objs.size, lst ys) :: (cst ++ ex')) := fun p hp => by
          rcases List.mem_cons.mp hp with rfl | hp
          · exact ⟨heI, Ne.symm hIL, hI₀⟩
          · rcases List.mem_cons.mp hp with rfl | hp
            · exact ⟨heC, hCL, hC₀⟩
            · have z := N₄ p hp
              refine ⟨old3 _ _ ?_ z.1, z.2⟩
              rcases List.mem_cons.mp hp with rfl | hp
              · exact hDC
              · exact (off3 p hp).2.1
        have fin : ∀ {oI' : Obj} {ys' : List Value} {h₈ : Heap} {tk₈ : Nat} {ex₈ : List (Addr × Obj)}, (I, oI') = (I, oI) → ys'.length ≤ i + 1 → Fr h₀ L h₈ m → News h₀ L h₈ ((I, oI) :: (H2.objs.size, oC) :: (s₂.heap.objs.size, lst ys') :: (cst ++ ex₈)) → Off3 I H2.objs.size s₂.heap.objs.size (cst ++ ex₈) → J (i + 1) ys' ex₈ →
            ∃ mm, mm < n + 1 - i ∧ ∃ h' tk i ys m' ex', ({ s₂ with heap := h₈, toks := tk₈ } : Shared) = { s₂ with heap := h', toks := tk } ∧ i ≤ n ∧ mm = n + 1 - i ∧ ys.length ≤ i ∧ St i h' ∧ Fr h₀ L h' m ∧ h'.Ns H2.objs.size m' ∧ News h₀ L h' ((s₂.heap.objs.size, lst ys) :: (cst ++ ex')) ∧
              Off3 I H2.objs.size s₂.heap.objs.size (cst ++ ex') ∧ J i ys ex' := by
          intro oI' ys' h₈ tk₈ ex₈ _ hl F₈ N₈ off₈ hJ₈
          have hst₈ : St (i + 1) h₈ := W.frame _ _ _ hst₃ fun b hb o e => by
            rcases hfp b hb with rfl | ⟨o', e'⟩ | ⟨o', hm⟩
            · rw [heI] at e; cases e; exact (N₈ _ (.head _)).1
            · have := F₃.keep _ _ e'; rw [this] at e; cases e; exact F₈.keep _ _ e'
            · have := (N₃ _ (.tail _ (.tail _ (.tail _ (List.mem_append_left _ hm))))).1; rw [this] at e; cases e; exact (N₈ _ (.tail _ (.tail _ (.tail _ (List.mem_append_left _ hm))))).1
          exact ⟨n + 1 - (i + 1), by omega, h₈, tk₈, i + 1, ys', _, ex₈, rfl, hlt, rfl, hl, hst₈, F₈, hoC.ns (N₈ _ (.tail _ (.head _))).1, fun p hp => N₈ p (.tail _ (.tail _ hp)), off₈, hJ₈⟩
        have offOf : ∀ {ex₈ : List (Addr × Obj)}, Off3 I H2.objs.size s₂.heap.objs.size ex₈ → Off3 I H2.objs.size s₂.heap.objs.size (cst ++ ex₈) := fun {ex₈} o => Off3.of fun p hp => by
          rcases List.mem_append.mp hp with hp | hp
          · exact off3 p (List.mem_append_left _ hp)
          · exact o.mem p hp
        refine wpAny_mono (turn i ys ex' v₁ v₂ oI H2.objs.size oC s₂.heap.objs.size _ h₃ _ _ hlt hyl hP hJ' hoC (by simp [hxx]) (by simp) F₃ N₃ off' ⟨hCI, hDI, Ne.symm hDC⟩) (fun ok s₇ h₇ => ?_) fun _ _ e => e
        cases ok with
        | false =>
          simp only [Bool.false_eq_true, if_false] at h₇ ⊢
          obtain ⟨h₈, tk₈, ex₈, rfl, F₈, N₈, off₈, hJ₈⟩ := h₇
          exact fin rfl (Nat.le_succ_of_le hyl) F₈ N₈ (offOf off₈) hJ₈
        | true =>
          simp only [if_true] at h₇ ⊢
          refine wpAny_mono h₇ (fun y s₈ h₈ => ?_) fun _ _ e => e
          obtain ⟨h₈, tk₈, ex₈, rfl, F₈, N₈, off₈, hJ₈⟩ := h₈
          have zD := (N₈ (s₂.heap.objs.size, lst ys) (.tail _ (.tail _ (.head _)))).1
          refine append_at (hsz := by show ys.toArray.size ≤ sizeLine; rw [List.size_toArray]; exact Nat.le_trans hyl (Nat.le_trans hi hsz)) zD fun h₉ hs₉ hD₉ => ?_
          have off4 := (offOf off₈).mem
          refine fin rfl (by rw [List.length_append, List.length_singleton]; omega) (F₈.change hs₉ hDL hD₀) (fun p hp => ?_) (offOf off₈) hJ₈
          rcases List.mem_cons.mp hp with rfl | hp
          · have z := N₈ (I, oI) (.head _); exact ⟨hs₉.extBut _ _ hDI z.1, z.2⟩
          rcases List.mem_cons.mp hp with rfl | hp
          · have z := N₈ (H2.objs.size, oC) (.tail _ (.head _)); exact ⟨hs₉.extBut _ _ (Ne.symm hDC) z.1, z.2⟩
          rcases List.mem_cons.mp hp with rfl | hp
          · exact ⟨hD₉.trans (congrArg some (lst_snoc ys y)), hDL, hD₀⟩
          · have z := N₈ p (.tail _ (.tail _ (.tail _ hp)))
            exact ⟨hs₉.extBut _ _ (off4 p hp).2.2 z.1, z.2⟩
      · obtain rfl : i = n := Nat.le_antisymm hi (Nat.not_lt.mp hlt)
        refine W.done _ _ _ hst' fun h₂ tk₂ hk₂ => ?_
        exact hRR _ _ h₂ tk₂ _ ys ex' (fr_but F' hk₂ hIL hI₀) (news_but N' hk₂ offI) off'.one (hn'.at' fun o e => hk₂ _ o (by simpa using Ne.symm hCI) e) hC₀ hD₀ hCL hDL (Ne.symm hDC) (fun p hp => (off3 p hp).2.1) hJ'
    · rcases List.mem_cons.mp hp with rfl | hp
      · exact ⟨hacc, hDL, hD₀⟩
      · exact ⟨old _ _ (N p hp).1, (N p hp).2⟩
  exact codeAny_compStart_list (loop _ rfl) (W.self 0 _ _ _ hst₁ (loop _ rfl))
end
end Mine
end

-- part E8
section
open PySem PySem.W PyProof.Rows
set_option Elab.async false
set_option maxRecDepth 100000
set_option linter.unusedVariables false
namespace Mine
open PySem.Calls PyProof.Rows.LCg
open Sem (wp)

section
variable {prog : Program} {w : World} {A : Around} {E : Value → Shared → Prop} {s : Shared}
theorem letGo_rev {elts : List Expr} {x1} {pos : Pos} {I l T : Addr} {i : Int} {Q : Unit → Shared → Prop} (hit : s.heap.IsRevIter I l i) (hQ : Q () s) :
    wpAny (model prog w) A (letOwnedTupleGo (.Tuple elts x1 pos) (.ref I) (.ref T)) Q E s := by
  obtain ⟨o, ho, hc, hd⟩ := hit
  unfold letOwnedTupleGo
  refine wpAny_bind (wpAny_load ho ?_)
  rw [hc, hd]
  show wpAny _ A (if (["enumerate", "zip", "dict_itemiterator", "dict_reverseitemiterator", "odict_iterator", "itertools.zip_longest", "itertools.pairwise"].contains "list_reverseiterator" &&
      (#[.ref l, rawInt i] : Array Value)[0]? == some (rawInt T)) = true then _ else _) Q E s
  rw [if_neg (by
    intro h
    rw [show (["enumerate", "zip", "dict_itemiterator", "dict_reverseitemiterator", "odict_iterator", "itertools.zip_longest", "itertools.pairwise"].contains "list_reverseiterator") = false from by decide, Bool.false_and] at h
    cases h)]
  exact wpAny_pure hQ
end

theorem walksU_of {prog : Program} {w : World} {A : Around} {I : Addr} {fp : List Addr} {n : Nat} {P : Nat → Value → Prop} {St : Nat → Heap → Prop} (W : Walks prog w A I fp [I] n P St)
    (go : ∀ i (s : Shared) (Q : Unit → Shared → Prop) (E : Value → Shared → Prop) elts k pos T, St i s.heap → Q () s → wpAny (model prog w) A (letOwnedTupleGo (.Tuple elts k pos) (.ref I) (.ref T)) Q E s)
    (Ts : Nat → Addr) (vals : Nat → Array Value) (hit : ∀ i v, i < n → P i v → v = .ref (Ts i)) (hTI : ∀ j, j < n → Ts j ≠ I) :
    WalksU prog w A I (fp ++ (List.range n).map Ts) [I] n (fun j v => v = vals j) (fun j h => St j h ∧ ∀ k, k < n → h.IsTuple (Ts k) (vals k))
      (fun j T h => (j < n ∧ T = Ts j) ∧ St (j + 1) h ∧ ∀ k, k < n → h.IsTuple (Ts k) (vals k)) where
  sub := fun b hb => List.mem_append_left _ (W.sub b hb)
  frame := fun i h h' st hk => ⟨W.frame i h h' st.1 fun b hb => hk b (List.mem_append_left _ hb), fun k hk' => (st.2 k hk').at fun o e => hk (Ts k) (List.mem_append_right _ (List.mem_map.mpr ⟨k, List.mem_range.mpr hk', rfl⟩)) o e⟩
  item := fun i s Q E hi st hQ => W.item i s _ E hi st.1 fun v h' tk hP st' hk => by
    have tup : ∀ k, k < n → h'.IsTuple (Ts k) (vals k) := fun k hk' => (st.2 k hk').at fun o e => hk (Ts k) o (by simpa using hTI k hk') e
    rw [hit i v hi hP]
    exact hQ (Ts i) (vals i) h' tk rfl (tup i hi) ⟨⟨hi, rfl⟩, st', tup⟩ hk
  go := fun _ _ _ _ _ s Q E hm hQ => go _ s _ E _ _ _ _ hm.2.1 (hQ s.heap hm.2 fun _ _ _ e => e)
  apart := fun j T _ hm hmem => by
    rcases List.mem_cons.mp hmem with e | e
    · exact hTI j hm.1.1 (hm.1.2 ▸ e)
    · cases e
  done := fun s Q E st hQ => W.done s Q E st.1 hQ
  self := fun i s Q E st hQ => W.self i s Q E st.1 hQ

section
variable {prog : Program} {w : World} {A : Around} {E : Value → Shared → Prop} {s : Shared} {h₀ : Heap} {L : Addr} {m : Str → Option Value} {env : Env}
/-- what a comprehension over pairs wants to know of its iterator and of its turns -/
def PSrc (prog : Program) (w : World) (A : Around) (h₀ : Heap) (L : Addr) (m : Str → Option Value) (env : Env) (elt : Expr) (ifs : List Expr) (x x₂ : Str) (scope : Scope) (cl : List (Str × Addr)) (Q : Value → Shared → Prop) (it : Value) (s₂ : Shared) : Prop :=
  ∃ (I : Addr) (fp : List Addr) (n : Nat) (Pt : Nat → Array Value → Prop) (St : Nat → Heap → Prop) (Mid : Nat → Addr → Heap → Prop) (cst ex : List (Addr × Obj)) (P : Nat → Value → Value → Prop) (J : Nat → List Value → List (Addr × Obj) → Prop),
    it = .ref I ∧ WalksU prog w A I fp [I] n Pt St Mid ∧ (∀ i vals, Pt i vals → ∃ a b, vals = #[a, b] ∧ P i a b) ∧ A.handled = none ∧ n ≤ sizeLine ∧ (∀ i h, St i h → ∃ o, h.get? I = some o) ∧
    (∀ b ∈ fp, b = I ∨ (∃ o, h₀.get? b = some o) ∨ ∃ o, (b, o) ∈ cst) ∧ (∀ i T h, Mid i T h → ∃ o, h.get? I = some o) ∧ St 0 s₂.heap ∧ Fr h₀ L s₂.heap m ∧ News h₀ L s₂.heap (cst ++ ex) ∧ L ≠ I ∧ h₀.get? I = none ∧ (∀ p ∈ cst ++ ex, p.1 ≠ I) ∧ J 0 [] ex ∧
    (∀ i ys ex a b oI C oC D m₂ h tk (E' : Value → Shared → Prop), i < n → ys.length ≤ i → P i a b → J i ys ex → NsObj oC m₂ → m₂ x = some a → m₂ x₂ = some b → Fr h₀ L h m → News h₀ L h ((I, oI) :: (C, oC) :: (D, lst ys) :: (cst ++ ex)) → Off3 I C D (cst ++ ex) →
      ((@Ne Nat I C) ∧ (@Ne Nat I D) ∧ (@Ne Nat C D)) →
      wpAny (model prog w) A (forIn ifs true fun c r => if r = true then do let ok ← isTrue c (compEnvC scope cl C env) (eval c (compEnvC scope cl C env)); pure (ForInStep.yield ok) else pure (ForInStep.yield r)) (fun ok s₃ =>
        if ok = true then wpAny (model prog w) A (eval elt (compEnvC scope cl C env)) (fun y s₄ => PEnd h₀ L m { s₂ with heap := h, toks := tk } I oI C oC D (lst ys) cst (J (i + 1) (ys ++ [y])) s₄) E' s₃
        else PEnd h₀ L m { s₂ with heap := h, toks := tk } I oI C oC D (lst ys) cst (J (i + 1) ys) s₃) E' { s₂ with heap := h, toks := tk }) ∧
    (∀ D h tk ys ex', Fr h₀ L h m → News h₀ L h ((D, lst ys) :: (cst ++ ex')) → Off1 D (cst ++ ex') → J n ys ex' → Q (.ref D) { s₂ with heap := h, toks := tk })

theorem ListComp_pairs {elt iter : Expr} {ifs : List Expr} {x x₂ : Str} {px px₂ tp : Pos} {tkk} {scope : Scope} {cl : List (Str × Addr)} {pos : Pos} {Q : Value → Shared → Prop}
    (hclos : closureFor scope env = pure cl) (hcell : ∀ y ∈ scope.names, y.2 ≠ .cell) (hkind : scope.kind = .function)
    (hnames : ∀ y ∈ scope.names, y.2 = .local → scope.names.lookup y.1 = some .local) (hx : scope.names.lookup x = some .local) (hx₂ : scope.names.lookup x₂ = some .local) (hxx : x ≠ x₂)
    (h : wpAny (model prog w) A (eval iter env) (fun xv s₁ => wpAny (model prog w) A (pyIter xv) (PSrc prog w A h₀ L m env elt ifs x x₂ scope cl Q) E s₁) E s)
    (hs : ∀ x, foldedSetIterable iter env x = pure x := by intro _; rfl) :
    wpAny (model prog w) A (eval (.ListComp elt [⟨.Tuple [.Name x px, .Name x₂ px₂] tkk tp, iter, ifs, 0⟩] scope pos) env) Q E s := by
  rw [eval_ListComp]
  refine wpAny_comprehension_free (use := none) rfl hs hclos hkind hnames (wpAny_mono h (fun xv s₁ h₁ => wpAny_mono h₁ (fun it s₂ h₂ => ?_) fun _ _ e => e) fun _ _ e => e)
  obtain ⟨I, fp, n, Pt, St, Mid, cst, ex, P, J, rfl, W, hPt, hh, hsz, hIo, hfp, hMl, hst, F, N, hIL, hI₀, off, hJ, turn, fin⟩ := h₂
  refine block_pairs P J W hPt hh hsz hIo hfp hMl hcell hkind hx hx₂ hxx hst F N hIL hI₀ off hJ turn ?_
  intro D C h tk m' ys ex' F' N' o1 hn hC₀ hD₀ hCL hDL hCD offC fj
  refine ⟨m', hn, fun h'' hs'' => fin D h'' tk ys ex' (F'.change hs'' hCL hC₀) (fun p hp => ?_) o1 fj⟩
  refine ⟨hs''.extBut _ _ ?_ (N' p hp).1, (N' p hp).2⟩
  rcases List.mem_cons.mp hp with rfl | hp
  · exact Ne.symm hCD
  · exact offC p hp
end
end Mine
end

-- part E9
section
open PySem PySem.W PyProof.Rows
set_option Elab.async false
set_option maxRecDepth 100000
set_option linter.unusedVariables false
namespace Mine
open PySem.Calls PyProof.Rows.LCg
open Sem (wp)

/-- the i-th item of a list of values is a pair of the ledger's -/
def PairsAt (news : List (Addr × Obj)) (items : List Value) (ps : List (Value × Value)) : Prop :=
  items.length = ps.length ∧ ∀ (i : Nat) (v : Value), items[i]? = some v → ∃ (a : Addr) (p : Value × Value) (k : Nat), v = .ref a ∧ ps[i]? = some p ∧ (a, tupO [p.1, p.2] k) ∈ news
def refOf : Value → Addr
  | .ref a => a
  | _ => 0

section
variable {prog : Program} {w : World} {A : Around} {E : Value → Shared → Prop} {s : Shared} {h₀ : Heap} {L : Addr} {m mg mb : Str → Option Value} {env : Env} {news kn : List (Addr × Obj)} {K : Frag} {p : Program} {loose : List Str} {mean : ExcName → Option Value} {n k : Nat} {t : Addr} {items : List Value} {ps : List (Value × Value)} {ds : List PyData} {Q : Value → Shared → Prop}

theorem types_comp {p1 p2 p3 px px₂ tp pos : Pos} {tkk} {scope : Scope} {cl : List (Str × Addr)} {iter : Expr} {x x₂ : Str} (hh : A.handled = none) (F : Fr h₀ L s.heap m) (N : News h₀ L s.heap news) (X : K.In h₀) (T : Top p loose mean mg mb h₀)
    (hclos : closureFor scope env = pure cl) (hcell : ∀ y ∈ scope.names, y.2 ≠ .cell) (hkind : scope.kind = .function)
    (hnames : ∀ y ∈ scope.names, y.2 = .local → scope.names.lookup y.1 = some .local) (hx : scope.names.lookup x = some .local) (hx₂ : scope.names.lookup x₂ = some .local) (hxx : x ≠ x₂) (hd2 : (x₂ == ("__debug__" : Str)) = false)
    (hown : ∀ C, (compEnvC scope cl C env).kindOf x₂ = some .local) (hty : ∀ C, (compEnvC scope cl C env).kindOf (Str.ofString "type") = some .globalImplicit) (hK : nsIn K mainGlobals (Str.ofString "type") = some none) (hg : env.globals = mainGlobals) (hb : env.builtins = builtinsNs)
    (hiter : ∀ Q' : Value → Shared → Prop, Q' (.ref t) s → wpAny (model prog w) A (eval iter env) Q' E s) (hs : ∀ x, foldedSetIterable iter env x = pure x)
    (htm : (t, tupO items k) ∈ news) (hps : PairsAt news items ps) (hT : Things kn n (ps.map (·.2)) ds) (hkn : KnOk kn h₀) (hsz : items.length ≤ sizeLine)
    (h : ∀ D h' tk, Fr h₀ L h' m → News h₀ L h' ((D, lst (ds.map fun d => .type (tyD d))) :: news) → Off1 D news → Q (.ref D) { s with heap := h', toks := tk }) :
    wpAny (model prog w) A (eval (.ListComp (.Call (.Name (Str.ofString "type") p1) [.Name x₂ p2] [] p3) [⟨.Tuple [.Name x px, .Name x₂ px₂] tkk tp, iter, [], 0⟩] scope pos) env) Q E s := by
  refine ListComp_pairs (h₀ := h₀) (L := L) (m := m) hclos hcell hkind hnames hx hx₂ hxx (hiter _ ?_) hs
  have ht : s.heap.IsTuple t items.toArray := ⟨_, (N _ htm).1, rfl, _, rfl⟩
  refine wpAny_pyIter_tuple ht ?_
  have hlt : ∀ p ∈ news, p.1 < s.heap.objs.size := fun p hp => Heap.lt_size (N p hp).1
  have up : ∀ b o, s.heap.get? b = some o → (s.heap.push { cls := .type "tuple_iterator", data := .fields #[.ref t, .int 0 0] }).get? b = some o := fun b o e => Heap.get?_push_of_some _ e
  have hp2 : ∀ i, i < items.length → ∃ (a : Addr) (p : Value × Value) (k : Nat), items[i]? = some (.ref a) ∧ ps[i]? = some p ∧ (a, tupO [p.1, p.2] k) ∈ news := fun i hi => by
    obtain ⟨a, p, k, e, e2, e3⟩ := hps.2 i items[i] (by simp [hi])
    exact ⟨a, p, k, by simp [hi, e], e2, e3⟩
  have W := walksU_of (Walks.tuple (prog := prog) (w := w) hh s.heap.objs.size t (Nat.ne_of_lt (hlt _ htm)) items.toArray) (fun i s Q E elts k pos T st q => letGo_tupleiter st.1 q)
    (fun i => refOf (items.getD i .none)) (fun i => #[(ps.getD i (.none, .none)).1, (ps.getD i (.none, .none)).2])
    (fun i v hi hv => by
      have hi' : i < items.length := by simpa using hi
      obtain ⟨a, p, k, e, _, _⟩ := hp2 i hi'
      have hv' : items[i]? = some v := by simpa using hv
      rw [e] at hv'; cases hv'
      simp [List.getD, e, refOf])
    (fun j hj => by
      have hj' : j < items.length := by simpa using hj
      obtain ⟨a, p, k, e, _, e3⟩ := hp2 j hj'
      have := hlt _ e3
      simp only [List.getD, e, Option.getD_some, refOf]
      exact Nat.ne_of_lt this)
  refine ⟨s.heap.objs.size, _, _, _, _, _, news, [], fun i a b => ∃ p, ps[i]? = some p ∧ a = p.1 ∧ b = p.2, fun i ys ex => ex = [] ∧ ys = (ds.take i).map fun d => .type (tyD d), rfl, W.bound, ?_, hh, by simpa using hsz, ?_, ?_, ?_, ?_, F.push _, ?_, Nat.ne_of_lt F.ns.lt, ?_, ?_, ?_, ?_, ?_⟩
  · rintro i vals ⟨hi, rfl⟩
    have hi' : i < items.length := by simpa using hi
    obtain ⟨a, p, k, _, e, _⟩ := hp2 i hi'
    exact ⟨_, _, rfl, p, e, by simp [List.getD, e], by simp [List.getD, e]⟩
  · rintro i h ⟨⟨⟨o, e, _⟩, _⟩, _⟩
    exact ⟨o, e⟩
  · intro b hb
    rcases List.mem_append.mp hb with hb | hb
    · rcases List.mem_cons.mp hb with rfl | hb
      · exact .inl rfl
      · rw [List.mem_singleton.mp hb]; exact .inr (.inr ⟨_, htm⟩)
    · obtain ⟨j, hj, rfl⟩ := List.mem_map.mp hb
      have hj' : j < items.length := by simpa using List.mem_range.mp hj
      obtain ⟨a, p, k, e, _, e3⟩ := hp2 j hj'
      simp only [List.getD, e, Option.getD_some, refOf]
      exact .inr (.inr ⟨_, e3⟩)
  · rintro i T h ⟨_, ⟨⟨o, e, _⟩, _⟩, _⟩
    exact ⟨o, e⟩
  · refine ⟨⟨⟨_, Heap.get?_push_size _ rfl, rfl, rfl⟩, ht.push _⟩, fun j hj => ?_⟩
    have hj' : j < items.length := by simpa using hj
    obtain ⟨a, p, k, e, e2, e3⟩ := hp2 j hj'
    simp only [List.getD, e, e2, Option.getD_some, refOf]
    exact ⟨_, up _ _ (N _ e3).1, rfl, _, rfl⟩
  · rw [List.append_nil]; exact N.grown up
  · cases q : h₀.get? s.heap.objs.size with
    | none => rfl
    | some o => exact absurd (Heap.lt_size (F.keep _ _ q)) (Nat.lt_irrefl _)
  · intro p hp; rw [List.append_nil] at hp; exact Nat.ne_of_lt (hlt p hp)
  · exact ⟨rfl, rfl⟩
  · rintro i ys ex a b oI C oC D m₂ h' tk E' hi hl ⟨q, hq, rfl, rfl⟩ ⟨rfl, rfl⟩ hoC hma hmb F' N' off ne
    have hi' : i < items.length := by simpa using hi
    obtain ⟨d, hd, hin⟩ := hT.get (show (ps.map (·.2))[i]? = some q.2 by simp [hq])
    refine wpAny_tests_nil ?_
    simp only [if_true]
    refine Call_ ?_
    refine LCgL.ld_built F' X T hK (v := .type "type") (by decide +kernel) (by decide) ?_ hg hb (by exact hkind) (hty C)
    refine PySem.callWith_type rfl ?_
    refine evalArgs_plain ?_
    refine spliced_cons ?_
    refine LCgL.ld_own N' (List.mem_cons_of_mem _ (List.mem_cons_self ..)) hoC hmb ?_ hkind (hown C) hd2
    refine spliced_nil ?_
    refine call_type_of (s := { s with heap := h', toks := tk }) (hin.typeIs (s := { s with heap := h', toks := tk }) (hkn.keeps F'.keep)) (tyD_nb d) ?_
    refine PEnd.intro F' N' [] (fun p hp => hp) trivial ⟨rfl, ?_⟩
    have hd' : i < ds.length := by
      obtain ⟨hd', _⟩ := List.getElem?_eq_some_iff.mp hd; exact hd'
    rw [List.take_add_one, hd]; simp
  · rintro D h' tk ys ex F' N' off ⟨rfl, rfl⟩
    have hn : items.toArray.size = ds.length := by
      have := hT.length; have h1 := hps.1; simp at this ⊢; omega
    rw [List.append_nil] at N' off
    have e : ds.take items.toArray.size = ds := by rw [hn]; exact List.take_length
    rw [e] at N'
    exact h D h' tk F' N' off
end
end Mine
end

-- part F1
section
open PySem PySem.W PyProof.Rows
open Lean Elab Tactic Meta
set_option Elab.async false
set_option maxRecDepth 100000
set_option linter.unusedVariables false
set_option pp.deepTerms false
set_option pp.deepTerms.threshold 12
set_option pp.maxSteps 60000
namespace Mine
open PySem.Calls PySem.SeqAt
abbrev nS : Str := Str.ofString "n"
abbrev kS : Str := Str.ofString "k"
theorem ne_nk : nS ≠ kS := by decide +kernel
theorem ne_kn : kS ≠ nS := by decide +kernel
/-- the named ones of a call, as they come and as they are sorted -/
inductive KwOk : List (Str × Value) → List (Str × Value) → Prop
  | nil : KwOk [] []
  | n (v : Value) : KwOk [(nS, v)] [(nS, v)]
  | k (u : Value) : KwOk [(kS, u)] [(kS, u)]
  | nk (v u : Value) : KwOk [(nS, v), (kS, u)] [(kS, u), (nS, v)]
  | kn (v u : Value) : KwOk [(kS, u), (nS, v)] [(kS, u), (nS, v)]
/-- the items' list bears pairs of a name and a value -/
inductive ItemsIn (kn : List (Addr × Obj)) : List Value → List (Str × Value) → Prop
  | nil : ItemsIn kn [] []
  | cons {a : Addr} {k : Nat} {x : Str} {t : Tok} {v : Value} {its : List Value} {sk : List (Str × Value)} : (a, tupO [.str x t, v] k) ∈ kn → ItemsIn kn its sk → ItemsIn kn (.ref a :: its) ((x, v) :: sk)
theorem ItemsIn.mono {kn kn' : List (Addr × Obj)} (hs : ∀ p ∈ kn, p ∈ kn') {its : List Value} {sk : List (Str × Value)} (h : ItemsIn kn its sk) : ItemsIn kn' its sk := by
  induction h with
  | nil => exact .nil
  | cons hm _ ih => exact .cons (hs _ hm) ih
theorem ItemsIn.length {kn : List (Addr × Obj)} {its : List Value} {sk : List (Str × Value)} (h : ItemsIn kn its sk) : its.length = sk.length := by
  induction h with
  | nil => rfl
  | cons _ _ ih => simp [ih]
theorem ItemsIn.pairs {kn : List (Addr × Obj)} {its : List Value} {sk : List (Str × Value)} (h : ItemsIn kn its sk) : ∃ ps : List (Value × Value), PairsAt kn its ps ∧ ps.map (·.2) = sk.map (·.2) := by
  induction h with
  | nil => exact ⟨[], ⟨rfl, fun i v h => by simp at h⟩, rfl⟩
  | @cons a k x t v its sk hm _ ih =>
    obtain ⟨ps, ⟨h1, h2⟩, h3⟩ := ih
    refine ⟨(.str x t, v) :: ps, ⟨by simp [h1], fun i v' e => ?_⟩, by simp [h3]⟩
    cases i with
    | zero => simp at e; exact ⟨a, _, k, e.symm, rfl, hm⟩
    | succ i => exact h2 i v' (by simpa using e)
section
variable {prog : Program} {w : World} {A : Around} {E : Value → Shared → Prop} {s : Shared} {h₀ : Heap} {L d V : Addr} {m : Str → Option Value} {news : List (Addr × Obj)} {o : Obj} {kw sk : List (Str × Value)} {Q : Value → Shared → Prop}
theorem truthy_kw {Q : Bool → Shared → Prop} (N : News h₀ L s.heap news) (hm : (d, o) ∈ news) (hod : o.IsDictOf (strKind prog w) kw) (hsys : (d == sysModules) = false) (hk : kw.length ≤ 2)
    (h : Q (!kw.isEmpty) { s with toks := s.toks + 1 + 1 }) : wpAny (model prog w) A (truthy (.ref d)) Q E s :=
  wpAny_truthy_dict hsys (kda_dict N hm hod) (by omega) h
theorem news_nk {h : Heap} {x1 x2 x3 x4 x5 x6 x7 : Addr × Obj} (N : News h₀ L h [x1, x2, x3, x4, x5, x6, x7]) : News h₀ L h [x1, x2, x3, x5, x6, x7] := fun p hp => N p (by simp only [List.mem_cons, List.not_mem_nil, or_false] at hp ⊢; rcases hp with h | h | h | h | h | h <;> simp [h])
theorem news_kn {h : Heap} {x1 x2 x3 x4 x5 x6 x7 : Addr × Obj} (N : News h₀ L h [x1, x2, x3, x4, x5, x6, x7]) : News h₀ L h [x1, x3, x2, x5, x6, x7] := fun p hp => N p (by simp only [List.mem_cons, List.not_mem_nil, or_false] at hp ⊢; rcases hp with h | h | h | h | h | h <;> simp [h])
theorem news_dup {h : Heap} {x1 x2 x3 : Addr × Obj} (N : News h₀ L h [x1, x2, x3]) : News h₀ L h [x1, x2, x2, x3] := fun p hp => N p (by simp only [List.mem_cons, List.not_mem_nil, or_false] at hp ⊢; rcases hp with h | h | h | h <;> simp [h])
theorem news_und {h : Heap} {x1 x2 x3 x4 x5 : Addr × Obj} (N : News h₀ L h [x1, x2, x3, x4, x4, x5]) : News h₀ L h [x1, x2, x3, x4, x5] := fun p hp => N p (by simp only [List.mem_cons, List.not_mem_nil, or_false] at hp ⊢; rcases hp with h | h | h | h | h <;> simp [h])
def viewO (d : Addr) : Obj := { cls := .type "dict_items", data := .fields #[.ref d] }
set_option maxHeartbeats 1000000 in
theorem sorted_items {K : Frag} {C X1 : Addr} {oc o1 : Obj} (X : K.In h₀) (hh : A.handled = none) (F : Fr h₀ L s.heap m) (N : News h₀ L s.heap [(V, ({ cls := .type "dict_items", data := .fields #[.ref d] } : Obj)), (X1, o1), (d, o), (C, oc)]) (hod : o.IsDictOf (strKind prog w) kw) (hkw : KwOk kw sk) (hne : kw ≠ [])
    (h : ∀ D its P1 P2 i1 i2 c h' tk, Fr h₀ L h' m → News h₀ L h' [(D, listOf its.toArray c), (P1, tupO i1 0), (P2, tupO i2 0), (X1, o1), (d, o), (C, oc)] → its.length ≤ 2 → its ≠ [] → ItemsIn [(P1, tupO i1 0), (P2, tupO i2 0)] its sk → Q (.ref D) { s with heap := h', toks := tk }) :
    wpAny (model prog w) A (call (.builtin "sorted") [.ref V]) Q E s := by
  have shp : ∀ k v, (strKind prog w).is k v = true → ∃ t, v = kyVal (PyData.str k) t := fun _ _ h => Value.isStrOf_shape h
  cases hkw with
  | nil => exact absurd rfl hne
  | n v =>
    refine kdx_sortedN (knd := strKind prog w) (enc := PyData.str) (ps := [(fun t => .str nS t, v)]) hh F N (.head _) (.tail _ (.tail _ (.head _))) hod (Nat.le_of_ble_eq_true rfl) shp rfl fun lo l0 => ?_
    refine KdxOpen.cons fun a t b1 b2 b3 => KdxOpen.nil ?_
    intro B h' tk l9 F' N'
    refine sort_one F' N' (fun p hp => Nat.ne_of_lt (l9 p hp)) fun c h' F' N' => ?_
    refine h B [.ref a] a a [.str nS t, v] [.str nS t, v] c h' tk F' (fun p hp => N' p ?_) (Nat.le_of_ble_eq_true rfl) (List.cons_ne_nil _ _) (.cons (.head _) .nil)
    simp only [List.mem_cons, List.mem_append, List.not_mem_nil, or_false, false_or, List.cons_append, List.nil_append] at hp ⊢
    rcases hp with h | h | h | h | h | h <;> simp [h]
  | k v =>
    refine kdx_sortedN (knd := strKind prog w) (enc := PyData.str) (ps := [(fun t => .str kS t, v)]) hh F N (.head _) (.tail _ (.tail _ (.head _))) hod (Nat.le_of_ble_eq_true rfl) shp rfl fun lo l0 => ?_
    refine KdxOpen.cons fun a t b1 b2 b3 => KdxOpen.nil ?_
    intro B h' tk l9 F' N'
    refine sort_one F' N' (fun p hp => Nat.ne_of_lt (l9 p hp)) fun c h' F' N' => ?_
    refine h B [.ref a] a a [.str kS t, v] [.str kS t, v] c h' tk F' (fun p hp => N' p ?_) (Nat.le_of_ble_eq_true rfl) (List.cons_ne_nil _ _) (.cons (.head _) .nil)
    simp only [List.mem_cons, List.mem_append, List.not_mem_nil, or_false, false_or, List.cons_append, List.nil_append] at hp ⊢
    rcases hp with h | h | h | h | h | h <;> simp [h]
  | nk v u =>
    refine kdx_sortedN (knd := strKind prog w) (enc := PyData.str) (ps := [(fun t => .str (Str.ofString "n") t, v), (fun t => .str (Str.ofString "k") t, u)]) hh F N (.head _) (.tail _ (.tail _ (.head _))) hod (Nat.le_of_ble_eq_true rfl) shp rfl fun lo l0 => ?_
    refine KdxOpen.cons fun a t b1 b2 b3 => KdxOpen.cons fun a2 t2 b4 b5 b6 => KdxOpen.nil ?_
    intro B h' tk l9 F' N'
    simp only [List.nil_append, List.cons_append] at l9
    k_lt l9
    try dsimp only at N'
    try simp only [List.nil_append, List.cons_append] at N'
    k_lt b6
    clear F N l0 b2 b3 b5
    cases A
    k_steps
    rename Fr _ _ _ _ => G'
    rename News _ _ _ _ => M'
    refine h _ [.ref a2, .ref a] a2 a [.str kS t2, u] [.str nS t, v] _ _ _ G' (news_nk M') (Nat.le_of_ble_eq_true rfl) (List.cons_ne_nil _ _) (.cons (.head _) (.cons (.tail _ (.head _)) .nil))
  | kn v u =>
    refine kdx_sortedN (knd := strKind prog w) (enc := PyData.str) (ps := [(fun t => .str (Str.ofString "k") t, u), (fun t => .str (Str.ofString "n") t, v)]) hh F N (.head _) (.tail _ (.tail _ (.head _))) hod (Nat.le_of_ble_eq_true rfl) shp rfl fun lo l0 => ?_
    refine KdxOpen.cons fun a t b1 b2 b3 => KdxOpen.cons fun a2 t2 b4 b5 b6 => KdxOpen.nil ?_
    intro B h' tk l9 F' N'
    simp only [List.nil_append, List.cons_append] at l9
    k_lt l9
    try dsimp only at N'
    try simp only [List.nil_append, List.cons_append] at N'
    k_lt b6
    clear F N l0 b2 b3 b5
    cases A
    k_steps
    rename Fr _ _ _ _ => G'
    rename News _ _ _ _ => M'
    refine h _ [.ref a, .ref a2] a a2 [.str kS t, u] [.str nS t2, v] _ _ _ G' (news_kn M') (Nat.le_of_ble_eq_true rfl) (List.cons_ne_nil _ _) (.cons (.head _) (.cons (.tail _ (.head _)) .nil))
theorem sorted_items3 {K : Frag} {C : Addr} {oc : Obj} (X : K.In h₀) (hh : A.handled = none) (F : Fr h₀ L s.heap m) (N : News h₀ L s.heap [(V, ({ cls := .type "dict_items", data := .fields #[.ref d] } : Obj)), (d, o), (C, oc)]) (hod : o.IsDictOf (strKind prog w) kw) (hkw : KwOk kw sk) (hne : kw ≠ [])
    (h : ∀ D its P1 P2 i1 i2 c h' tk, Fr h₀ L h' m → News h₀ L h' [(D, listOf its.toArray c), (P1, tupO i1 0), (P2, tupO i2 0), (d, o), (C, oc)] → its.length ≤ 2 → its ≠ [] → ItemsIn [(P1, tupO i1 0), (P2, tupO i2 0)] its sk → Q (.ref D) { s with heap := h', toks := tk }) :
    wpAny (model prog w) A (call (.builtin "sorted") [.ref V]) Q E s :=
  sorted_items X hh F (X1 := d) (o1 := o) (news_dup N) hod hkw hne fun D its P1 P2 i1 i2 c h' tk F' N' a b e =>
    h D its P1 P2 i1 i2 c h' tk F' (news_und N') a b e
end
end Mine
end

-- part F2
section
open PySem PySem.W PyProof.Rows
open Lean Elab Tactic Meta
set_option Elab.async false
set_option maxRecDepth 100000
set_option linter.unusedVariables false
set_option pp.deepTerms false
set_option pp.deepTerms.threshold 12
set_option pp.maxSteps 60000
namespace Mine
local macro_rules | `(tactic| walk_at $s:str) => `(tactic| k_extra $s)
open PySem.Calls PySem.SeqAt PyProof.Rows.LCg
/-- what a key bears: data, the mark between places and names, a type -/
inductive KA where
  | d (x : PyData)
  | kw
  | ty (T : String)
inductive KAtIn (kn : List (Addr × Obj)) (n : Nat) : Value → KA → Prop
  | d {v : Value} {x : PyData} : TIn kn n v x → KAtIn kn n v (.d x)
  | kw : KAtIn kn n (.ref 24) .kw
  | ty (d : PyData) : KAtIn kn n (.type (tyD d)) (.ty (tyD d))
inductive Atoms (kn : List (Addr × Obj)) (n : Nat) : List Value → List KA → Prop
  | nil : Atoms kn n [] []
  | cons {v : Value} {x : KA} {vs : List Value} {xs : List KA} : KAtIn kn n v x → Atoms kn n vs xs → Atoms kn n (v :: vs) (x :: xs)
theorem Atoms.append {kn : List (Addr × Obj)} {n : Nat} {vs us : List Value} {xs ys : List KA} (h : Atoms kn n vs xs) (k : Atoms kn n us ys) : Atoms kn n (vs ++ us) (xs ++ ys) := by
  induction h with
  | nil => exact k
  | cons a _ ih => exact .cons a ih
theorem KAtIn.mono {kn kn' : List (Addr × Obj)} (hs : ∀ p ∈ kn, p ∈ kn') {n : Nat} {v : Value} {x : KA} (h : KAtIn kn n v x) : KAtIn kn' n v x := by
  cases h with
  | d h => exact .d (h.mono hs)
  | kw => exact .kw
  | ty T => exact .ty T
theorem Atoms.mono {kn kn' : List (Addr × Obj)} (hs : ∀ p ∈ kn, p ∈ kn') {n : Nat} {vs : List Value} {xs : List KA} (h : Atoms kn n vs xs) : Atoms kn' n vs xs := by
  induction h with
  | nil => exact .nil
  | cons a _ ih => exact .cons (a.mono hs) ih
theorem Atoms.things {kn : List (Addr × Obj)} {n : Nat} {vs : List Value} {ds : List PyData} (h : Things kn n vs ds) : Atoms kn n vs (ds.map .d) := by
  induction h with
  | nil => exact .nil
  | cons a _ ih => exact .cons (.d a) ih
theorem Atoms.types {kn : List (Addr × Obj)} {n : Nat} (ds : List PyData) : Atoms kn n (ds.map fun d => .type (tyD d)) (ds.map fun d => .ty (tyD d)) := by
  induction ds with
  | nil => exact .nil
  | cons d ds ih => exact .cons (.ty _) ih
/-- the named ones and their data -/
inductive Named (kn : List (Addr × Obj)) (n : Nat) : List (Str × Value) → List (Str × PyData) → Prop
  | nil : Named kn n [] []
  | cons {x : Str} {v : Value} {d : PyData} {kw : List (Str × Value)} {kd : List (Str × PyData)} : PyData.strOk x = true → TIn kn n v d → Named kn n kw kd → Named kn n ((x, v) :: kw) ((x, d) :: kd)
theorem Named.things {kn : List (Addr × Obj)} {n : Nat} {kw : List (Str × Value)} {kd : List (Str × PyData)} (h : Named kn n kw kd) : Things kn n (kw.map (·.2)) (kd.map (·.2)) := by
  induction h with
  | nil => exact .nil
  | cons _ a _ ih => exact .cons a ih
theorem Named.mono {kn kn' : List (Addr × Obj)} (hs : ∀ p ∈ kn, p ∈ kn') {n : Nat} {kw : List (Str × Value)} {kd : List (Str × PyData)} (h : Named kn n kw kd) : Named kn' n kw kd := by
  induction h with
  | nil => exact .nil
  | cons o a _ ih => exact .cons o (a.mono hs) ih
theorem Named.items {kn kp : List (Addr × Obj)} {n : Nat} {its : List Value} {sk : List (Str × Value)} {sd : List (Str × PyData)} (h : ItemsIn kp its sk) (k : Named kn n sk sd) : Atoms (kp ++ kn) (n + 1) its (sd.map fun p => .d (.tuple [.str p.1, p.2])) := by
  induction h generalizing sd with
  | nil => cases k; exact .nil
  | cons hm _ ih =>
    cases k with
    | cons o a r => exact .cons (.d (.pair (List.mem_append_left _ hm) o (a.mono fun _ h => List.mem_append_right _ h))) (ih r)
def atomsP (ds : List PyData) (sd : List (Str × PyData)) : List KA := ds.map .d ++ (if sd = [] then [] else .kw :: sd.map fun p => .d (.tuple [.str p.1, p.2]))
def atomsT (ds : List PyData) (sd : List (Str × PyData)) : List KA := atomsP ds sd ++ ((sd.map fun p => .ty (tyD p.2)) ++ ds.map fun d => .ty (tyD d))
theorem KwOk.len {kw sk : List (Str × Value)} (h : KwOk kw sk) : kw.length ≤ 2 := by cases h <;> exact Nat.le_of_ble_eq_true rfl
theorem KwOk.nodup {kw sk : List (Str × Value)} (h : KwOk kw sk) : (kw.map (·.1)).Nodup := by
  cases h with
  | nil => exact List.nodup_nil
  | n v => exact List.nodup_cons.mpr ⟨List.not_mem_nil, List.nodup_nil⟩
  | k v => exact List.nodup_cons.mpr ⟨List.not_mem_nil, List.nodup_nil⟩
  | nk v u => exact List.nodup_cons.mpr ⟨fun h => ne_nk (List.mem_singleton.mp h), List.nodup_cons.mpr ⟨List.not_mem_nil, List.nodup_nil⟩⟩
  | kn v u => exact List.nodup_cons.mpr ⟨fun h => ne_kn (List.mem_singleton.mp h), List.nodup_cons.mpr ⟨List.not_mem_nil, List.nodup_nil⟩⟩
section
variable {prog : Program} {w : World} {A : Around} {E : Value → Shared → Prop} {s : Shared} {h₀ : Heap} {L d t b : Addr} {m : Str → Option Value} {news kn : List (Addr × Obj)} {o : Obj} {kw sk : List (Str × Value)} {Q : Value → Shared → Prop} {vs us its : List Value} {n k : Nat}
theorem truthy_kw1 {Q : Bool → Shared → Prop} (N : News h₀ L s.heap news) (hm : (d, o) ∈ news) (hod : o.IsDictOf (strKind prog w) kw) (hsys : (d == sysModules) = false) (hkw : KwOk kw sk) (hne : kw ≠ [])
    (h : Q true { s with toks := s.toks + 1 + 1 }) : wpAny (model prog w) A (truthy (.ref d)) Q E s :=
  truthy_kw N hm hod hsys hkw.len (by cases kw with | nil => exact absurd rfl hne | cons _ _ => exact h)
theorem addT (F : Fr h₀ L s.heap m) (N : News h₀ L s.heap news) (ht : IsTup s.heap t vs.toArray) (hb : IsTup s.heap b us.toArray) (hv : vs ≠ []) (hu : us ≠ []) (hz : vs.length + us.length ≤ 64)
    (h : ∀ D h', Fr h₀ L h' m → News h₀ L h' ((D, tupO (vs ++ us) 0) :: news) → (∀ p ∈ news, p.1 < D) → Q (.ref D) { s with heap := h' }) : wpAny (model prog w) A (binaryOp .Add (.ref t) (.ref b)) Q E s :=
  kde_addT F N ht hb hv hu (by simp; omega) rfl h
theorem no_tuple_iadd : typeLookup (.type "tuple") (dunderI "add") = pure none := by rw [typeLookup_type, builtinLookup_eq_fast]; kernel_rfl
theorem iaddT (F : Fr h₀ L s.heap m) (N : News h₀ L s.heap news) (ht : IsTup s.heap t vs.toArray) (hb : IsTup s.heap b us.toArray) (hv : vs ≠ []) (hu : us ≠ []) (hz : vs.length + us.length ≤ 64)
    (h : ∀ D h', Fr h₀ L h' m → News h₀ L h' ((D, tupO (vs ++ us) 0) :: news) → (∀ p ∈ news, p.1 < D) → Q (.ref D) { s with heap := h' }) : wpAny (model prog w) A (inplaceOp .Add (.ref t) (.ref b)) Q E s := by
  obtain ⟨⟨cls, dd, data, sl⟩, ho, hc, n, hd⟩ := id ht
  obtain ⟨⟨cls2, dd2, data2, sl2⟩, ho2, hc2, n2, hd2⟩ := id hb
  simp only at hc hd hc2 hd2
  subst hc hd hc2 hd2
  have e : vs.toArray ++ us.toArray = (vs ++ us).toArray := by simp
  refine wpAny_inplaceOp_concat ⟨_, ho, rfl⟩ ⟨_, ho2, rfl⟩ no_tuple_iadd noFill_tuple_add seq_tuple_add (call_meets PySem.F.slot_tuple_add ⟨_, ho, rfl⟩ PySem.F.entry_tuple_add (PySem.F.args_tuple_add_2 _ _)
    (tuple_addW2 t b vs.toArray us.toArray n n2 dd dd2 sl sl2 (by simpa using hv) (by simpa using hu) (by rw [List.size_toArray, List.size_toArray, sizeLine_eq]; omega)) ⟨ho, ho2, ?_⟩)
  rw [e]
  exact h _ _ (F.push _) (News.push F N _) fun p hp => Heap.lt_size (N p hp).1
theorem add0 (F : Fr h₀ L s.heap m) (N : News h₀ L s.heap news) (ht : IsTup s.heap t ([] : List Value).toArray) (hb : IsTup s.heap b us.toArray) (hz : us.length ≤ 64)
    (h : Q (.ref b) s) : wpAny (model prog w) A (binaryOp .Add (.ref t) (.ref b)) Q E s :=
  kde_addT0 F N ht hb rfl (by simp; omega) h
theorem addR (F : Fr h₀ L s.heap m) (N : News h₀ L s.heap news) (ht : IsTup s.heap t vs.toArray) (hb : IsTup s.heap b ([] : List Value).toArray) (hv : vs ≠ []) (hz : vs.length ≤ 64)
    (h : Q (.ref t) s) : wpAny (model prog w) A (binaryOp .Add (.ref t) (.ref b)) Q E s :=
  kde_addT1 F N ht hb hv rfl (by simp; omega) h
theorem tupleL {c : Nat} {l : Addr} (F : Fr h₀ L s.heap m) (N : News h₀ L s.heap news) (hl : (l, listOf its.toArray c) ∈ news) (hz : its.length ≤ 64)
    (h : ∀ D h', Fr h₀ L h' m → News h₀ L h' ((D, tupO its 0) :: news) → (∀ p ∈ news, p.1 < D) → Q (.ref D) { s with heap := h' }) : wpAny (model prog w) A (call (.type "tuple") [.ref l]) Q E s :=
  kde_tupleOf F N (N.isList hl) (by simp; omega) rfl h
theorem type_thing {v : Value} {d : PyData} (F : Fr h₀ L s.heap m) (hkn : KnOk kn h₀) (hv : TIn kn n v d) (h : Q (.type (tyD d)) s) : wpAny (model prog w) A (call (.type "type") [v]) Q E s :=
  call_type_of (hv.typeIs (hkn.keeps F.keep)) (tyD_nb d) h
end
section
variable {prog : Program} {w : World} {A : Around} {E : Value → Shared → Prop} {s : Shared} {h₀ : Heap} {L t M TI I : Addr} {m mg mb : Str → Option Value} {env : Env} {news kn kp : List (Addr × Obj)} {K : Frag} {p : Program} {loose : List Str} {mean : ExcName → Option Value} {n k : Nat} {its vs : List Value} {sk : List (Str × Value)} {sd : List (Str × PyData)} {ds : List PyData} {Q : Value → Shared → Prop}
theorem types_compK {p1 p2 p3 px px₂ tp pos : Pos} {tkk} {scope : Scope} {cl : List (Str × Addr)} {iter : PySem.Expr} {x x₂ : Str} (hh : A.handled = none) (F : Fr h₀ L s.heap m) (N : News h₀ L s.heap news) (X : K.In h₀) (T : Top p loose mean mg mb h₀)
    (hclos : closureFor scope env = pure cl) (hcell : ∀ y ∈ scope.names, y.2 ≠ .cell) (hkind : scope.kind = .function)
    (hnames : ∀ y ∈ scope.names, y.2 = .local → scope.names.lookup y.1 = some .local) (hx : scope.names.lookup x = some .local) (hx₂ : scope.names.lookup x₂ = some .local) (hxx : x ≠ x₂) (hd2 : (x₂ == ("__debug__" : Str)) = false)
    (hown : ∀ C, (compEnvC scope cl C env).kindOf x₂ = some .local) (hty : ∀ C, (compEnvC scope cl C env).kindOf (Str.ofString "type") = some .globalImplicit) (hK : nsIn K mainGlobals (Str.ofString "type") = some none) (hg : env.globals = mainGlobals) (hb : env.builtins = builtinsNs)
    (hiter : ∀ Q' : Value → Shared → Prop, Q' (.ref t) s → wpAny (model prog w) A (eval iter env) Q' E s) (hs : ∀ x, foldedSetIterable iter env x = pure x)
    (htm : (t, tupO its k) ∈ news) (hit : ItemsIn kp its sk) (hkp : ∀ p ∈ kp, p ∈ news) (hsd : Named kn n sk sd) (hkn : KnOk kn h₀) (hz : its.length ≤ 2)
    (h : ∀ D h' tk c, Fr h₀ L h' m → News h₀ L h' ((D, listOf (sd.map fun p => Value.type (tyD p.2)).toArray c) :: news) → Off1 D news → Q (.ref D) { s with heap := h', toks := tk }) :
    wpAny (model prog w) A (eval (.ListComp (.Call (.Name (Str.ofString "type") p1) [.Name x₂ p2] [] p3) [⟨.Tuple [.Name x px, .Name x₂ px₂] tkk tp, iter, [], 0⟩] scope pos) env) Q E s := by
  obtain ⟨ps, h1, h2⟩ := (hit.mono hkp).pairs
  refine types_comp (ds := sd.map (·.2)) hh F N X T hclos hcell hkind hnames hx hx₂ hxx hd2 hown hty hK hg hb hiter hs htm h1 (h2 ▸ hsd.things) hkn (by rw [sizeLine_eq]; omega) fun D h' tk F' N' o => h D h' tk (sd.map fun p => Value.type (tyD p.2)).length F' (by rw [List.map_map] at N'; exact N') o
theorem call_mapK {k : Nat} (F : Fr h₀ L s.heap m) (N : News h₀ L s.heap news) (ht : (t, tupO vs k) ∈ news)
    (h : ∀ h' M TI I, M ≠ I → TI ≠ I → (∀ p ∈ news, p.1 ≠ I) → Fr h₀ L h' m → News h₀ L h' ((M, ({ cls := .type "map", data := .fields #[.ref TI, .type "type"] } : Obj)) :: (TI, tupO [.ref I] 0) :: (I, ({ cls := .type "tuple_iterator", data := .fields #[.ref t, .int 0 0] } : Obj)) :: news) → Q (.ref M) { s with heap := h' }) :
    wpAny (model prog w) A (call (.type "map") [.type "type", .ref t]) Q E s :=
  call_map_type F N (N _ ht).1 fun h' F' N' => h h' _ _ _ (show (s.heap.objs.size + 2 : Nat) ≠ s.heap.objs.size by omega) (show (s.heap.objs.size + 1 : Nat) ≠ s.heap.objs.size by omega) (fun p hp => Nat.ne_of_lt (Heap.lt_size (N p hp).1)) F' N'
theorem plainAtoms {tl : List (Addr × Obj)} (hT : Things kn (n + 1) vs ds) (hit : ItemsIn kp its sk) (hie : its ≠ []) (hsd : Named kn n sk sd) (hkp : ∀ p ∈ kp, p ∈ tl) : Atoms (tl ++ kn) (n + 1) (vs ++ [.ref 24] ++ its) (atomsP ds sd) := by
  have hne : sd ≠ [] := by rintro rfl; cases hsd; cases hit; exact hie rfl
  rw [List.append_assoc, atomsP, if_neg hne]
  refine .append ((Atoms.things hT).mono fun p h => List.mem_append_right _ h) (.cons .kw ((Named.items hit hsd).mono fun p h => ?_))
  rcases List.mem_append.mp h with h | h
  · exact List.mem_append_left _ (hkp p h)
  · exact List.mem_append_right _ h
theorem typedAtoms {tl : List (Addr × Obj)} (hT : Things kn (n + 1) vs ds) (hit : ItemsIn kp its sk) (hie : its ≠ []) (hsd : Named kn n sk sd) (hkp : ∀ p ∈ kp, p ∈ tl) :
    Atoms (tl ++ kn) (n + 1) (vs ++ [.ref 24] ++ its ++ (sd.map fun p => .type (tyD p.2)) ++ ds.map fun d => .type (tyD d)) (atomsT ds sd) := by
  have e : (sd.map fun p => Value.type (tyD p.2)) = (sd.map (·.2)).map fun d => .type (tyD d) := by rw [List.map_map]; rfl
  have e2 : (sd.map fun p => KA.ty (tyD p.2)) = (sd.map (·.2)).map fun d => .ty (tyD d) := by rw [List.map_map]; rfl
  rw [atomsT, List.append_assoc, e, e2]
  exact .append (plainAtoms hT hit hie hsd hkp) (.append (.types _) (.types _))
theorem typedAtomsE {tl : List (Addr × Obj)} (hit : ItemsIn kp its sk) (hie : its ≠ []) (hsd : Named kn n sk sd) (hkp : ∀ p ∈ kp, p ∈ tl) :
    Atoms (tl ++ kn) (n + 1) ([.ref 24] ++ its ++ (sd.map fun p => .type (tyD p.2))) (atomsT [] sd) := by
  have h := typedAtoms (vs := []) (ds := []) .nil hit hie hsd hkp
  rwa [List.map_nil, List.append_nil, List.nil_append] at h
theorem plainAtoms0 {tl : List (Addr × Obj)} (hT : Things kn (n + 1) vs ds) : Atoms (tl ++ kn) (n + 1) vs (atomsP ds []) := by
  rw [atomsP, if_pos rfl, List.append_nil]
  exact (Atoms.things hT).mono fun p h => List.mem_append_right _ h
theorem typedAtoms0 {tl : List (Addr × Obj)} (hT : Things kn (n + 1) vs ds) : Atoms (tl ++ kn) (n + 1) (vs ++ ds.map fun d => .type (tyD d)) (atomsT ds []) :=
  .append (plainAtoms0 hT) (.types _)
theorem Named.ne {kw : List (Str × Value)} (h : Named kn n kw sd) (hn : kw ≠ []) : (sd.map fun p => Value.type (tyD p.2)) ≠ [] := by
  cases h with
  | nil => exact absurd rfl hn
  | cons _ _ _ => exact List.cons_ne_nil _ _
theorem KwOk.ne {kw : List (Str × Value)} (h : KwOk kw sk) (hn : kw ≠ []) : sk ≠ [] := by
  cases h with
  | nil => exact absurd rfl hn
  | n _ => exact List.cons_ne_nil _ _
  | k _ => exact List.cons_ne_nil _ _
  | nk _ _ => exact List.cons_ne_nil _ _
  | kn _ _ => exact List.cons_ne_nil _ _
theorem Named.len {kw : List (Str × Value)} (h : Named kn n kw sd) : kw.length = sd.length := by
  induction h with
  | nil => rfl
  | cons _ _ _ ih => simp [ih]
theorem KwOk.slen {kw : List (Str × Value)} (h : KwOk kw sk) : sk.length ≤ 2 := by cases h <;> exact Nat.le_of_ble_eq_true rfl
end
local macro_rules | `(tactic| walk_at "binaryOp Add ref ref") => `(tactic| (k_here; k_dflt (first | (refine' add0 ?F ?N ?t ?b ?z ?_; (case F => k_asm); (case N => k_asm); (case t => kun_tup); (case b => kun_tup); (case z => (simp only [List.length_map, List.length_append, List.length_cons, List.length_nil]; omega)); k_whole) | (refine' addT ?F ?N ?t ?b ?v ?u ?z ?_; (case F => k_asm); (case N => k_asm); (case t => kun_tup); (case b => kun_tup); (case v => first | exact List.cons_ne_nil _ _ | assumption | (simp; done)); (case u => first | exact List.cons_ne_nil _ _ | assumption | (simp; done)); (case z => (simp only [List.length_map, List.length_append, List.length_cons, List.length_nil]; omega)); k_whole; intro D' h' F' N' l1; (try k_lt l1); (try k_sweep)) | (refine' addR ?F ?N ?t ?b ?v ?z ?_; (case F => k_asm); (case N => k_asm); (case t => kun_tup); (case b => kun_tup); (case v => first | exact List.cons_ne_nil _ _ | (simp; done)); (case z => (simp only [List.length_map, List.length_append, List.length_cons, List.length_nil]; omega)); k_whole))))
theorem wordsF2w_1 : True := by
  k_with_none
  k_with "truthy ref" => (k_here; (with_reducible show wpAny _ _ (truthy (Value.ref _)) _ _ _); k_dflt (first | (refine' truthy_kw1 (by k_asm) (by k_mem) (by assumption) (by assumption) (by assumption) (by assumption) ?_; k_whole) | (refine' truthy_kw (by k_asm) (by k_mem) (by assumption) (by assumption) (by exact Nat.le_of_ble_eq_true rfl) ?_; k_whole)); (try dsimp only [List.isEmpty_nil, List.isEmpty_cons, Bool.not_true, Bool.not_false]))
  k_with "call builtin:sorted" => (k_here; (with_reducible show wpAny _ _ (call (Value.builtin _) [Value.ref _]) _ _ _); k_dflt (first | (refine' sorted_items (by k_asm) (by exact rfl) (by k_asm) (by k_asm) (by assumption) (by assumption) (by assumption) ?_; k_whole) | (refine' sorted_items3 (by k_asm) (by exact rfl) (by k_asm) (by k_asm) (by assumption) (by assumption) (by assumption) ?_; k_whole)); intro D' its P1 P2 i1 i2 c' h' tk' F' N' hz hie hit; (try k_sweep))
  k_with "call type:tuple" => (k_here; (with_reducible show wpAny _ _ (call (Value.type _) [Value.ref _]) _ _ _); k_dflt (refine' tupleL (by k_asm) (by k_asm) (by k_mem) (by (simp only [List.length_map]; omega)) ?_; k_whole); intro D' h' F' N' l1; (try k_lt l1); (try k_sweep))
  k_with "inplaceOp Add ref" => (k_here; k_dflt (refine' iaddT (by k_asm) (by k_asm) (by kun_tup) (by kun_tup) (by first | exact List.cons_ne_nil _ _ | assumption | (simp; done)) (by first | exact List.cons_ne_nil _ _ | assumption | (simp; done)) (by (simp only [List.length_map, List.length_append, List.length_cons, List.length_nil]; omega)) ?_; k_whole; intro D' h' F' N' l1; (try k_lt l1); (try k_sweep)))
  k_with "eval ListComp" => (k_here; k_dflt (refine' types_compK (by exact rfl) (by k_asm) (by k_asm) (by k_asm) (by k_asm) (by exact rfl) (by decide) (by exact rfl) (by decide) (by exact rfl) (by exact rfl) (by decide) (by decide) (by exact fun _ => rfl) (by exact fun _ => rfl) (by k_is) (by exact rfl) (by exact rfl) (by (intro Q' hQ; k_steps; exact hQ)) (by exact fun _ => rfl) (by k_mem) (by assumption) (by (intro p hp; simp only [List.mem_cons, List.not_mem_nil, or_false] at hp ⊢; rcases hp with h | h <;> simp only [h, true_or, or_true])) (by assumption) (by assumption) (by assumption) ?_; k_whole); intro D' h' tk' c' F' N' l1; (try k_sweep))
  k_with "call type:map" => (k_here; k_dflt (refine' call_mapK (by k_asm) (by k_asm) (by k_mem) ?_; k_whole); intro h' M' TI' I' hMI hTI hnI F' N'; (try k_sweep))
  k_with "call type:tuple" => (k_here; k_dflt (refine' tuple_of_map (by exact rfl) (by k_asm) (by k_asm) (by assumption) (by assumption) (by assumption) (by k_mem) (by assumption) (by assumption) (by first | assumption | exact Nat.zero_le _) ?_; k_whole); intro D' h' tk' F' N' l1; (try k_lt l1); (try k_sweep))
  trivial
section
variable {w : World} {p : Program} {loose : List Str} {mean : ExcName → Option Value} {mg mb : Str → Option Value}
  {dp un : Nat} {gd : Option (List Code)} {cn : Str} {cs : Scope} {a : Addr} {ccd : Value} {cl : List (Str × Addr)} {outer : List Env} {A₀ : Around} {base h₀ : Heap} {L : Addr} {m : Str → Option Value} {s : Shared} {Q E : Value → Shared → Prop}
variable {kn : List (Addr × Obj)} {n : Nat} {kw sk : List (Str × Value)} {sd : List (Str × PyData)} {v0 self : Value} {d0 : PyData} {vs : List Value} {ds : List PyData}
set_option maxHeartbeats 2000000 in
theorem hash_o_e  (B : Below A₀ base outer h₀) (F : Fr h₀ L s.heap m) (X : (hd.heap_39 w.params).In h₀) (T : Top p loose mean mg mb h₀) (hk : cs.kind = .function) (hd : dp + 16 < recursionLimit) (hu : un + 260 < cLine) (hkn : KnOk kn s.heap)  
  (hret : ∀ D its h' tk' tl, Grew s.heap h' tl → (D, tupO its 0) ∈ tl → Atoms (tl ++ kn) (n + 1) its (atomsP [] []) → Q (.ref D) { s with heap := h', toks := tk' }) :
  wpAny (model PySem.Challenge.rw_ki0001_01.row.prog w) (ktrTop dp un gd cn cs L a ccd cl outer) (call (.ref 35) [] []) Q E s := by
  have hT : Things kn (n + 1) [] [] := .nil
  have hvs : ([] : List Value).length ≤ sizeLine := Nat.zero_le _
  revert X; k_fill; intro X
  refine wpAny_call ?_
  (refine' enterS0 ?k1 ?k2 ?k3 ?k5 ?kA ?kF ?kK ?k6 ?k7 ?k8 ?kv ?kn ?kt ?kp ?kd ?kB ?_ ?c2 ?c3 ?c4 ?c5; (case kA => exact rfl); (case kF => exact rfl); (case kK => assumption); (case k1 => k_asm); (case k2 => k_asm); (case k3 => k_asm); (case k5 => k_asm); (case k6 => k_is); (case k7 => k_is); (case k8 => ktr_room); (case kv => assumption); (case kn => first | assumption | exact List.nodup_nil | exact List.nodup_cons.mpr ⟨List.not_mem_nil, List.nodup_nil⟩ | exact List.nodup_cons.mpr ⟨(fun h => ne_nk (List.mem_singleton.mp h)), List.nodup_cons.mpr ⟨List.not_mem_nil, List.nodup_nil⟩⟩ | exact List.nodup_cons.mpr ⟨(fun h => ne_kn (List.mem_singleton.mp h)), List.nodup_cons.mpr ⟨List.not_mem_nil, List.nodup_nil⟩⟩); (case kt => first | assumption | exact Nat.le_of_ble_eq_true rfl); (case kp => exact rfl); (case kd => exact rfl); (case c5 => decide); (case kB => exact fun C D => locs rfl); (case c2 => exact rfl); (case c3 => exact rfl); (case c4 => exact rfl); k_whole; intro L' h' C' D' o' lCD hsys hod F' N' B' X' T'; (try dsimp only); (try k_lift B'); (try k_fold))
  k_steps
  all_goals (rename Fr _ _ _ _ => G')
  all_goals (rename News _ _ _ _ => M')
  all_goals exact hret _ _ _ _ _ (grew_of G' M') (by k_mem) (plainAtoms0 hT)
set_option maxHeartbeats 2000000 in
theorem hash_o_c (hvs : (v0 :: vs).length ≤ sizeLine) (hvl : (v0 :: vs).length ≤ 8) (B : Below A₀ base outer h₀) (F : Fr h₀ L s.heap m) (X : (hd.heap_39 w.params).In h₀) (T : Top p loose mean mg mb h₀) (hk : cs.kind = .function) (hd : dp + 16 < recursionLimit) (hu : un + 260 < cLine) (hkn : KnOk kn s.heap)  (hT : Things kn (n + 1) (v0 :: vs) (d0 :: ds))
  (hret : ∀ D its h' tk' tl, Grew s.heap h' tl → (D, tupO its 0) ∈ tl → Atoms (tl ++ kn) (n + 1) its (atomsP (d0 :: ds) []) → Q (.ref D) { s with heap := h', toks := tk' }) :
  wpAny (model PySem.Challenge.rw_ki0001_01.row.prog w) (ktrTop dp un gd cn cs L a ccd cl outer) (call (.ref 35) (v0 :: vs) []) Q E s := by
  have hvl' : vs.length + 1 ≤ 8 := hvl
  have hdl : ds.length + 1 = vs.length + 1 := hT.length.symm
  revert X; k_fill; intro X
  refine wpAny_call ?_
  (refine' enterS0 ?k1 ?k2 ?k3 ?k5 ?kA ?kF ?kK ?k6 ?k7 ?k8 ?kv ?kn ?kt ?kp ?kd ?kB ?_ ?c2 ?c3 ?c4 ?c5; (case kA => exact rfl); (case kF => exact rfl); (case kK => assumption); (case k1 => k_asm); (case k2 => k_asm); (case k3 => k_asm); (case k5 => k_asm); (case k6 => k_is); (case k7 => k_is); (case k8 => ktr_room); (case kv => assumption); (case kn => first | assumption | exact List.nodup_nil | exact List.nodup_cons.mpr ⟨List.not_mem_nil, List.nodup_nil⟩ | exact List.nodup_cons.mpr ⟨(fun h => ne_nk (List.mem_singleton.mp h)), List.nodup_cons.mpr ⟨List.not_mem_nil, List.nodup_nil⟩⟩ | exact List.nodup_cons.mpr ⟨(fun h => ne_kn (List.mem_singleton.mp h)), List.nodup_cons.mpr ⟨List.not_mem_nil, List.nodup_nil⟩⟩); (case kt => first | assumption | exact Nat.le_of_ble_eq_true rfl); (case kp => exact rfl); (case kd => exact rfl); (case c5 => decide); (case kB => exact fun C D => locs rfl); (case c2 => exact rfl); (case c3 => exact rfl); (case c4 => exact rfl); k_whole; intro L' h' C' D' o' lCD hsys hod F' N' B' X' T'; (try dsimp only); (try k_lift B'); (try k_fold))
  k_steps
  all_goals (rename Fr _ _ _ _ => G')
  all_goals (rename News _ _ _ _ => M')
  all_goals exact hret _ _ _ _ _ (grew_of G' M') (by k_mem) (plainAtoms0 hT)
set_option maxHeartbeats 2000000 in
theorem hash_k_e  (B : Below A₀ base outer h₀) (F : Fr h₀ L s.heap m) (X : (hd.heap_39 w.params).In h₀) (T : Top p loose mean mg mb h₀) (hk : cs.kind = .function) (hd : dp + 16 < recursionLimit) (hu : un + 260 < cLine) (hkn : KnOk kn s.heap) (hkw : KwOk kw sk) (hne : kw ≠ []) (hsd : Named kn n sk sd) 
  (hret : ∀ D its h' tk' tl, Grew s.heap h' tl → (D, tupO its 0) ∈ tl → Atoms (tl ++ kn) (n + 1) its (atomsP [] sd) → Q (.ref D) { s with heap := h', toks := tk' }) :
  wpAny (model PySem.Challenge.rw_ki0001_01.row.prog w) (ktrTop dp un gd cn cs L a ccd cl outer) (call (.ref 35) [] kw) Q E s := by
  have hT : Things kn (n + 1) [] [] := .nil
  have hvs : ([] : List Value).length ≤ sizeLine := Nat.zero_le _
  have hnd := hkw.nodup
  have hk2 := hkw.len
  have hsn := hsd.ne (hkw.ne hne)
  have hsl := hkw.slen
  have hsl2 := hsd.len
  revert X; k_fill; intro X
  refine wpAny_call ?_
  (refine' enterS0 ?k1 ?k2 ?k3 ?k5 ?kA ?kF ?kK ?k6 ?k7 ?k8 ?kv ?kn ?kt ?kp ?kd ?kB ?_ ?c2 ?c3 ?c4 ?c5; (case kA => exact rfl); (case kF => exact rfl); (case kK => assumption); (case k1 => k_asm); (case k2 => k_asm); (case k3 => k_asm); (case k5 => k_asm); (case k6 => k_is); (case k7 => k_is); (case k8 => ktr_room); (case kv => assumption); (case kn => first | assumption | exact List.nodup_nil | exact List.nodup_cons.mpr ⟨List.not_mem_nil, List.nodup_nil⟩ | exact List.nodup_cons.mpr ⟨(fun h => ne_nk (List.mem_singleton.mp h)), List.nodup_cons.mpr ⟨List.not_mem_nil, List.nodup_nil⟩⟩ | exact List.nodup_cons.mpr ⟨(fun h => ne_kn (List.mem_singleton.mp h)), List.nodup_cons.mpr ⟨List.not_mem_nil, List.nodup_nil⟩⟩); (case kt => first | assumption | exact Nat.le_of_ble_eq_true rfl); (case kp => exact rfl); (case kd => exact rfl); (case c5 => decide); (case kB => exact fun C D => locs rfl); (case c2 => exact rfl); (case c3 => exact rfl); (case c4 => exact rfl); k_whole; intro L' h' C' D' o' lCD hsys hod F' N' B' X' T'; (try dsimp only); (try k_lift B'); (try k_fold))
  k_steps
  all_goals (rename Fr _ _ _ _ => G')
  all_goals (rename News _ _ _ _ => M')
  all_goals exact hret _ _ _ _ _ (grew_of G' M') (by k_mem) (plainAtoms hT (by assumption) (by assumption) hsd (by intro p hp; simp only [List.mem_cons, List.not_mem_nil, or_false] at hp ⊢; rcases hp with h | h <;> simp only [h, true_or, or_true]))
set_option maxHeartbeats 2000000 in
theorem hash_k_c (hvs : (v0 :: vs).length ≤ sizeLine) (hvl : (v0 :: vs).length ≤ 8) (B : Below A₀ base outer h₀) (F : Fr h₀ L s.heap m) (X : (hd.heap_39 w.params).In h₀) (T : Top p loose mean mg mb h₀) (hk : cs.kind = .function) (hd : dp + 16 < recursionLimit) (hu : un + 260 < cLine) (hkn : KnOk kn s.heap) (hkw : KwOk kw sk) (hne : kw ≠ []) (hsd : Named kn n sk sd) (hT : Things kn (n + 1) (v0 :: vs) (d0 :: ds))
  (hret : ∀ D its h' tk' tl, Grew s.heap h' tl → (D, tupO its 0) ∈ tl → Atoms (tl ++ kn) (n + 1) its (atomsP (d0 :: ds) sd) → Q (.ref D) { s with heap := h', toks := tk' }) :
  wpAny (model PySem.Challenge.rw_ki0001_01.row.prog w) (ktrTop dp un gd cn cs L a ccd cl outer) (call (.ref 35) (v0 :: vs) kw) Q E s := by
  have hvl' : vs.length + 1 ≤ 8 := hvl
  have hdl : ds.length + 1 = vs.length + 1 := hT.length.symm
  have hnd := hkw.nodup
  have hk2 := hkw.len
  have hsn := hsd.ne (hkw.ne hne)
  have hsl := hkw.slen
  have hsl2 := hsd.len
  revert X; k_fill; intro X
  refine wpAny_call ?_
  (refine' enterS0 ?k1 ?k2 ?k3 ?k5 ?kA ?kF ?kK ?k6 ?k7 ?k8 ?kv ?kn ?kt ?kp ?kd ?kB ?_ ?c2 ?c3 ?c4 ?c5; (case kA => exact rfl); (case kF => exact rfl); (case kK => assumption); (case k1 => k_asm); (case k2 => k_asm); (case k3 => k_asm); (case k5 => k_asm); (case k6 => k_is); (case k7 => k_is); (case k8 => ktr_room); (case kv => assumption); (case kn => first | assumption | exact List.nodup_nil | exact List.nodup_cons.mpr ⟨List.not_mem_nil, List.nodup_nil⟩ | exact List.nodup_cons.mpr ⟨(fun h => ne_nk (List.mem_singleton.mp h)), List.nodup_cons.mpr ⟨List.not_mem_nil, List.nodup_nil⟩⟩ | exact List.nodup_cons.mpr ⟨(fun h => ne_kn (List.mem_singleton.mp h)), List.nodup_cons.mpr ⟨List.not_mem_nil, List.nodup_nil⟩⟩); (case kt => first | assumption | exact Nat.le_of_ble_eq_true rfl); (case kp => exact rfl); (case kd => exact rfl); (case c5 => decide); (case kB => exact fun C D => locs rfl); (case c2 => exact rfl); (case c3 => exact rfl); (case c4 => exact rfl); k_whole; intro L' h' C' D' o' lCD hsys hod F' N' B' X' T'; (try dsimp only); (try k_lift B'); (try k_fold))
  k_steps
  all_goals (rename Fr _ _ _ _ => G')
  all_goals (rename News _ _ _ _ => M')
  all_goals exact hret _ _ _ _ _ (grew_of G' M') (by k_mem) (plainAtoms hT (by assumption) (by assumption) hsd (by intro p hp; simp only [List.mem_cons, List.not_mem_nil, or_false] at hp ⊢; rcases hp with h | h <;> simp only [h, true_or, or_true]))
set_option maxHeartbeats 2000000 in
theorem meth_o_e  (B : Below A₀ base outer h₀) (F : Fr h₀ L s.heap m) (X : (hd.heap_39 w.params).In h₀) (T : Top p loose mean mg mb h₀) (hk : cs.kind = .function) (hd : dp + 16 < recursionLimit) (hu : un + 260 < cLine) (hkn : KnOk kn s.heap)  
  (hret : ∀ D its h' tk' tl, Grew s.heap h' tl → (D, tupO its 0) ∈ tl → Atoms (tl ++ kn) (n + 1) its (atomsP [] []) → Q (.ref D) { s with heap := h', toks := tk' }) :
  wpAny (model PySem.Challenge.rw_ki0001_01.row.prog w) (ktrTop dp un gd cn cs L a ccd cl outer) (call (.ref 42) (self :: []) []) Q E s := by
  have hT : Things kn (n + 1) [] [] := .nil
  have hvs : ([] : List Value).length ≤ sizeLine := Nat.zero_le _
  revert X; k_fill; intro X
  refine wpAny_call ?_
  (refine' enterS1 ?k1 ?k2 ?k3 ?k5 ?kA ?kF ?kK ?k6 ?k7 ?k8 ?kv ?kn ?kt ?kp ?kd ?kB ?_ ?c2 ?c3 ?c4 ?c5; (case kA => exact rfl); (case kF => exact rfl); (case kK => assumption); (case k1 => k_asm); (case k2 => k_asm); (case k3 => k_asm); (case k5 => k_asm); (case k6 => k_is); (case k7 => k_is); (case k8 => ktr_room); (case kv => assumption); (case kn => first | assumption | exact List.nodup_nil | exact List.nodup_cons.mpr ⟨List.not_mem_nil, List.nodup_nil⟩ | exact List.nodup_cons.mpr ⟨(fun h => ne_nk (List.mem_singleton.mp h)), List.nodup_cons.mpr ⟨List.not_mem_nil, List.nodup_nil⟩⟩ | exact List.nodup_cons.mpr ⟨(fun h => ne_kn (List.mem_singleton.mp h)), List.nodup_cons.mpr ⟨List.not_mem_nil, List.nodup_nil⟩⟩); (case kt => first | assumption | exact Nat.le_of_ble_eq_true rfl); (case kp => exact rfl); (case kd => exact rfl); (case c5 => decide); (case kB => exact fun C D => locs rfl); (case c2 => exact rfl); (case c3 => exact rfl); (case c4 => exact rfl); k_whole; intro L' h' C' D' o' lCD hsys hod F' N' B' X' T'; (try dsimp only); (try k_lift B'); (try k_fold))
  k_steps
  all_goals (rename Fr _ _ _ _ => G')
  all_goals (rename News _ _ _ _ => M')
  all_goals exact hret _ _ _ _ _ (grew_of G' M') (by k_mem) (plainAtoms0 hT)
set_option maxHeartbeats 2000000 in
theorem meth_o_c (hvs : (v0 :: vs).length ≤ sizeLine) (hvl : (v0 :: vs).length ≤ 8) (B : Below A₀ base outer h₀) (F : Fr h₀ L s.heap m) (X : (hd.heap_39 w.params).In h₀) (T : Top p loose mean mg mb h₀) (hk : cs.kind = .function) (hd : dp + 16 < recursionLimit) (hu : un + 260 < cLine) (hkn : KnOk kn s.heap)  (hT : Things kn (n + 1) (v0 :: vs) (d0 :: ds))
  (hret : ∀ D its h' tk' tl, Grew s.heap h' tl → (D, tupO its 0) ∈ tl → Atoms (tl ++ kn) (n + 1) its (atomsP (d0 :: ds) []) → Q (.ref D) { s with heap := h', toks := tk' }) :
  wpAny (model PySem.Challenge.rw_ki0001_01.row.prog w) (ktrTop dp un gd cn cs L a ccd cl outer) (call (.ref 42) (self :: (v0 :: vs)) []) Q E s := by
  have hvl' : vs.length + 1 ≤ 8 := hvl
  have hdl : ds.length + 1 = vs.length + 1 := hT.length.symm
  revert X; k_fill; intro X
  refine wpAny_call ?_
  (refine' enterS1 ?k1 ?k2 ?k3 ?k5 ?kA ?kF ?kK ?k6 ?k7 ?k8 ?kv ?kn ?kt ?kp ?kd ?kB ?_ ?c2 ?c3 ?c4 ?c5; (case kA => exact rfl); (case kF => exact rfl); (case kK => assumption); (case k1 => k_asm); (case k2 => k_asm); (case k3 => k_asm); (case k5 => k_asm); (case k6 => k_is); (case k7 => k_is); (case k8 => ktr_room); (case kv => assumption); (case kn => first | assumption | exact List.nodup_nil | exact List.nodup_cons.mpr ⟨List.not_mem_nil, List.nodup_nil⟩ | exact List.nodup_cons.mpr ⟨(fun h => ne_nk (List.mem_singleton.mp h)), List.nodup_cons.mpr ⟨List.not_mem_nil, List.nodup_nil⟩⟩ | exact List.nodup_cons.mpr ⟨(fun h => ne_kn (List.mem_singleton.mp h)), List.nodup_cons.mpr ⟨List.not_mem_nil, List.nodup_nil⟩⟩); (case kt => first | assumption | exact Nat.le_of_ble_eq_true rfl); (case kp => exact rfl); (case kd => exact rfl); (case c5 => decide); (case kB => exact fun C D => locs rfl); (case c2 => exact rfl); (case c3 => exact rfl); (case c4 => exact rfl); k_whole; intro L' h' C' D' o' lCD hsys hod F' N' B' X' T'; (try dsimp only); (try k_lift B'); (try k_fold))
  k_steps
  all_goals (rename Fr _ _ _ _ => G')
  all_goals (rename News _ _ _ _ => M')
  all_goals exact hret _ _ _ _ _ (grew_of G' M') (by k_mem) (plainAtoms0 hT)
set_option maxHeartbeats 2000000 in
theorem meth_k_e  (B : Below A₀ base outer h₀) (F : Fr h₀ L s.heap m) (X : (hd.heap_39 w.params).In h₀) (T : Top p loose mean mg mb h₀) (hk : cs.kind = .function) (hd : dp + 16 < recursionLimit) (hu : un + 260 < cLine) (hkn : KnOk kn s.heap) (hkw : KwOk kw sk) (hne : kw ≠ []) (hsd : Named kn n sk sd) 
  (hret : ∀ D its h' tk' tl, Grew s.heap h' tl → (D, tupO its 0) ∈ tl → Atoms (tl ++ kn) (n + 1) its (atomsP [] sd) → Q (.ref D) { s with heap := h', toks := tk' }) :
  wpAny (model PySem.Challenge.rw_ki0001_01.row.prog w) (ktrTop dp un gd cn cs L a ccd cl outer) (call (.ref 42) (self :: []) kw) Q E s := by
  have hT : Things kn (n + 1) [] [] := .nil
  have hvs : ([] : List Value).length ≤ sizeLine := Nat.zero_le _
  have hnd := hkw.nodup
  have hk2 := hkw.len
  have hsn := hsd.ne (hkw.ne hne)
  have hsl := hkw.slen
  have hsl2 := hsd.len
  revert X; k_fill; intro X
  refine wpAny_call ?_
  (refine' enterS1 ?k1 ?k2 ?k3 ?k5 ?kA ?kF ?kK ?k6 ?k7 ?k8 ?kv ?kn ?kt ?kp ?kd ?kB ?_ ?c2 ?c3 ?c4 ?c5; (case kA => exact rfl); (case kF => exact rfl); (case kK => assumption); (case k1 => k_asm); (case k2 => k_asm); (case k3 => k_asm); (case k5 => k_asm); (case k6 => k_is); (case k7 => k_is); (case k8 => ktr_room); (case kv => assumption); (case kn => first | assumption | exact List.nodup_nil | exact List.nodup_cons.mpr ⟨List.not_mem_nil, List.nodup_nil⟩ | exact List.nodup_cons.mpr ⟨(fun h => ne_nk (List.mem_singleton.mp h)), List.nodup_cons.mpr ⟨List.not_mem_nil, List.nodup_nil⟩⟩ | exact List.nodup_cons.mpr ⟨(fun h => ne_kn (List.mem_singleton.mp h)), List.nodup_cons.mpr ⟨List.not_mem_nil, List.nodup_nil⟩⟩); (case kt => first | assumption | exact Nat.le_of_ble_eq_true rfl); (case kp => exact rfl); (case kd => exact rfl); (case c5 => decide); (case kB => exact fun C D => locs rfl); (case c2 => exact rfl); (case c3 => exact rfl); (case c4 => exact rfl); k_whole; intro L' h' C' D' o' lCD hsys hod F' N' B' X' T'; (try dsimp only); (try k_lift B'); (try k_fold))
  k_steps
  all_goals (rename Fr _ _ _ _ => G')
  all_goals (rename News _ _ _ _ => M')
  all_goals exact hret _ _ _ _ _ (grew_of G' M') (by k_mem) (plainAtoms hT (by assumption) (by assumption) hsd (by intro p hp; simp only [List.mem_cons, List.not_mem_nil, or_false] at hp ⊢; rcases hp with h | h <;> simp only [h, true_or, or_true]))
set_option maxHeartbeats 2000000 in
theorem meth_k_c (hvs : (v0 :: vs).length ≤ sizeLine) (hvl : (v0 :: vs).length ≤ 8) (B : Below A₀ base outer h₀) (F : Fr h₀ L s.heap m) (X : (hd.heap_39 w.params).In h₀) (T : Top p loose mean mg mb h₀) (hk : cs.kind = .function) (hd : dp + 16 < recursionLimit) (hu : un + 260 < cLine) (hkn : KnOk kn s.heap) (hkw : KwOk kw sk) (hne : kw ≠ []) (hsd : Named kn n sk sd) (hT : Things kn (n + 1) (v0 :: vs) (d0 :: ds))
  (hret : ∀ D its h' tk' tl, Grew s.heap h' tl → (D, tupO its 0) ∈ tl → Atoms (tl ++ kn) (n + 1) its (atomsP (d0 :: ds) sd) → Q (.ref D) { s with heap := h', toks := tk' }) :
  wpAny (model PySem.Challenge.rw_ki0001_01.row.prog w) (ktrTop dp un gd cn cs L a ccd cl outer) (call (.ref 42) (self :: (v0 :: vs)) kw) Q E s := by
  have hvl' : vs.length + 1 ≤ 8 := hvl
  have hdl : ds.length + 1 = vs.length + 1 := hT.length.symm
  have hnd := hkw.nodup
  have hk2 := hkw.len
  have hsn := hsd.ne (hkw.ne hne)
  have hsl := hkw.slen
  have hsl2 := hsd.len
  revert X; k_fill; intro X
  refine wpAny_call ?_
  (refine' enterS1 ?k1 ?k2 ?k3 ?k5 ?kA ?kF ?kK ?k6 ?k7 ?k8 ?kv ?kn ?kt ?kp ?kd ?kB ?_ ?c2 ?c3 ?c4 ?c5; (case kA => exact rfl); (case kF => exact rfl); (case kK => assumption); (case k1 => k_asm); (case k2 => k_asm); (case k3 => k_asm); (case k5 => k_asm); (case k6 => k_is); (case k7 => k_is); (case k8 => ktr_room); (case kv => assumption); (case kn => first | assumption | exact List.nodup_nil | exact List.nodup_cons.mpr ⟨List.not_mem_nil, List.nodup_nil⟩ | exact List.nodup_cons.mpr ⟨(fun h => ne_nk (List.mem_singleton.mp h)), List.nodup_cons.mpr ⟨List.not_mem_nil, List.nodup_nil⟩⟩ | exact List.nodup_cons.mpr ⟨(fun h => ne_kn (List.mem_singleton.mp h)), List.nodup_cons.mpr ⟨List.not_mem_nil, List.nodup_nil⟩⟩); (case kt => first | assumption | exact Nat.le_of_ble_eq_true rfl); (case kp => exact rfl); (case kd => exact rfl); (case c5 => decide); (case kB => exact fun C D => locs rfl); (case c2 => exact rfl); (case c3 => exact rfl); (case c4 => exact rfl); k_whole; intro L' h' C' D' o' lCD hsys hod F' N' B' X' T'; (try dsimp only); (try k_lift B'); (try k_fold))
  k_steps
  all_goals (rename Fr _ _ _ _ => G')
  all_goals (rename News _ _ _ _ => M')
  all_goals exact hret _ _ _ _ _ (grew_of G' M') (by k_mem) (plainAtoms hT (by assumption) (by assumption) hsd (by intro p hp; simp only [List.mem_cons, List.not_mem_nil, or_false] at hp ⊢; rcases hp with h | h <;> simp only [h, true_or, or_true]))
set_option maxHeartbeats 2000000 in
theorem typed_o_e  (B : Below A₀ base outer h₀) (F : Fr h₀ L s.heap m) (X : (hd.heap_39 w.params).In h₀) (T : Top p loose mean mg mb h₀) (hk : cs.kind = .function) (hd : dp + 16 < recursionLimit) (hu : un + 260 < cLine) (hkn : KnOk kn s.heap)  
  (hret : ∀ D its h' tk' tl, Grew s.heap h' tl → (D, tupO its 0) ∈ tl → Atoms (tl ++ kn) (n + 1) its (atomsT [] []) → Q (.ref D) { s with heap := h', toks := tk' }) :
  wpAny (model PySem.Challenge.rw_ki0001_01.row.prog w) (ktrTop dp un gd cn cs L a ccd cl outer) (call (.ref 47) [] []) Q E s := by
  have hT : Things kn (n + 1) [] [] := .nil
  have hvs : ([] : List Value).length ≤ sizeLine := Nat.zero_le _
  revert X; k_fill; intro X
  refine wpAny_call ?_
  (refine' enterS0 ?k1 ?k2 ?k3 ?k5 ?kA ?kF ?kK ?k6 ?k7 ?k8 ?kv ?kn ?kt ?kp ?kd ?kB ?_ ?c2 ?c3 ?c4 ?c5; (case kA => exact rfl); (case kF => exact rfl); (case kK => assumption); (case k1 => k_asm); (case k2 => k_asm); (case k3 => k_asm); (case k5 => k_asm); (case k6 => k_is); (case k7 => k_is); (case k8 => ktr_room); (case kv => assumption); (case kn => first | assumption | exact List.nodup_nil | exact List.nodup_cons.mpr ⟨List.not_mem_nil, List.nodup_nil⟩ | exact List.nodup_cons.mpr ⟨(fun h => ne_nk (List.mem_singleton.mp h)), List.nodup_cons.mpr ⟨List.not_mem_nil, List.nodup_nil⟩⟩ | exact List.nodup_cons.mpr ⟨(fun h => ne_kn (List.mem_singleton.mp h)), List.nodup_cons.mpr ⟨List.not_mem_nil, List.nodup_nil⟩⟩); (case kt => first | assumption | exact Nat.le_of_ble_eq_true rfl); (case kp => exact rfl); (case kd => exact rfl); (case c5 => decide); (case kB => exact fun C D => locs rfl); (case c2 => exact rfl); (case c3 => exact rfl); (case c4 => exact rfl); k_whole; intro L' h' C' D' o' lCD hsys hod F' N' B' X' T'; (try dsimp only); (try k_lift B'); (try k_fold))
  k_steps
  all_goals (rename Fr _ _ _ _ => G')
  all_goals (rename News _ _ _ _ => M')
  all_goals exact hret _ _ _ _ _ (grew_of G' M') (by k_mem) (typedAtoms0 hT)
set_option maxHeartbeats 2000000 in
theorem typed_o_c (hvs : (v0 :: vs).length ≤ sizeLine) (hvl : (v0 :: vs).length ≤ 8) (B : Below A₀ base outer h₀) (F : Fr h₀ L s.heap m) (X : (hd.heap_39 w.params).In h₀) (T : Top p loose mean mg mb h₀) (hk : cs.kind = .function) (hd : dp + 16 < recursionLimit) (hu : un + 260 < cLine) (hkn : KnOk kn s.heap)  (hT : Things kn (n + 1) (v0 :: vs) (d0 :: ds))
  (hret : ∀ D its h' tk' tl, Grew s.heap h' tl → (D, tupO its 0) ∈ tl → Atoms (tl ++ kn) (n + 1) its (atomsT (d0 :: ds) []) → Q (.ref D) { s with heap := h', toks := tk' }) :
  wpAny (model PySem.Challenge.rw_ki0001_01.row.prog w) (ktrTop dp un gd cn cs L a ccd cl outer) (call (.ref 47) (v0 :: vs) []) Q E s := by
  have hvl' : vs.length + 1 ≤ 8 := hvl
  have hdl : ds.length + 1 = vs.length + 1 := hT.length.symm
  revert X; k_fill; intro X
  refine wpAny_call ?_
  (refine' enterS0 ?k1 ?k2 ?k3 ?k5 ?kA ?kF ?kK ?k6 ?k7 ?k8 ?kv ?kn ?kt ?kp ?kd ?kB ?_ ?c2 ?c3 ?c4 ?c5; (case kA => exact rfl); (case kF => exact rfl); (case kK => assumption); (case k1 => k_asm); (case k2 => k_asm); (case k3 => k_asm); (case k5 => k_asm); (case k6 => k_is); (case k7 => k_is); (case k8 => ktr_room); (case kv => assumption); (case kn => first | assumption | exact List.nodup_nil | exact List.nodup_cons.mpr ⟨List.not_mem_nil, List.nodup_nil⟩ | exact List.nodup_cons.mpr ⟨(fun h => ne_nk (List.mem_singleton.mp h)), List.nodup_cons.mpr ⟨List.not_mem_nil, List.nodup_nil⟩⟩ | exact List.nodup_cons.mpr ⟨(fun h => ne_kn (List.mem_singleton.mp h)), List.nodup_cons.mpr ⟨List.not_mem_nil, List.nodup_nil⟩⟩); (case kt => first | assumption | exact Nat.le_of_ble_eq_true rfl); (case kp => exact rfl); (case kd => exact rfl); (case c5 => decide); (case kB => exact fun C D => locs rfl); (case c2 => exact rfl); (case c3 => exact rfl); (case c4 => exact rfl); k_whole; intro L' h' C' D' o' lCD hsys hod F' N' B' X' T'; (try dsimp only); (try k_lift B'); (try k_fold))
  k_steps
  all_goals (rename Fr _ _ _ _ => G')
  all_goals (rename News _ _ _ _ => M')
  all_goals exact hret _ _ _ _ _ (grew_of G' M') (by k_mem) (typedAtoms0 hT)
set_option maxHeartbeats 2000000 in
theorem typed_k_e  (B : Below A₀ base outer h₀) (F : Fr h₀ L s.heap m) (X : (hd.heap_39 w.params).In h₀) (T : Top p loose mean mg mb h₀) (hk : cs.kind = .function) (hd : dp + 16 < recursionLimit) (hu : un + 260 < cLine) (hkn : KnOk kn s.heap) (hkw : KwOk kw sk) (hne : kw ≠ []) (hsd : Named kn n sk sd) 
  (hret : ∀ D its h' tk' tl, Grew s.heap h' tl → (D, tupO its 0) ∈ tl → Atoms (tl ++ kn) (n + 1) its (atomsT [] sd) → Q (.ref D) { s with heap := h', toks := tk' }) :
  wpAny (model PySem.Challenge.rw_ki0001_01.row.prog w) (ktrTop dp un gd cn cs L a ccd cl outer) (call (.ref 47) [] kw) Q E s := by
  have hT : Things kn (n + 1) [] [] := .nil
  have hvs : ([] : List Value).length ≤ sizeLine := Nat.zero_le _
  have hnd := hkw.nodup
  have hk2 := hkw.len
  have hsn := hsd.ne (hkw.ne hne)
  have hsl := hkw.slen
  have hsl2 := hsd.len
  revert X; k_fill; intro X
  refine wpAny_call ?_
  (refine' enterS0 ?k1 ?k2 ?k3 ?k5 ?kA ?kF ?kK ?k6 ?k7 ?k8 ?kv ?kn ?kt ?kp ?kd ?kB ?_ ?c2 ?c3 ?c4 ?c5; (case kA => exact rfl); (case kF => exact rfl); (case kK => assumption); (case k1 => k_asm); (case k2 => k_asm); (case k3 => k_asm); (case k5 => k_asm); (case k6 => k_is); (case k7 => k_is); (case k8 => ktr_room); (case kv => assumption); (case kn => first | assumption | exact List.nodup_nil | exact List.nodup_cons.mpr ⟨List.not_mem_nil, List.nodup_nil⟩ | exact List.nodup_cons.mpr ⟨(fun h => ne_nk (List.mem_singleton.mp h)), List.nodup_cons.mpr ⟨List.not_mem_nil, List.nodup_nil⟩⟩ | exact List.nodup_cons.mpr ⟨(fun h => ne_kn (List.mem_singleton.mp h)), List.nodup_cons.mpr ⟨List.not_mem_nil, List.nodup_nil⟩⟩); (case kt => first | assumption | exact Nat.le_of_ble_eq_true rfl); (case kp => exact rfl); (case kd => exact rfl); (case c5 => decide); (case kB => exact fun C D => locs rfl); (case c2 => exact rfl); (case c3 => exact rfl); (case c4 => exact rfl); k_whole; intro L' h' C' D' o' lCD hsys hod F' N' B' X' T'; (try dsimp only); (try k_lift B'); (try k_fold))
  k_steps
  all_goals (rename Fr _ _ _ _ => G')
  all_goals (rename News _ _ _ _ => M')
  all_goals exact hret _ _ _ _ _ (grew_of G' M') (by k_mem) (typedAtomsE (by assumption) (by assumption) hsd (by intro p hp; simp only [List.mem_cons, List.not_mem_nil, or_false] at hp ⊢; rcases hp with h | h <;> simp only [h, true_or, or_true]))
set_option maxHeartbeats 2000000 in
theorem typed_k_c (hvs : (v0 :: vs).length ≤ sizeLine) (hvl : (v0 :: vs).length ≤ 8) (B : Below A₀ base outer h₀) (F : Fr h₀ L s.heap m) (X : (hd.heap_39 w.params).In h₀) (T : Top p loose mean mg mb h₀) (hk : cs.kind = .function) (hd : dp + 16 < recursionLimit) (hu : un + 260 < cLine) (hkn : KnOk kn s.heap) (hkw : KwOk kw sk) (hne : kw ≠ []) (hsd : Named kn n sk sd) (hT : Things kn (n + 1) (v0 :: vs) (d0 :: ds))
  (hret : ∀ D its h' tk' tl, Grew s.heap h' tl → (D, tupO its 0) ∈ tl → Atoms (tl ++ kn) (n + 1) its (atomsT (d0 :: ds) sd) → Q (.ref D) { s with heap := h', toks := tk' }) :
  wpAny (model PySem.Challenge.rw_ki0001_01.row.prog w) (ktrTop dp un gd cn cs L a ccd cl outer) (call (.ref 47) (v0 :: vs) kw) Q E s := by
  have hvl' : vs.length + 1 ≤ 8 := hvl
  have hdl : ds.length + 1 = vs.length + 1 := hT.length.symm
  have hnd := hkw.nodup
  have hk2 := hkw.len
  have hsn := hsd.ne (hkw.ne hne)
  have hsl := hkw.slen
  have hsl2 := hsd.len
  revert X; k_fill; intro X
  refine wpAny_call ?_
  (refine' enterS0 ?k1 ?k2 ?k3 ?k5 ?kA ?kF ?kK ?k6 ?k7 ?k8 ?kv ?kn ?kt ?kp ?kd ?kB ?_ ?c2 ?c3 ?c4 ?c5; (case kA => exact rfl); (case kF => exact rfl); (case kK => assumption); (case k1 => k_asm); (case k2 => k_asm); (case k3 => k_asm); (case k5 => k_asm); (case k6 => k_is); (case k7 => k_is); (case k8 => ktr_room); (case kv => assumption); (case kn => first | assumption | exact List.nodup_nil | exact List.nodup_cons.mpr ⟨List.not_mem_nil, List.nodup_nil⟩ | exact List.nodup_cons.mpr ⟨(fun h => ne_nk (List.mem_singleton.mp h)), List.nodup_cons.mpr ⟨List.not_mem_nil, List.nodup_nil⟩⟩ | exact List.nodup_cons.mpr ⟨(fun h => ne_kn (List.mem_singleton.mp h)), List.nodup_cons.mpr ⟨List.not_mem_nil, List.nodup_nil⟩⟩); (case kt => first | assumption | exact Nat.le_of_ble_eq_true rfl); (case kp => exact rfl); (case kd => exact rfl); (case c5 => decide); (case kB => exact fun C D => locs rfl); (case c2 => exact rfl); (case c3 => exact rfl); (case c4 => exact rfl); k_whole; intro L' h' C' D' o' lCD hsys hod F' N' B' X' T'; (try dsimp only); (try k_lift B'); (try k_fold))
  k_steps
  all_goals (rename Fr _ _ _ _ => G')
  all_goals (rename News _ _ _ _ => M')
  all_goals exact hret _ _ _ _ _ (grew_of G' M') (by k_mem) (typedAtoms hT (by assumption) (by assumption) hsd (by intro p hp; simp only [List.mem_cons, List.not_mem_nil, or_false] at hp ⊢; rcases hp with h | h <;> simp only [h, true_or, or_true]))
set_option maxHeartbeats 2000000 in
theorem tmeth_o_e  (B : Below A₀ base outer h₀) (F : Fr h₀ L s.heap m) (X : (hd.heap_39 w.params).In h₀) (T : Top p loose mean mg mb h₀) (hk : cs.kind = .function) (hd : dp + 16 < recursionLimit) (hu : un + 260 < cLine) (hkn : KnOk kn s.heap)  
  (hret : ∀ D its h' tk' tl, Grew s.heap h' tl → (D, tupO its 0) ∈ tl → Atoms (tl ++ kn) (n + 1) its (atomsT [] []) → Q (.ref D) { s with heap := h', toks := tk' }) :
  wpAny (model PySem.Challenge.rw_ki0001_01.row.prog w) (ktrTop dp un gd cn cs L a ccd cl outer) (call (.ref 52) (self :: []) []) Q E s := by
  have hT : Things kn (n + 1) [] [] := .nil
  have hvs : ([] : List Value).length ≤ sizeLine := Nat.zero_le _
  revert X; k_fill; intro X
  refine wpAny_call ?_
  (refine' enterS1 ?k1 ?k2 ?k3 ?k5 ?kA ?kF ?kK ?k6 ?k7 ?k8 ?kv ?kn ?kt ?kp ?kd ?kB ?_ ?c2 ?c3 ?c4 ?c5; (case kA => exact rfl); (case kF => exact rfl); (case kK => assumption); (case k1 => k_asm); (case k2 => k_asm); (case k3 => k_asm); (case k5 => k_asm); (case k6 => k_is); (case k7 => k_is); (case k8 => ktr_room); (case kv => assumption); (case kn => first | assumption | exact List.nodup_nil | exact List.nodup_cons.mpr ⟨List.not_mem_nil, List.nodup_nil⟩ | exact List.nodup_cons.mpr ⟨(fun h => ne_nk (List.mem_singleton.mp h)), List.nodup_cons.mpr ⟨List.not_mem_nil, List.nodup_nil⟩⟩ | exact List.nodup_cons.mpr ⟨(fun h => ne_kn (List.mem_singleton.mp h)), List.nodup_cons.mpr ⟨List.not_mem_nil, List.nodup_nil⟩⟩); (case kt => first | assumption | exact Nat.le_of_ble_eq_true rfl); (case kp => exact rfl); (case kd => exact rfl); (case c5 => decide); (case kB => exact fun C D => locs rfl); (case c2 => exact rfl); (case c3 => exact rfl); (case c4 => exact rfl); k_whole; intro L' h' C' D' o' lCD hsys hod F' N' B' X' T'; (try dsimp only); (try k_lift B'); (try k_fold))
  k_steps
  all_goals (rename Fr _ _ _ _ => G')
  all_goals (rename News _ _ _ _ => M')
  all_goals exact hret _ _ _ _ _ (grew_of G' M') (by k_mem) (typedAtoms0 hT)
set_option maxHeartbeats 2000000 in
theorem tmeth_o_c (hvs : (v0 :: vs).length ≤ sizeLine) (hvl : (v0 :: vs).length ≤ 8) (B : Below A₀ base outer h₀) (F : Fr h₀ L s.heap m) (X : (hd.heap_39 w.params).In h₀) (T : Top p loose mean mg mb h₀) (hk : cs.kind = .function) (hd : dp + 16 < recursionLimit) (hu : un + 260 < cLine) (hkn : KnOk kn s.heap)  (hT : Things kn (n + 1) (v0 :: vs) (d0 :: ds))
  (hret : ∀ D its h' tk' tl, Grew s.heap h' tl → (D, tupO its 0) ∈ tl → Atoms (tl ++ kn) (n + 1) its (atomsT (d0 :: ds) []) → Q (.ref D) { s with heap := h', toks := tk' }) :
  wpAny (model PySem.Challenge.rw_ki0001_01.row.prog w) (ktrTop dp un gd cn cs L a ccd cl outer) (call (.ref 52) (self :: (v0 :: vs)) []) Q E s := by
  have hvl' : vs.length + 1 ≤ 8 := hvl
  have hdl : ds.length + 1 = vs.length + 1 := hT.length.symm
  revert X; k_fill; intro X
  refine wpAny_call ?_
  (refine' enterS1 ?k1 ?k2 ?k3 ?k5 ?kA ?kF ?kK ?k6 ?k7 ?k8 ?kv ?kn ?kt ?kp ?kd ?kB ?_ ?c2 ?c3 ?c4 ?c5; (case kA => exact rfl); (case kF => exact rfl); (case kK => assumption); (case k1 => k_asm); (case k2 => k_asm); (case k3 => k_asm); (case k5 => k_asm); (case k6 => k_is); (case k7 => k_is); (case k8 => ktr_room); (case kv => assumption); (case kn => first | assumption | exact List.nodup_nil | exact List.nodup_cons.mpr ⟨List.not_mem_nil, List.nodup_nil⟩ | exact List.nodup_cons.mpr ⟨(fun h => ne_nk (List.mem_singleton.mp h)), List.nodup_cons.mpr ⟨List.not_mem_nil, List.nodup_nil⟩⟩ | exact List.nodup_cons.mpr ⟨(fun h => ne_kn (List.mem_singleton.mp h)), List.nodup_cons.mpr ⟨List.not_mem_nil, List.nodup_nil⟩⟩); (case kt => first | assumption | exact Nat.le_of_ble_eq_true rfl); (case kp => exact rfl); (case kd => exact rfl); (case c5 => decide); (case kB => exact fun C D => locs rfl); (case c2 => exact rfl); (case c3 => exact rfl); (case c4 => exact rfl); k_whole; intro L' h' C' D' o' lCD hsys hod F' N' B' X' T'; (try dsimp only); (try k_lift B'); (try k_fold))
  k_steps
  all_goals (rename Fr _ _ _ _ => G')
  all_goals (rename News _ _ _ _ => M')
  all_goals exact hret _ _ _ _ _ (grew_of G' M') (by k_mem) (typedAtoms0 hT)
set_option maxHeartbeats 2000000 in
theorem tmeth_k_e  (B : Below A₀ base outer h₀) (F : Fr h₀ L s.heap m) (X : (hd.heap_39 w.params).In h₀) (T : Top p loose mean mg mb h₀) (hk : cs.kind = .function) (hd : dp + 16 < recursionLimit) (hu : un + 260 < cLine) (hkn : KnOk kn s.heap) (hkw : KwOk kw sk) (hne : kw ≠ []) (hsd : Named kn n sk sd) 
  (hret : ∀ D its h' tk' tl, Grew s.heap h' tl → (D, tupO its 0) ∈ tl → Atoms (tl ++ kn) (n + 1) its (atomsT [] sd) → Q (.ref D) { s with heap := h', toks := tk' }) :
  wpAny (model PySem.Challenge.rw_ki0001_01.row.prog w) (ktrTop dp un gd cn cs L a ccd cl outer) (call (.ref 52) (self :: []) kw) Q E s := by
  have hT : Things kn (n + 1) [] [] := .nil
  have hvs : ([] : List Value).length ≤ sizeLine := Nat.zero_le _
  have hnd := hkw.nodup
  have hk2 := hkw.len
  have hsn := hsd.ne (hkw.ne hne)
  have hsl := hkw.slen
  have hsl2 := hsd.len
  revert X; k_fill; intro X
  refine wpAny_call ?_
  (refine' enterS1 ?k1 ?k2 ?k3 ?k5 ?kA ?kF ?kK ?k6 ?k7 ?k8 ?kv ?kn ?kt ?kp ?kd ?kB ?_ ?c2 ?c3 ?c4 ?c5; (case kA => exact rfl); (case kF => exact rfl); (case kK => assumption); (case k1 => k_asm); (case k2 => k_asm); (case k3 => k_asm); (case k5 => k_asm); (case k6 => k_is); (case k7 => k_is); (case k8 => ktr_room); (case kv => assumption); (case kn => first | assumption | exact List.nodup_nil | exact List.nodup_cons.mpr ⟨List.not_mem_nil, List.nodup_nil⟩ | exact List.nodup_cons.mpr ⟨(fun h => ne_nk (List.mem_singleton.mp h)), List.nodup_cons.mpr ⟨List.not_mem_nil, List.nodup_nil⟩⟩ | exact List.nodup_cons.mpr ⟨(fun h => ne_kn (List.mem_singleton.mp h)), List.nodup_cons.mpr ⟨List.not_mem_nil, List.nodup_nil⟩⟩); (case kt => first | assumption | exact Nat.le_of_ble_eq_true rfl); (case kp => exact rfl); (case kd => exact rfl); (case c5 => decide); (case kB => exact fun C D => locs rfl); (case c2 => exact rfl); (case c3 => exact rfl); (case c4 => exact rfl); k_whole; intro L' h' C' D' o' lCD hsys hod F' N' B' X' T'; (try dsimp only); (try k_lift B'); (try k_fold))
  k_steps
  all_goals (rename Fr _ _ _ _ => G')
  all_goals (rename News _ _ _ _ => M')
  all_goals exact hret _ _ _ _ _ (grew_of G' M') (by k_mem) (typedAtomsE (by assumption) (by assumption) hsd (by intro p hp; simp only [List.mem_cons, List.not_mem_nil, or_false] at hp ⊢; rcases hp with h | h <;> simp only [h, true_or, or_true]))
set_option maxHeartbeats 2000000 in
theorem tmeth_k_c (hvs : (v0 :: vs).length ≤ sizeLine) (hvl : (v0 :: vs).length ≤ 8) (B : Below A₀ base outer h₀) (F : Fr h₀ L s.heap m) (X : (hd.heap_39 w.params).In h₀) (T : Top p loose mean mg mb h₀) (hk : cs.kind = .function) (hd : dp + 16 < recursionLimit) (hu : un + 260 < cLine) (hkn : KnOk kn s.heap) (hkw : KwOk kw sk) (hne : kw ≠ []) (hsd : Named kn n sk sd) (hT : Things kn (n + 1) (v0 :: vs) (d0 :: ds))
  (hret : ∀ D its h' tk' tl, Grew s.heap h' tl → (D, tupO its 0) ∈ tl → Atoms (tl ++ kn) (n + 1) its (atomsT (d0 :: ds) sd) → Q (.ref D) { s with heap := h', toks := tk' }) :
  wpAny (model PySem.Challenge.rw_ki0001_01.row.prog w) (ktrTop dp un gd cn cs L a ccd cl outer) (call (.ref 52) (self :: (v0 :: vs)) kw) Q E s := by
  have hvl' : vs.length + 1 ≤ 8 := hvl
  have hdl : ds.length + 1 = vs.length + 1 := hT.length.symm
  have hnd := hkw.nodup
  have hk2 := hkw.len
  have hsn := hsd.ne (hkw.ne hne)
  have hsl := hkw.slen
  have hsl2 := hsd.len
  revert X; k_fill; intro X
  refine wpAny_call ?_
  (refine' enterS1 ?k1 ?k2 ?k3 ?k5 ?kA ?kF ?kK ?k6 ?k7 ?k8 ?kv ?kn ?kt ?kp ?kd ?kB ?_ ?c2 ?c3 ?c4 ?c5; (case kA => exact rfl); (case kF => exact rfl); (case kK => assumption); (case k1 => k_asm); (case k2 => k_asm); (case k3 => k_asm); (case k5 => k_asm); (case k6 => k_is); (case k7 => k_is); (case k8 => ktr_room); (case kv => assumption); (case kn => first | assumption | exact List.nodup_nil | exact List.nodup_cons.mpr ⟨List.not_mem_nil, List.nodup_nil⟩ | exact List.nodup_cons.mpr ⟨(fun h => ne_nk (List.mem_singleton.mp h)), List.nodup_cons.mpr ⟨List.not_mem_nil, List.nodup_nil⟩⟩ | exact List.nodup_cons.mpr ⟨(fun h => ne_kn (List.mem_singleton.mp h)), List.nodup_cons.mpr ⟨List.not_mem_nil, List.nodup_nil⟩⟩); (case kt => first | assumption | exact Nat.le_of_ble_eq_true rfl); (case kp => exact rfl); (case kd => exact rfl); (case c5 => decide); (case kB => exact fun C D => locs rfl); (case c2 => exact rfl); (case c3 => exact rfl); (case c4 => exact rfl); k_whole; intro L' h' C' D' o' lCD hsys hod F' N' B' X' T'; (try dsimp only); (try k_lift B'); (try k_fold))
  k_steps
  all_goals (rename Fr _ _ _ _ => G')
  all_goals (rename News _ _ _ _ => M')
  all_goals exact hret _ _ _ _ _ (grew_of G' M') (by k_mem) (typedAtoms hT (by assumption) (by assumption) hsd (by intro p hp; simp only [List.mem_cons, List.not_mem_nil, or_false] at hp ⊢; rcases hp with h | h <;> simp only [h, true_or, or_true]))
end
end Mine
theorem Mine.wordsF2_off : True := by
  k_with_none
  trivial
end

-- part G1
section
open PySem PySem.W PyProof.Rows
set_option Elab.async false
set_option maxRecDepth 100000
set_option linter.unusedVariables false
namespace Mine
open PySem.SeqAt PySem.MeetsSeq PySem.AutoSeq1 PySem.TypeEq

theorem sub_type_bool : isSubtype (.type "type") (.type "bool") = pure false := by rw [isSubtype_type]; kernel_rfl
theorem sub_type_int : isSubtype (.type "type") (.type "int") = pure false := by rw [isSubtype_type]; kernel_rfl
theorem sub_type_str : isSubtype (.type "type") (.type "str") = pure false := by rw [isSubtype_type]; kernel_rfl
theorem sub_type_tuple : isSubtype (.type "type") (.type "tuple") = pure false := by rw [isSubtype_type]; kernel_rfl
theorem sub_bool_type : isSubtype (.type "bool") (.type "type") = pure false := by rw [isSubtype_type]; kernel_rfl
theorem sub_int_type : isSubtype (.type "int") (.type "type") = pure false := by rw [isSubtype_type]; kernel_rfl
theorem sub_str_type : isSubtype (.type "str") (.type "type") = pure false := by rw [isSubtype_type]; kernel_rfl
theorem sub_tuple_type : isSubtype (.type "tuple") (.type "type") = pure false := by rw [isSubtype_type]; kernel_rfl

theorem int_eq_bool_type (b : Bool) (X : String) : Gives (Builtin.«int.__eq__» ⟨[.bool b, .type X], []⟩) (.val (Value.notImplemented)) :=
  .of_wp fun M A E s Q h => by obtain ⟨hp, g, d, tk, os⟩ := s; wp_walk; exact ⟨_, rfl, h⟩
theorem int_eq_int_type (b : Int) (u : Tok) (X : String) : Gives (Builtin.«int.__eq__» ⟨[.int b u, .type X], []⟩) (.val (Value.notImplemented)) :=
  .of_wp fun M A E s Q h => by obtain ⟨hp, g, d, tk, os⟩ := s; wp_walk; exact ⟨_, rfl, h⟩
theorem str_eq_str_type (b : Str) (u : Tok) (X : String) : Gives (Builtin.«str.__eq__» ⟨[.str b u, .type X], []⟩) (.val (Value.notImplemented)) :=
  .of_wp fun M A E s Q h => by obtain ⟨hp, g, d, tk, os⟩ := s; wp_walk; exact ⟨_, rfl, h⟩
theorem int_eq_bool_cls (b : Bool) (l : Addr) (c : ClassData) (dd : Option Addr) (sl : Array (Option Value)) :
    Meets (Builtin.«int.__eq__» ⟨[.bool b, .ref l], []⟩) (fun _ R s => s.heap.get? l = some { cls := .type "type", dict := dd, data := .cls c, slots := sl } ∧ R (.ok (.ret .notImplemented)) s) :=
  .of_wp fun prog w A R s h => by obtain ⟨hp, g, d, tk, os⟩ := s; obtain ⟨hl, h⟩ := h; wp_walk using wpAny_loadPart' hl, wpAny_load hl; exact ⟨_, rfl, h⟩
theorem int_eq_int_cls (b : Int) (u : Tok) (l : Addr) (c : ClassData) (dd : Option Addr) (sl : Array (Option Value)) :
    Meets (Builtin.«int.__eq__» ⟨[.int b u, .ref l], []⟩) (fun _ R s => s.heap.get? l = some { cls := .type "type", dict := dd, data := .cls c, slots := sl } ∧ R (.ok (.ret .notImplemented)) s) :=
  .of_wp fun prog w A R s h => by obtain ⟨hp, g, d, tk, os⟩ := s; obtain ⟨hl, h⟩ := h; wp_walk using wpAny_loadPart' hl, wpAny_load hl; exact ⟨_, rfl, h⟩
theorem str_eq_str_cls (b : Str) (u : Tok) (l : Addr) (c : ClassData) (dd : Option Addr) (sl : Array (Option Value)) :
    Meets (Builtin.«str.__eq__» ⟨[.str b u, .ref l], []⟩) (fun _ R s => s.heap.get? l = some { cls := .type "type", dict := dd, data := .cls c, slots := sl } ∧ R (.ok (.ret .notImplemented)) s) :=
  .of_wp fun prog w A R s h => by obtain ⟨hp, g, d, tk, os⟩ := s; obtain ⟨hl, h⟩ := h; wp_walk using wpAny_loadPart' hl, wpAny_load hl; exact ⟨_, rfl, h⟩
theorem tuple_eq_type (l : Addr) (items : Array Value) (n : Nat) (dd : Option Addr) (sl : Array (Option Value)) (X : String) (hX : ∀ s : Shared, s.TypeIs (.type X) "type") :
    Meets (Builtin.«tuple.__eq__» ⟨[.ref l, .type X], []⟩) (fun _ R s => s.heap.get? l = some { cls := .type "tuple", dict := dd, data := .seq items n, slots := sl } ∧ R (.ok (.ret .notImplemented)) s) :=
  .of_wp fun prog w A R s h => by obtain ⟨hp, g, d, tk, os⟩ := s; obtain ⟨hl, h⟩ := h; have f1 := sub_type_tuple; wp_walk using wpAny_loadPart' hl, wpAny_typeOf (hX _); exact ⟨_, rfl, h⟩
theorem tuple_eq_cls (l b : Addr) (items : Array Value) (n : Nat) (dd : Option Addr) (sl : Array (Option Value)) (c : ClassData) (dd2 : Option Addr) (sl2 : Array (Option Value)) :
    Meets (Builtin.«tuple.__eq__» ⟨[.ref l, .ref b], []⟩) (fun _ R s => s.heap.get? l = some { cls := .type "tuple", dict := dd, data := .seq items n, slots := sl } ∧ s.heap.get? b = some { cls := .type "type", dict := dd2, data := .cls c, slots := sl2 } ∧ R (.ok (.ret .notImplemented)) s) :=
  .of_wp fun prog w A R s h => by obtain ⟨hp, g, d, tk, os⟩ := s; obtain ⟨hl, hb, h⟩ := h; have f1 := sub_type_tuple; wp_walk using wpAny_loadPart' hl, wpAny_loadPart' hb, wpAny_load hb; exact ⟨_, rfl, h⟩
end Mine
end

-- part G2
section
open PySem PySem.W PyProof.Rows
set_option Elab.async false
set_option maxRecDepth 100000
set_option linter.unusedVariables false
namespace Mine
open PySem.SeqAt PySem.MeetsSeq PySem.AutoSeq1 PySem.TypeEq

theorem obj_eq_cls_tup (l b : Addr) (items : Array Value) (n : Nat) (dd : Option Addr) (sl : Array (Option Value)) (c : ClassData) (dd2 : Option Addr) (sl2 : Array (Option Value)) (hlb : l ≠ b) :
    Meets (Builtin.«object.__eq__» ⟨[.ref b, .ref l], []⟩) (fun _ R s => s.heap.get? l = some { cls := .type "tuple", dict := dd, data := .seq items n, slots := sl } ∧ s.heap.get? b = some { cls := .type "type", dict := dd2, data := .cls c, slots := sl2 } ∧ R (.ok (.ret .notImplemented)) s) :=
  .of_wp fun prog w A R s h => by
    obtain ⟨hl, hb, h⟩ := h
    show wpAny _ _ (isSame (.ref b) (.ref l) >>= fun r => if r = true then _ else _) _ _ s
    refine wpAny_bind ?_
    show wpAny _ _ (if (b == l) = true then pure true else _) _ _ _
    rw [if_neg (by simpa using Ne.symm hlb)]
    refine wpAny_bind (wpAny_load hb (wpAny_bind (wpAny_load hl ?_)))
    refine wpAny_pure ?_
    exact wpAny_pure ⟨_, rfl, h⟩

section
variable {A : Around} {s : Shared}
theorem rc_same_decline {M : Model} {E : Value → Shared → Prop} {a b : Value} {T id id2 : String} {k : Bool} {Q : Value → Shared → Prop} (ha : s.TypeIs a T) (hb : s.TypeIs b T)
    (h1 : Slot T (cmpInfo .Eq).2.1 id) (h2 : Slot T (cmpInfo .Eq).2.2 id2)
    (hc1 : ∀ Q' : Value → Shared → Prop, Q' .notImplemented s → wpAny M A (call (.builtin id) [a, b]) Q' E s)
    (hc2 : ∀ Q' : Value → Shared → Prop, Q' .notImplemented s → wpAny M A (call (.builtin id2) [b, a]) Q' E s)
    (hk : ∀ Q' : Bool → Shared → Prop, Q' k s → wpAny M A (isSame a b) Q' E s)
    (hr : [a, b].any Value.onHeap = false ∨ A.units < cLine) (h : Q (.bool k) s) : wpAny M A (richCompare .Eq a b) Q E s := by
  rcases hi : cmpInfo CmpOp.Eq with ⟨sym, f, r⟩
  rw [hi] at h1 h2
  simp only [richCompare, hi, ha.oneThing_none]
  try with_reducible refine wpAny_holding ?_
  refine wpAny_bind (wpAny_cRoomFor_or hr ?_)
  refine wpAny_bind (wpAny_typeOf ha (wpAny_bind (wpAny_typeOf hb ?_)))
  simp only [bne_self_eq_false, Bool.false_eq_true, if_false, pure_bind, Bool.not_false, if_true]
  refine wpAny_bind (m := tryCompare a _ b) (wpAny_tryCompare_declines ha h1 (hc1 _ ⟨rfl, ?_⟩))
  refine wpAny_bind (m := tryCompare b _ a) (wpAny_tryCompare_declines hb h2 (hc2 _ ⟨rfl, ?_⟩))
  exact wpAny_bind (wpAny_rule (wpAny_bind (hk _ (wpAny_pure h))))
theorem eqAt_of_rc {a b : Value} {k : Bool} (hf : ∀ x t, a ≠ .float x t) (hne : a ≠ b) (h : RcAt A s a b k) : EqAt A s a b k := fun prog w E Q hq => by
  unfold eqBool
  refine wpAny_holding ?_
  refine wpAny_ite_split (fun hab => absurd (eq_of_beq hab) hne) (fun _ => ?_)
  cases a with
  | float x t => exact absurd rfl (hf x t)
  | _ => exact wpAny_bind (h prog w E _ (wpAny_truthy_bool hq))

/-- a type, built in or the class that parts places from names -/
def Tyish (s : Shared) (x : Value) : Prop :=
  (∃ X, x = .type X ∧ ∀ s' : Shared, s'.TypeIs (.type X) "type") ∨ (x = .ref 24 ∧ ∃ dd c sl, s.heap.get? 24 = some { cls := .type "type", dict := dd, data := .cls c, slots := sl })
theorem Tyish.typeIs {x : Value} (h : Tyish s x) : s.TypeIs x "type" := by
  rcases h with ⟨X, rfl, h⟩ | ⟨rfl, dd, c, sl, h⟩
  · exact h s
  · exact ⟨_, h, rfl⟩
/-- bool, int, str or a tuple -/
inductive Datum (s : Shared) : Value → String → String → Prop
  | bool (b : Bool) : Datum s (.bool b) "bool" "int.__eq__"
  | int (i : Int) (t : Tok) : Datum s (.int i t) "int" "int.__eq__"
  | str (x : Str) (t : Tok) : Datum s (.str x t) "str" "str.__eq__"
  | tup (l : Addr) (items : Array Value) (n : Nat) (dd : Option Addr) (sl : Array (Option Value)) : s.heap.get? l = some { cls := .type "tuple", dict := dd, data := .seq items n, slots := sl } → Datum s (.ref l) "tuple" "tuple.__eq__"
theorem Datum.typeIs {v : Value} {T id : String} (h : Datum s v T id) : s.TypeIs v T := by
  cases h with
  | bool b => rfl
  | int i t => exact typeIs_int s i t
  | str x t => exact typeIs_str s x t
  | tup l items n dd sl h => exact ⟨_, h, rfl⟩
theorem datum_decl {v x : Value} {T id : String} (h : Datum s v T id) (hx : Tyish s x) {prog : Program} {w : World} {E : Value → Shared → Prop} (Q : Value → Shared → Prop) (hq : Q .notImplemented s) : wpAny (model prog w) A (call (.builtin id) [v, x]) Q E s := by
  cases h with
  | bool b =>
    rcases hx with ⟨X, rfl, hX⟩ | ⟨rfl, dd, c, sl, hc⟩
    · exact call_gives F.slot_bool_eq rfl F.entry_int_eq (F.args_int_eq_2 _ _) (int_eq_bool_type b X) hq
    · exact call_meets F.slot_bool_eq rfl F.entry_int_eq (F.args_int_eq_2 _ _) (int_eq_bool_cls b 24 c dd sl) ⟨hc, hq⟩
  | int i t =>
    rcases hx with ⟨X, rfl, hX⟩ | ⟨rfl, dd, c, sl, hc⟩
    · exact call_gives F.slot_int_eq (typeIs_int s i t) F.entry_int_eq (F.args_int_eq_2 _ _) (int_eq_int_type i t X) hq
    · exact call_meets F.slot_int_eq (typeIs_int s i t) F.entry_int_eq (F.args_int_eq_2 _ _) (int_eq_int_cls i t 24 c dd sl) ⟨hc, hq⟩
  | str y t =>
    rcases hx with ⟨X, rfl, hX⟩ | ⟨rfl, dd, c, sl, hc⟩
    · exact call_gives F.slot_str_eq (typeIs_str s y t) F.entry_str_eq (F.args_str_eq_2 _ _) (str_eq_str_type y t X) hq
    · exact call_meets F.slot_str_eq (typeIs_str s y t) F.entry_str_eq (F.args_str_eq_2 _ _) (str_eq_str_cls y t 24 c dd sl) ⟨hc, hq⟩
  | tup l items n dd1 sl1 hl =>
    rcases hx with ⟨X, rfl, hX⟩ | ⟨rfl, dd, c, sl, hc⟩
    · exact call_meets F.slot_tuple_eq ⟨_, hl, rfl⟩ F.entry_tuple_eq (F.args_tuple_eq_2 _ _) (tuple_eq_type l items n dd1 sl1 X hX) ⟨hl, hq⟩
    · exact call_meets F.slot_tuple_eq ⟨_, hl, rfl⟩ F.entry_tuple_eq (F.args_tuple_eq_2 _ _) (tuple_eq_cls l 24 items n dd1 sl1 c dd sl) ⟨hl, hc, hq⟩
theorem ty_decl {v x : Value} {T id : String} (h : Datum s v T id) (hx : Tyish s x) {prog : Program} {w : World} {E : Value → Shared → Prop} (Q : Value → Shared → Prop) (hq : Q .notImplemented s) : wpAny (model prog w) A (call (.builtin "object.__eq__") [x, v]) Q E s := by
  have pl : plainIs x v = true → (x == v) = false → wpAny (model prog w) A (call (.builtin "object.__eq__") [x, v]) Q E s := fun hp hk =>
    call_gives slot_type_eq hx.typeIs F.entry_object_eq (F.args_object_eq_2 _ _) (object_eq_other hp hk) hq
  rcases hx with ⟨X, rfl, hX⟩ | ⟨rfl, dd, c, sl, hc⟩
  · cases h <;> exact pl rfl (by simp)
  · cases h with
    | bool b => exact pl rfl (by simp)
    | int i t => exact pl rfl (by simp)
    | str y t => exact pl rfl (by simp)
    | tup l items n dd1 sl1 hl =>
      have hlb : l ≠ 24 := fun e => by rw [e, hc] at hl; simp at hl
      exact call_meets slot_type_eq ⟨_, hc, rfl⟩ F.entry_object_eq (F.args_object_eq_2 _ _) (obj_eq_cls_tup l 24 items n dd1 sl1 c dd sl hlb) ⟨hl, hc, hq⟩
theorem datum_ne {v x : Value} {T id : String} (h : Datum s v T id) (hx : Tyish s x) : v ≠ x := by
  rcases hx with ⟨X, rfl, hX⟩ | ⟨rfl, dd, c, sl, hc⟩
  · cases h <;> nofun
  · cases h with
    | bool b => nofun
    | int i t => nofun
    | str y t => nofun
    | tup l items n dd1 sl1 hl => exact fun e => by cases e; rw [hc] at hl; simp at hl
theorem datum_same {v x : Value} {T id : String} (h : Datum s v T id) (hx : Tyish s x) {M : Model} {E : Value → Shared → Prop} (Q : Bool → Shared → Prop) (hq : Q false s) : wpAny M A (isSame v x) Q E s ∧ wpAny M A (isSame x v) Q E s := by
  rcases hx with ⟨X, rfl, hX⟩ | ⟨rfl, dd, c, sl, hc⟩
  · cases h <;> exact ⟨wpAny_pure hq, wpAny_pure hq⟩
  · cases h with
    | bool b => exact ⟨wpAny_pure hq, wpAny_pure hq⟩
    | int i t => exact ⟨wpAny_pure hq, wpAny_pure hq⟩
    | str y t => exact ⟨wpAny_pure hq, wpAny_pure hq⟩
    | tup l items n dd1 sl1 hl =>
      have hlb : l ≠ 24 := fun e => by rw [e, hc] at hl; simp at hl
      refine ⟨wpAny_isSame_ref_other' hlb hl hc (by simp) hq, ?_⟩
      show wpAny _ A (if ((24 : Addr) == l) = true then pure true else _) Q E s
      rw [if_neg (by simpa using Ne.symm hlb)]
      exact wpAny_bind (wpAny_load hc (wpAny_bind (wpAny_load hl (wpAny_pure hq))))
theorem datum_facts {v : Value} {T id : String} (h : Datum s v T id) : (Value.type T != Value.type "type") = true ∧ (Value.type "type" != Value.type T) = true ∧ isSubtype (.type "type") (.type T) = pure false ∧ isSubtype (.type T) (.type "type") = pure false ∧ Slot T (cmpInfo .Eq).2.1 id ∧ Slot T (cmpInfo .Eq).2.2 id := by
  cases h with
  | bool b => exact ⟨by decide, by decide, sub_type_bool, sub_bool_type, F.slot_bool_eq, F.slot_bool_eq_refl⟩
  | int i t => exact ⟨by decide, by decide, sub_type_int, sub_int_type, F.slot_int_eq, F.slot_int_eq_refl⟩
  | str y t => exact ⟨by decide, by decide, sub_type_str, sub_str_type, F.slot_str_eq, F.slot_str_eq_refl⟩
  | tup l items n dd1 sl1 hl => exact ⟨by decide, by decide, sub_type_tuple, sub_tuple_type, F.slot_tuple_eq, F.slot_tuple_eq_refl⟩
theorem eq_datum_ty {v x : Value} {T id : String} (h : Datum s v T id) (hx : Tyish s x) (hu : A.units < cLine) : EqAt A s v x false := by
  obtain ⟨f1, f2, f3, f4, f5, f6⟩ := datum_facts h
  exact eqAt_of_rc (by cases h <;> nofun) (datum_ne h hx) fun prog w E Q hq =>
    rc_eq_decline_or (k := false) h.typeIs hx.typeIs f1 f3 f5 slot_type_eq_refl (datum_decl h hx) (ty_decl h hx) (fun Q' q => (datum_same h hx Q' q).1) (.inr hu) hq
theorem eq_ty_datum {v x : Value} {T id : String} (h : Datum s v T id) (hx : Tyish s x) (hu : A.units < cLine) : EqAt A s x v false := by
  obtain ⟨f1, f2, f3, f4, f5, f6⟩ := datum_facts h
  exact eqAt_of_rc (by rcases hx with ⟨X, rfl, hX⟩ | ⟨rfl, dd, c, sl, hc⟩ <;> nofun) (datum_ne h hx).symm fun prog w E Q hq =>
    rc_eq_decline_or (k := false) hx.typeIs h.typeIs f2 f4 slot_type_eq f6 (ty_decl h hx) (datum_decl h hx) (fun Q' q => (datum_same h hx Q' q).2) (.inr hu) hq
theorem eq_ty_ty {x y : Value} (hx : Tyish s x) (hy : Tyish s y) (hne : x ≠ y) (hu : A.units < cLine) : EqAt A s x y false := by
  have pl : plainIs x y = true ∧ plainIs y x = true := by
    rcases hx with ⟨X, rfl, hX⟩ | ⟨rfl, dd, c, sl, hc⟩ <;> rcases hy with ⟨Y, rfl, hY⟩ | ⟨rfl, dd2, c2, sl2, hc2⟩ <;> first | exact ⟨rfl, rfl⟩ | exact absurd rfl hne
  have e1 : (x == y) = false := by simpa using hne
  have e2 : (y == x) = false := by simpa using Ne.symm hne
  exact eqAt_of_rc (by rcases hx with ⟨X, rfl, hX⟩ | ⟨rfl, dd, c, sl, hc⟩ <;> nofun) hne fun prog w E Q hq =>
    rc_same_decline (k := false) hx.typeIs hy.typeIs slot_type_eq slot_type_eq_refl
      (fun Q' q => call_gives slot_type_eq hx.typeIs F.entry_object_eq (F.args_object_eq_2 _ _) (object_eq_other pl.1 e1) q)
      (fun Q' q => call_gives slot_type_eq_refl hy.typeIs F.entry_object_eq (F.args_object_eq_2 _ _) (object_eq_other pl.2 e2) q)
      (fun Q' q => by rw [isSame_plain pl.1, e1]; exact wpAny_pure q) (.inr hu) hq
end
end Mine
end

-- part G3
section
open PySem PySem.W PyProof.Rows
set_option Elab.async false
set_option maxRecDepth 100000
set_option linter.unusedVariables false
namespace Mine
open PySem.SeqAt PySem.MeetsSeq PySem.AutoSeq1 PySem.TypeEq

def eqK : KA → KA → Bool
  | .d x, .d y => PyData.eqv x y
  | .kw, .kw => true
  | .ty S, .ty T => S == T
  | _, _ => false
noncomputable def eqKs : List KA → List KA → Bool
  | [], [] => true
  | x :: xs, y :: ys => eqK x y && eqKs xs ys
  | _, _ => false
/-- the class that parts places from names stands at 24 -/
def Mark (h : Heap) : Prop := ∃ dd c sl, h.get? 24 = some { cls := .type "type", dict := dd, data := .cls c, slots := sl }
theorem Mark.keeps {h h' : Heap} (m : Mark h) (st : h.StaysIn h') : Mark h' := let ⟨dd, c, sl, e⟩ := m; ⟨dd, c, sl, st _ _ e⟩
theorem tyD_meta (d : PyData) (s' : Shared) : s'.TypeIs (.type (tyD d)) "type" := by
  cases d <;> first | exact meta_bool s' | exact meta_int s' | exact meta_str s' | exact meta_tuple s'
section
variable {A : Around} {s : Shared} {kn : List (Addr × Obj)} {n k : Nat}
theorem TIn.datum (hk : KnOk kn s.heap) {v : Value} {d : PyData} (h : TIn kn n v d) : ∃ T id, Datum s v T id := by
  cases h with
  | bool b => exact ⟨_, _, .bool b⟩
  | int i t => exact ⟨_, _, .int i t⟩
  | str x t _ => exact ⟨_, _, .str x t⟩
  | pair hm _ _ => exact ⟨_, _, .tup _ _ _ _ _ (hk _ hm)⟩
theorem tyish_ty (d : PyData) : Tyish s (.type (tyD d)) := .inl ⟨_, rfl, tyD_meta d⟩
theorem tyish_kw (m : Mark s.heap) : Tyish s (.ref 24) := .inr ⟨rfl, m⟩
theorem eqAt_atom (hk : KnOk kn s.heap) (hm : Mark s.heap) {v u : Value} {x y : KA} (hv : KAtIn kn n v x) (hu : KAtIn kn k u y) (hn : n ≤ 8) (hA : A.units + 64 < cLine) : EqAt A s v u (eqK x y) := by
  have hA' : A.units < cLine := by omega
  cases hv with
  | d hv =>
    obtain ⟨T, id, dv⟩ := hv.datum hk
    cases hu with
    | d hu =>
      obtain ⟨as, ra⟩ := hv.reads hk
      obtain ⟨bs, rb⟩ := hu.reads hk
      have l1 := hv.lay
      have l2 := hu.lay
      exact eqAt_reads _ _ A s _ _ as bs ra rb l1.1 l2.1 (by have := l1.2; omega)
    | kw => exact eq_datum_ty dv (tyish_kw hm) hA'
    | ty d => exact eq_datum_ty dv (tyish_ty d) hA'
  | kw =>
    cases hu with
    | d hu =>
      obtain ⟨T, id, du⟩ := hu.datum hk
      exact eq_ty_datum du (tyish_kw hm) hA'
    | kw => exact EqAt.same _
    | ty d => exact eq_ty_ty (tyish_kw hm) (tyish_ty d) nofun hA'
  | ty d =>
    cases hu with
    | d hu =>
      obtain ⟨T, id, du⟩ := hu.datum hk
      exact eq_ty_datum du (tyish_ty d) hA'
    | kw => exact eq_ty_ty (tyish_ty d) (tyish_kw hm) nofun hA'
    | ty e =>
      show EqAt A s _ _ (tyD d == tyD e)
      by_cases h : tyD d = tyD e
      · rw [h, beq_self_eq_true]; exact EqAt.same _
      · rw [show (tyD d == tyD e) = false from by simpa using h]
        exact eq_ty_ty (tyish_ty d) (tyish_ty e) (fun q => h (Value.type.inj q)) hA'
def pairK (xs ys : List KA) (j : Nat) : Bool := match xs[j]?, ys[j]? with
  | some x, some y => eqK x y
  | _, _ => true
theorem eqKs_eq : ∀ xs ys : List KA, ((List.range (min xs.length ys.length)).all (pairK xs ys) && xs.length == ys.length) = eqKs xs ys
  | [], [] => rfl
  | [], y :: ys => by simp [eqKs]
  | x :: xs, [] => by simp [eqKs]
  | x :: xs, y :: ys => by
    have := eqKs_eq xs ys
    rw [eqKs, ← this]
    simp only [List.length_cons, Nat.add_min_add_right, List.range_succ_eq_map, List.all_cons, List.all_map, Bool.and_assoc]
    have e : (pairK (x :: xs) (y :: ys) ∘ Nat.succ) = pairK xs ys := by funext j; simp [pairK]
    rw [e]
    simp [pairK]
theorem Atoms.length {vs : List Value} {xs : List KA} (h : Atoms kn n vs xs) : vs.length = xs.length := by
  induction h with
  | nil => rfl
  | cons _ _ ih => simp [ih]
theorem Atoms.get {vs : List Value} {xs : List KA} (h : Atoms kn n vs xs) : ∀ (j : Nat) (hj : j < vs.length), ∃ x, xs[j]? = some x ∧ KAtIn kn n vs[j] x := by
  induction h with
  | nil => intro j hj; exact absurd hj (Nat.not_lt_zero _)
  | cons a _ ih =>
    intro j hj
    cases j with
    | zero => exact ⟨_, rfl, a⟩
    | succ j => exact ih j (Nat.lt_of_succ_lt_succ hj)
theorem key_eq {prog : Program} {w : World} {E : Value → Shared → Prop} {Q : Value → Shared → Prop} {a b : Addr} {vs us : List Value} {k1 k2 : Nat} {xs ys : List KA} (hk : KnOk kn s.heap) (hm : Mark s.heap) (ha : s.heap.get? a = some (tupO vs k1)) (hb : s.heap.get? b = some (tupO us k2))
    (hx : Atoms kn n vs xs) (hy : Atoms kn k us ys) (hn : n ≤ 8) (hA : A.units + 80 < cLine) (h : Q (.bool (eqKs xs ys)) s) : wpAny (model prog w) A (compareOp .Eq (.ref a) (.ref b)) Q E s := by
  have n1 := hx.length
  have n2 := hy.length
  rw [← eqKs_eq, ← n1, ← n2] at h
  refine RcAt.tuples (items := vs.toArray) (items2 := us.toArray) (e := pairK xs ys) ⟨_, ha, rfl, _, rfl⟩ ⟨_, hb, rfl, _, rfl⟩ (by omega) (fun j h1 h2 => ?_) prog w E Q (by simpa using h)
  obtain ⟨x, ex, kx⟩ := hx.get j (by simpa using h1)
  obtain ⟨y, ey, ky⟩ := hy.get j (by simpa using h2)
  have := eqAt_atom (A := A.in1) hk hm kx ky hn (by show A.units + 1 + 64 < cLine; omega)
  simpa [pairK, ex, ey] using this
end
end Mine
end

-- part P1
section
open PySem PySem.W PyProof.Rows
set_option Elab.async false
set_option maxRecDepth 100000
set_option linter.unusedVariables false
namespace Mine

noncomputable def alls {α β : Type} (f : α → β → Bool) : List α → List β → Bool
  | [], [] => true
  | x :: xs, y :: ys => f x y && alls f xs ys
  | _, _ => false
theorem alls_zip {α β : Type} (f : α → β → Bool) : ∀ (xs : List α) (ys : List β), (xs.length == ys.length && (xs.zip ys).all fun p => f p.1 p.2) = alls f xs ys
  | [], [] => rfl
  | [], y :: ys => rfl
  | x :: xs, [] => rfl
  | x :: xs, y :: ys => by
    rw [alls, ← alls_zip f xs ys]
    simp only [List.length_cons, List.zip_cons_cons, List.all_cons]
    have : ((xs.length + 1) == (ys.length + 1)) = (xs.length == ys.length) := by
      rw [Bool.eq_iff_iff]; simp
    rw [this]
    cases (xs.length == ys.length) <;> simp
theorem alls_and {α β : Type} (f g : α → β → Bool) : ∀ (xs : List α) (ys : List β), alls (fun x y => f x y && g x y) xs ys = (alls f xs ys && alls g xs ys)
  | [], [] => rfl
  | [], y :: ys => rfl
  | x :: xs, [] => rfl
  | x :: xs, y :: ys => by
    rw [alls, alls, alls, alls_and f g xs ys]
    cases f x y <;> cases g x y <;> cases alls f xs ys <;> rfl
def tyE (d e : PyData) : Bool := kindD d == kindD e
theorem tyD_kind (d e : PyData) : (tyD d == tyD e) = tyE d e := by
  cases d <;> cases e <;> simp [tyD, tyE, kindD]
/-- no datum at the head -/
def NoD : List KA → Prop
  | .d _ :: _ => False
  | _ => True
theorem eqKs_data {X Y : List KA} (hX : NoD X) (hY : NoD Y) : ∀ (ds es : List PyData), eqKs (ds.map .d ++ X) (es.map .d ++ Y) = (alls PyData.eqv ds es && eqKs X Y)
  | [], [] => by simp [alls]
  | [], e :: es => by
    cases X with
    | nil => rfl
    | cons x X => cases x with
      | d x => exact hX.elim
      | kw => rfl
      | ty T => rfl
  | d :: ds, [] => by
    cases Y with
    | nil => rfl
    | cons y Y => cases y with
      | d x => exact hY.elim
      | kw => rfl
      | ty T => rfl
  | d :: ds, e :: es => by
    show (PyData.eqv d e && eqKs (ds.map .d ++ X) (es.map .d ++ Y)) = _
    rw [eqKs_data hX hY ds es, alls, Bool.and_assoc]
theorem eqKs_types : ∀ (ds es : List PyData), eqKs (ds.map fun d => .ty (tyD d)) (es.map fun d => .ty (tyD d)) = alls tyE ds es
  | [], [] => rfl
  | [], e :: es => rfl
  | d :: ds, [] => rfl
  | d :: ds, e :: es => by
    show ((tyD d == tyD e) && eqKs (ds.map _) (es.map _)) = _
    rw [eqKs_types ds es, alls, tyD_kind]
theorem eqKs_append : ∀ {A B A' B' : List KA}, A.length = A'.length → eqKs (A ++ B) (A' ++ B') = (eqKs A A' && eqKs B B')
  | [], B, [], B', _ => by simp [eqKs]
  | [], B, y :: ys, B', h => by simp at h
  | x :: xs, B, [], B', h => by simp at h
  | x :: xs, B, y :: ys, B', h => by
    show (eqK x y && eqKs (xs ++ B) (ys ++ B')) = (eqK x y && eqKs xs ys && eqKs B B')
    rw [eqKs_append (by simpa using h), Bool.and_assoc]
theorem alls_len {α β : Type} {f : α → β → Bool} : ∀ {xs : List α} {ys : List β}, alls f xs ys = true → xs.length = ys.length
  | [], [], _ => rfl
  | [], y :: ys, h => by simp [alls] at h
  | x :: xs, [], h => by simp [alls] at h
  | x :: xs, y :: ys, h => by
    simp only [alls, Bool.and_eq_true] at h
    simp [alls_len h.2]
/-- the named ones' data, as they come and as they are sorted -/
inductive NdOk : List (Str × PyData) → List (Str × PyData) → Prop
  | nil : NdOk [] []
  | n (v : PyData) : NdOk [(nS, v)] [(nS, v)]
  | k (u : PyData) : NdOk [(kS, u)] [(kS, u)]
  | nk (v u : PyData) : NdOk [(nS, v), (kS, u)] [(kS, u), (nS, v)]
  | kn (v u : PyData) : NdOk [(kS, u), (nS, v)] [(kS, u), (nS, v)]
def namedSame (nd1 nd2 : List (Str × PyData)) (k : Bool) : Bool := nd1.all fun p => nd2.any fun q => q.1 == p.1 && alikeD p.2 q.2 k
def sameD (c1 c2 : List PyData × List (Str × PyData)) (k : Bool) : Bool :=
  (c1.1.length == c2.1.length && c1.2.length == c2.2.length) && ((c1.1.zip c2.1).all fun p => alikeD p.1 p.2 k) && namedSame c1.2 c2.2 k
def pairD (p : Str × PyData) : PyData := .tuple [.str p.1, p.2]
theorem eqv_pair (p q : Str × PyData) : PyData.eqv (pairD p) (pairD q) = (p.1 == q.1 && PyData.eqv p.2 q.2) := by
  simp [pairD, PyData.eqv, PyData.eqvAll]
noncomputable def nEq (sd1 sd2 : List (Str × PyData)) (k : Bool) : Bool := alls PyData.eqv (sd1.map pairD) (sd2.map pairD) && (!k || alls tyE (sd1.map (·.2)) (sd2.map (·.2)))
theorem named_eq {nd1 sd1 nd2 sd2 : List (Str × PyData)} (h1 : NdOk nd1 sd1) (h2 : NdOk nd2 sd2) (k : Bool) : nEq sd1 sd2 k = (nd1.length == nd2.length && namedSame nd1 nd2 k) := by
  have e1 : (nS == kS) = false := by simpa using ne_nk
  have e2 : (kS == nS) = false := by simpa using ne_kn
  cases h1 <;> cases h2 <;> cases k <;> simp only [nEq, namedSame, alikeD, alls, List.map_cons, List.map_nil, List.all_cons, List.all_nil, List.any_cons, List.any_nil, eqv_pair, e1, e2, beq_self_eq_true, tyE, List.length_cons, List.length_nil,
    Bool.true_and, Bool.false_and, Bool.and_true, Bool.and_false, Bool.or_false, Bool.false_or, Bool.not_true, Bool.not_false, Bool.true_or] <;> first | rfl | decide | (generalize PyData.eqv _ _ = a; generalize (kindD _ == kindD _) = b; revert a b; decide) | skip
  all_goals grind
theorem NdOk.lens {nd sd : List (Str × PyData)} (h : NdOk nd sd) : sd.length = nd.length := by cases h <;> rfl
theorem nEq_nil {nd sd : List (Str × PyData)} {k : Bool} : nEq [] [] k = true := by cases k <;> rfl
theorem pairs_map (sd : List (Str × PyData)) : (sd.map fun p => KA.d (.tuple [.str p.1, p.2])) = (sd.map pairD).map .d := by rw [List.map_map]; rfl
theorem tys_map (sd : List (Str × PyData)) : (sd.map fun p => KA.ty (tyD p.2)) = (sd.map (·.2)).map fun d => .ty (tyD d) := by rw [List.map_map]; rfl
theorem noD_types (ds : List PyData) : NoD (ds.map fun d => .ty (tyD d)) := by cases ds <;> exact trivial
theorem noD_types2 (sd : List (Str × PyData)) (ds : List PyData) : NoD ((sd.map fun p => KA.ty (tyD p.2)) ++ ds.map fun d => .ty (tyD d)) := by
  cases sd with
  | nil => exact noD_types ds
  | cons _ _ => exact trivial
theorem alike_all (k : Bool) (xs ys : List PyData) : alls (fun x y => alikeD x y k) xs ys = (alls PyData.eqv xs ys && (!k || alls tyE xs ys)) := by
  cases k with
  | false =>
    have e : (fun x y => alikeD x y false) = PyData.eqv := by funext x y; simp [alikeD]
    rw [e]; simp
  | true =>
    have e : (fun x y => alikeD x y true) = fun x y => PyData.eqv x y && tyE x y := by funext x y; simp [alikeD, tyE]
    rw [e, alls_and]; simp
theorem sameD_eq {ds1 ds2 : List PyData} {nd1 sd1 nd2 sd2 : List (Str × PyData)} (h1 : NdOk nd1 sd1) (h2 : NdOk nd2 sd2) (k : Bool) :
    sameD (ds1, nd1) (ds2, nd2) k = (alls (fun x y => alikeD x y k) ds1 ds2 && nEq sd1 sd2 k) := by
  rw [named_eq h1 h2, ← alls_zip, sameD]
  cases (ds1.length == ds2.length) <;> cases (nd1.length == nd2.length) <;> simp
theorem keyP_eq {ds1 ds2 : List PyData} {nd1 sd1 nd2 sd2 : List (Str × PyData)} (h1 : NdOk nd1 sd1) (h2 : NdOk nd2 sd2) : eqKs (atomsP ds1 sd1) (atomsP ds2 sd2) = sameD (ds1, nd1) (ds2, nd2) false := by
  rw [sameD_eq h1 h2, alike_all, atomsP, atomsP]
  cases sd1 with
  | nil =>
    cases sd2 with
    | nil => rw [if_pos rfl, eqKs_data]; (simp [eqKs, nEq_nil (nd := []) (sd := [])]); all_goals exact trivial
    | cons q sd2 => rw [if_pos rfl, if_neg (List.cons_ne_nil _ _), eqKs_data]; (simp [eqKs, nEq, alls]); all_goals exact trivial
  | cons p sd1 =>
    cases sd2 with
    | nil => rw [if_pos rfl, if_neg (List.cons_ne_nil _ _), eqKs_data]; (simp [eqKs, nEq, alls]); all_goals exact trivial
    | cons q sd2 =>
      rw [if_neg (List.cons_ne_nil _ _), if_neg (List.cons_ne_nil _ _)]
      have e : eqKs (KA.kw :: (p :: sd1).map fun p => KA.d (.tuple [.str p.1, p.2])) (KA.kw :: (q :: sd2).map fun p => KA.d (.tuple [.str p.1, p.2])) = nEq (p :: sd1) (q :: sd2) false := by
        show (true && eqKs _ _) = _
        have := eqKs_data (X := []) (Y := []) trivial trivial ((p :: sd1).map pairD) ((q :: sd2).map pairD)
        rw [List.append_nil, List.append_nil] at this
        rw [pairs_map, pairs_map, this]
        simp [nEq, eqKs]
      rw [eqKs_data (X := KA.kw :: _) (Y := KA.kw :: _), e]; (simp); all_goals exact trivial
def tailT (ds : List PyData) (sd : List (Str × PyData)) : List KA := .kw :: ((sd.map fun p => KA.d (.tuple [.str p.1, p.2])) ++ ((sd.map fun p => KA.ty (tyD p.2)) ++ ds.map fun d => .ty (tyD d)))
theorem atomsT_nil (ds : List PyData) : atomsT ds [] = ds.map .d ++ ds.map fun d => .ty (tyD d) := by simp [atomsT, atomsP]
theorem atomsT_cons (ds : List PyData) (p : Str × PyData) (sd : List (Str × PyData)) : atomsT ds (p :: sd) = ds.map .d ++ tailT ds (p :: sd) := by simp [atomsT, atomsP, tailT]
theorem noD_tail (ds : List PyData) (sd : List (Str × PyData)) : NoD (tailT ds sd) := trivial
theorem keyT_eq {ds1 ds2 : List PyData} {nd1 sd1 nd2 sd2 : List (Str × PyData)} (h1 : NdOk nd1 sd1) (h2 : NdOk nd2 sd2) : eqKs (atomsT ds1 sd1) (atomsT ds2 sd2) = sameD (ds1, nd1) (ds2, nd2) true := by
  rw [sameD_eq h1 h2, alike_all]
  cases sd1 with
  | nil =>
    cases sd2 with
    | nil =>
      rw [atomsT_nil, atomsT_nil, eqKs_data (noD_types _) (noD_types _), eqKs_types, nEq_nil (nd := []) (sd := [])]; simp
    | cons q sd2 =>
      have e : eqKs (ds1.map fun d => KA.ty (tyD d)) (tailT ds2 (q :: sd2)) = false := by cases ds1 <;> rfl
      rw [atomsT_nil, atomsT_cons, eqKs_data (noD_types _) (noD_tail _ _), e]; simp [nEq, alls]
  | cons p sd1 =>
    cases sd2 with
    | nil =>
      have e : eqKs (tailT ds1 (p :: sd1)) (ds2.map fun d => KA.ty (tyD d)) = false := by cases ds2 <;> rfl
      rw [atomsT_nil, atomsT_cons, eqKs_data (noD_tail _ _) (noD_types _), e]; simp [nEq, alls]
    | cons q sd2 =>
      have e : eqKs (tailT ds1 (p :: sd1)) (tailT ds2 (q :: sd2)) =
          (alls PyData.eqv ((p :: sd1).map pairD) ((q :: sd2).map pairD) && eqKs (((p :: sd1).map fun p => KA.ty (tyD p.2)) ++ ds1.map fun d => .ty (tyD d)) (((q :: sd2).map fun p => KA.ty (tyD p.2)) ++ ds2.map fun d => .ty (tyD d))) := by
        show (true && eqKs _ _) = _
        rw [pairs_map, pairs_map, eqKs_data (noD_types2 _ _) (noD_types2 _ _)]; simp
      rw [atomsT_cons, atomsT_cons, eqKs_data (noD_tail _ _) (noD_tail _ _), e]
      cases hp : alls PyData.eqv ((p :: sd1).map pairD) ((q :: sd2).map pairD) with
      | false => simp only [nEq, hp]; simp
      | true =>
        have hl : ((p :: sd1).map fun p => KA.ty (tyD p.2)).length = ((q :: sd2).map fun p => KA.ty (tyD p.2)).length := by
          have := alls_len hp; simpa using this
        rw [eqKs_append hl, tys_map, tys_map, eqKs_types, eqKs_types]
        simp only [nEq, hp]
        cases alls PyData.eqv ds1 ds2 <;> cases alls tyE ds1 ds2 <;> simp
end Mine
end

-- part H0
section
open PySem PySem.W PyProof.Rows
set_option Elab.async false
set_option maxRecDepth 100000
set_option linter.unusedVariables false
namespace Mine
theorem lk_list_keys : typeLookup (.type "list") "keys" = pure none := by rw [typeLookup_type, builtinLookup_eq_fast]; kernel_rfl
theorem no_keys_list {prog : Program} {w : World} {A : Around} {E : Value → Shared → Prop} {s : Shared} {a : Addr} {xs : Array Value} {k : Nat} {Q : Option Value → Shared → Prop}
    (hx : s.heap.get? a = some (listOf xs k)) (hA : A.handled = none)
    (h : ∀ h' tk, s.heap.StaysIn h' → Q none { s with heap := h', toks := tk }) :
    wpAny (model prog w) A (getAttr? (.ref a) "keys") Q E s := by
  obtain ⟨hp, g, d, tk, os⟩ := s
  have hT : ∀ tk', (⟨hp, g, d, tk', os⟩ : Shared).TypeIs (.ref a) "list" := fun _ => ⟨_, hx, rfl⟩
  have f1 := sub_AttributeError
  have f3 := F.slot_list_getattribute.lookup
  have f4 := F.slot_list_getattribute.bind (.ref a)
  have f5 := am_list_getattr_none
  unfold getAttr? getAttrBy? getAttrBy
  repeat (any_goals (first | assumption | exact hT _ | ((with_reducible show wpAny _ _ (call (Value.builtin "list.__getattribute__") _ _) _ _ _); refine call_meets F.slot_list_getattribute (hT _) am_entry_list_getattribute (F.args_list_getattribute_2 _ _) (meets_getattribute_miss_list a xs k #[] "keys" _ lk_list_keys (by decide +kernel) (by decide +kernel)) ⟨hx, hA, fun h' tk' e hx' => ?_⟩) | wp_step))
  obtain ⟨t', u', he⟩ := hx'.there
  show wpAny _ _ (getattributeRaised _ _ _ _ _ _ _) _ _ _
  unfold getattributeRaised
  repeat (any_goals (first | assumption | wp_step))
  exact h _ _ fun b o e => hx'.1 b o e
end Mine
end

-- part H1
section
open PySem PySem.W PyProof.Rows
set_option Elab.async false
set_option maxRecDepth 100000
set_option linter.unusedVariables false
namespace Mine
theorem entry_upd_loop : entryFor table "dict.update.loop" = some Builtin.«dict.update.loop» := entryFor_of_tree (by kernel_rfl)
theorem plain_upd_loop : plainId "dict.update.loop" = true := by decide +kernel
theorem strIs {prog : Program} {w : World} (x : Str) (t : Tok) : (strKind prog w).is x (.str x t) = true := by
  show (Value.str x t).isStr x = true
  simp [Value.isStr]
theorem ItemsIn.get {kn : List (Addr × Obj)} {its : List Value} {kw : List (Str × Value)} (h : ItemsIn kn its kw) : ∀ (i : Nat) (v : Value), its[i]? = some v → ∃ a k x t u, v = .ref a ∧ kw[i]? = some (x, u) ∧ (a, tupO [.str x t, u] k) ∈ kn := by
  induction h with
  | nil => intro i v h; simp at h
  | @cons a k x t u its kw hm _ ih =>
    intro i v h
    cases i with
    | zero => simp at h; exact ⟨a, k, x, t, u, h.symm, rfl, hm⟩
    | succ i => exact ih i v (by simpa using h)
section
variable {prog : Program} {w : World} {A : Around}
theorem upd_loop {s₀ : Shared} {d I l : Addr} {its : List Value} {kw : List (Str × Value)} {kn : List (Addr × Obj)} {R : Result → Shared → Prop} (hh : A.handled = none) (hlI : l ≠ I) (hld : l ≠ d) (hdI : d ≠ I) (hki : ∀ p ∈ kn, p.1 ≠ I ∧ p.1 ≠ d) (hit : ItemsIn kn its kw) (hnd : (kw.map (·.1)).Nodup) (hsz : kw.length ≤ 64)
    (hR : ∀ h' tk, h'.DictOf (strKind prog w) d kw → (∀ b o, b ≠ d → b ≠ I → s₀.heap.get? b = some o → h'.get? b = some o) → R (.ok (.ret .none)) { s₀ with heap := h', toks := tk }) :
    ∀ (k i : Nat) (h : Heap) (tk : Nat), its.length - i = k → i ≤ its.length → h.IsListIter I l i → h.IsList l its.toArray → h.DictOf (strKind prog w) d (kw.take i) → KnOk kn h → (∀ b o, b ≠ d → b ≠ I → s₀.heap.get? b = some o → h.get? b = some o) →
      codeAny (model prog w) A (.builtin "dict.update.loop" ⟨[.ref d, .ref I, rawInt i, .none], []⟩) R { s₀ with heap := h, toks := tk } := by
  have hle := hit.length
  intro k
  induction k with
  | zero =>
    intro i h tk hk hi st hl hD hkn hkeep
    have hin : i = its.length := by omega
    subst hin
    refine codeAny_builtin entry_upd_loop ?_
    rw [Around.under_plainId plain_upd_loop _]
    show wpAny _ A.in1 (pyNext (.ref I) >>= _) _ _ _
    refine wpAny_bind ((Walks.list (prog := prog) (w := w) (A := A.in1) hh I l hlI its.toArray).done _ _ _ ⟨by simpa using st, hl⟩ fun h' tk' hk' => ?_)
    show wpAny _ A.in1 (Builtin.Dict.addKeywords d [] >>= fun _ => ret .none) _ _ _
    refine wpAny_bind (wpAny_pure (wpAny_pure ?_))
    refine hR h' tk' ?_ fun b o hb hb' e => hk' b o (by simpa using hb') (hkeep b o hb hb' e)
    rw [hle, List.take_length] at hD
    exact hD.extBut (fun b o hb e => hk' b o (by simpa using hb) e) hdI
  | succ k ih =>
    intro i h tk hk hi st hl hD hkn hkeep
    have hlt : i < its.length := by omega
    refine codeAny_builtin entry_upd_loop ?_
    rw [Around.under_plainId plain_upd_loop _]
    show wpAny _ A.in1 (pyNext (.ref I) >>= _) _ _ _
    refine wpAny_bind ((Walks.list (prog := prog) (w := w) (A := A.in1) hh I l hlI its.toArray).item i _ _ _ (by simpa using hlt) ⟨st, hl⟩ fun v h' tk' hv st' hk' => ?_)
    obtain ⟨p, kp, x, t, u, rfl, hx, hm⟩ := hit.get i v (by simpa using hv)
    have hkn' : KnOk kn h' := fun q hq => hk' q.1 q.2 (by simpa using (hki q hq).1) (hkn q hq)
    have hp := hkn' _ hm
    have hD' : h'.DictOf (strKind prog w) d (kw.take i) := hD.extBut (fun b o hb e => hk' b o (by simpa using hb) e) hdI
    have hT : ({ s₀ with heap := h', toks := tk' } : Shared).TypeIs (.ref p) "tuple" := ⟨_, hp, rfl⟩
    refine wpAny_bind (wpAny_holding (wpAny_bind (wpAny_tryCatch ?_)))
    unfold Builtin.Dict.pairItems
    refine wpAny_bind (wpAny_typeOf hT ?_)
    rw [if_pos (by decide)]
    refine wpAny_bind ?_
    unfold seqItems?
    refine wpAny_bind (wpAny_load hp ?_)
    refine wpAny_pure ?_
    refine wpAny_pure ?_
    show wpAny _ A.in1 (holding [.str x t, u] (dictSet d (.str x t) u)) _ _ _
    have hxl : (kw.take i).length ≤ sizeLine := by rw [List.length_take, sizeLine_eq]; omega
    refine wpAny_holding (wpAny_dictSet_pairs (hsz := hxl) (strIs x t) hD' fun h'' hD'' hs'' => ?_)
    refine wpAny_pure ⟨plainId_quiet plain_upd_loop _, ?_⟩
    have hst : stored (kw.take i) x u = kw.take (i + 1) := by
      have hfresh : ¬ ((kw.take i).any fun y => decide (y.1 = x)) = true := by
        rw [List.any_eq_true]; rintro ⟨y, hy, he⟩
        have he := of_decide_eq_true he
        obtain ⟨j, hj⟩ := List.mem_iff_getElem?.mp hy
        rw [List.getElem?_take] at hj
        split at hj
        · have e1 : (kw.map (·.1))[j]? = some x := by rw [List.getElem?_map, hj]; simp [he]
          have e2 : (kw.map (·.1))[i]? = some x := by rw [List.getElem?_map, hx]; rfl
          have := (List.getElem?_inj (by rw [List.length_map]; omega) hnd).mp (e1.trans e2.symm)
          omega
        · cases hj
      rw [stored, if_neg hfresh, List.take_add_one, hx]; rfl
    rw [hst] at hD''
    refine ih (i + 1) h'' (tk' + 1) (by omega) hlt ?_ ?_ hD'' (fun q hq => (hs''.2 q.1 (hki q hq).2).trans (hkn' q hq)) fun b o hb hb' e => (hs''.2 b hb).trans (hk' b o (by simpa using hb') (hkeep b o hb hb' e))
    · exact st'.1.at fun o e => (hs''.2 I (Ne.symm hdI)).trans e
    · exact st'.2.at fun o e => (hs''.2 l hld).trans e

theorem dict_pairs {E : Value → Shared → Prop} {s : Shared} {l : Addr} {its : List Value} {c : Nat} {kw : List (Str × Value)} {kn : List (Addr × Obj)} {Q : Value → Shared → Prop} (hh : A.handled = none) (hl : s.heap.get? l = some (listOf its.toArray c)) (hkn : KnOk kn s.heap) (hit : ItemsIn kn its kw) (hnd : (kw.map (·.1)).Nodup) (hsz : kw.length ≤ 64)
    (h : ∀ h' tk o, h'.get? s.heap.objs.size = some o → o.IsDictOf (strKind prog w) kw → s.heap.StaysIn h' → Q (.ref s.heap.objs.size) { s with heap := h', toks := tk }) :
    wpAny (model prog w) A (call (.type "dict") [.ref l]) Q E s := by
  refine callType_codes (Q₁ := fun obj s₁ => obj = .ref s.heap.objs.size ∧ s₁ = { s with heap := s.heap.push { cls := .type "dict", data := .dict #[] } }) PySem.F.kt_called_dict (PySem.F.kt_typeCall_dict_1 _) PySem.F.entry_dict_init (kt_code_dict_new _ ⟨rfl, rfl⟩) ?_
  rintro obj s₁ ⟨rfl, rfl⟩
  have hnew : (s.heap.push { cls := .type "dict", data := .dict #[] }).DictOf (strKind prog w) s.heap.objs.size [] := Heap.DictOf.new s.heap
  have hl' : (s.heap.push { cls := .type "dict", data := .dict #[] }).get? l = some (listOf its.toArray c) := Heap.get?_push_of_some _ hl
  have hls : l < s.heap.objs.size := Heap.lt_size hl
  refine ⟨hnew.typeIs, PySem.F.args_dict_init_2 _ _, ?_⟩
  unfold Builtin.«dict.__init__»
  refine wpAny_bind ?_
  unfold Builtin.Dict.selfAndRest
  refine wpAny_bind (wpAny_notOrdered_dict hnew.typeIs ?_)
  show wpAny _ _ (pure (s.heap.objs.size, [Value.ref l])) _ _ _
  refine wpAny_pure ?_
  show wpAny _ _ (Builtin.Dict.updateFrom "dict.__init__" s.heap.objs.size (.ref l) [] .none) _ _ _
  unfold Builtin.Dict.updateFrom
  refine wpAny_bind (wpAny_typeOf (T := "list") ⟨_, hl', rfl⟩ ?_)
  rw [if_pos (by decide)]
  refine wpAny_bind (no_keys_list (A := A.in1.in1) hl' hh fun h1 tk1 st1 => ?_)
  rw [Option.isNone_none, if_pos rfl]
  refine wpAny_bind (wpAny_rule ?_)
  have hl1 : h1.IsList l its.toArray := ⟨_, st1 _ _ hl', rfl, _, rfl⟩
  refine wpAny_bind (wpAny_pyIter_list hl1 ?_)
  refine wpAny_pure ⟨plainId_quiet plain_upd_loop _, ?_⟩
  have hD1 : h1.DictOf (strKind prog w) s.heap.objs.size [] := hnew.extBut (b := h1.objs.size) (fun b o _ e => st1 b o e) (Nat.ne_of_lt (Heap.lt_size (st1 _ _ (Heap.get?_push_size _ rfl))))
  have s1 : s.heap.objs.size < h1.objs.size := Heap.lt_size (st1 _ _ (Heap.get?_push_size _ rfl))
  have hk1 : KnOk kn h1 := fun q hq => st1 _ _ (Heap.get?_push_of_some _ (hkn q hq))
  refine upd_loop (A := A.in1) (s₀ := { s with heap := h1.push { cls := .type "list_iterator", data := .fields #[.ref l, .int 0 0] }, toks := tk1 }) (I := h1.objs.size) (l := l) (kn := kn) hh (Nat.ne_of_lt (Nat.lt_trans hls s1)) (Nat.ne_of_lt hls) (Nat.ne_of_lt s1)
    (fun p hp => ⟨Nat.ne_of_lt (Nat.lt_trans (Heap.lt_size (hkn p hp)) s1), Nat.ne_of_lt (Heap.lt_size (hkn p hp))⟩) hit hnd hsz (fun h' tk' hD' hk' => ?_)
    its.length 0 _ tk1 (Nat.sub_zero _) (Nat.zero_le _) ⟨_, Heap.get?_push_size _ rfl, rfl, rfl⟩ (hl1.push _) (hD1.push _) (fun q hq => Heap.get?_push_of_some _ (hk1 q hq)) fun b o _ _ e => e
  obtain ⟨o, ho, hd⟩ := Heap.dictOf_iff.mp hD'
  refine ⟨rfl, h h' tk' o ho hd fun b ob e => hk' b ob (Nat.ne_of_lt (Heap.lt_size e)) (Nat.ne_of_lt (Nat.lt_trans (Heap.lt_size e) s1)) (Heap.get?_push_of_some _ (st1 _ _ (Heap.get?_push_of_some _ e)))⟩
end
end Mine
end

-- part H2
section
open PySem PySem.W PyProof.Rows
set_option Elab.async false
set_option maxRecDepth 100000
set_option linter.unusedVariables false
namespace Mine
section
variable {prog : Program} {w : World} {A : Around} {E : Value → Shared → Prop}
theorem find_new {s : Shared} {d : Addr} {kvs : List (Str × Value)} {k : Str} {key : Value} {Q : Option Nat → Shared → Prop} (hkey : (strKind prog w).is k key = true) (hm : s.heap.DictOf (strKind prog w) d kvs) (hk : k ∉ kvs.map (·.1)) (hQ : Q none s) :
    wpAny (model prog w) A (dictFind d key ((strKind prog w).hash k)) Q E s := by
  obtain ⟨o, es, ep, ho, hc, hd, hks, hp, hn⟩ := hm
  have hidx : (es.findIdx? fun e => (strKind prog w).is k e.key) = kvs.findIdx? fun kv => decide (kv.1 = k) := by
    rw [← hp.findIdx k]; obtain ⟨l⟩ := es; simp
  have hnone : (kvs.findIdx? fun kv => decide (kv.1 = k)) = none := by
    rw [List.findIdx?_eq_none_iff]
    intro x hx
    exact decide_eq_false fun e => hk (e ▸ List.mem_map_of_mem hx)
  refine wpAny_dictFind_of hkey ho hd hks ?_
  rw [hidx, hnone]
  exact hQ
theorem put_new {s : Shared} {d : Addr} {kvs : List (Str × Value)} {k : Str} {key v : Value} {Q : Unit → Shared → Prop} (hkey : (strKind prog w).is k key = true) (hm : s.heap.DictOf (strKind prog w) d kvs) (hk : k ∉ kvs.map (·.1)) (hsz : kvs.length ≤ sizeLine)
    (hQ : ∀ h', h'.DictOf (strKind prog w) d (kvs ++ [(k, v)]) → Heap.SameBut d s.heap h' → Q () { s with heap := h' }) :
    wpAny (model prog w) A (dictPut d ((strKind prog w).hash k) key v) Q E s := by
  unfold dictPut
  refine wpAny_bind (find_new hkey hm hk ?_)
  obtain ⟨o, es, ep, ho, hc, hd, hks, hp, hn⟩ := hm
  have hes : es.size ≤ sizeLine := by have e1 := hp.length; have e2 : es.toList.length = es.size := by simp
                                      omega
  refine wpAny_updateDictKeys (hz := hes) ho hd (hQ _ ⟨_, _, ep + 1, Heap.get?_update_self _ ho (Obj.isFreed_of_dict (Obj.data_mapDictKeys hd _)),
      hc.mapDictKeys _, Obj.data_mapDictKeys hd _, hks.push hkey _, ?_, ?_⟩ (Heap.SameBut.update ..))
  · have := hp.append hkey ((strKind prog w).hash k) v
    obtain ⟨l⟩ := es
    simpa using this
  · rw [List.map_append, List.nodup_append]
    refine ⟨hn, by simp, ?_⟩
    intro a ha b hb
    simp only [List.map_cons, List.map_nil, List.mem_singleton] at hb
    subst hb
    exact fun e => hk (e ▸ ha)
theorem merge_fresh {s : Shared} {d a : Addr} {kw : List (Str × Value)} {Q : Unit → Shared → Prop} (hda : d ≠ a) (haS : (a == sysModules) = false) (hd : s.heap.DictOf (strKind prog w) d []) (ha : s.heap.DictOf (strKind prog w) a kw) (hsz : kw.length ≤ 64)
    (hQ : ∀ h', h'.DictOf (strKind prog w) d kw → Heap.SameBut d s.heap h' → Q () { s with heap := h' }) :
    wpAny (model prog w) A (mergeMapping d (.ref a) true) Q E s := by
  obtain ⟨od, esd, epd, hod, hcd, hdd, hkd, hpd, hnd⟩ := id hd
  obtain ⟨oa, esa, epa, hoa, hca, hda', hka, hpa, hna⟩ := id ha
  have hlen : kw.length = esa.size := by rw [← hpa.length]; simp
  have h0 : esd = #[] := by
    have := hpd.length
    have e2 : esd.toList.length = esd.size := by simp
    exact Array.eq_empty_of_size_eq_zero (by rw [← e2, this]; rfl)
  unfold mergeMapping
  refine wpAny_bind (wpAny_isInstance ha.typeIs isSubtype_dict_dict ?_)
  dsimp only
  rw [if_pos rfl]
  refine wpAny_bind (wpAny_specialOf ha.typeIs PySem.F.slot_dict_iter.lookup ?_)
  refine wpAny_bind (wpAny_pure ?_)
  rw [beq_self_eq_true]
  dsimp only
  rw [if_neg (by rw [haS]; exact Bool.false_ne_true)]
  refine wpAny_bind (wpAny_dictEntries hod hdd ?_)
  rw [h0, show (#[] : Array DictEntry).isEmpty = true from rfl, if_pos rfl]
  refine wpAny_bind (wpAny_dictEntries hoa hda' ?_)
  refine wpAny_bind ?_
  have strK : ∀ e ∈ esa.toList, ∃ k t, e.key = .str k t := fun e he => by
    obtain ⟨k, hkey, _⟩ := hka e (by simpa using he)
    obtain ⟨t, ht⟩ := Value.isStrOf_shape hkey
    exact ⟨k, t, ht⟩
  rw [← Array.forIn_toList]
  refine wpAny_forIn_list _ (fun rest b s' => s' = s ∧ ∀ e ∈ rest, e ∈ esa.toList) _ ?_ ?_ _ _ ⟨rfl, fun _ h => h⟩
  · rintro e rest b s' ⟨hs1, hm⟩
    obtain ⟨k, t, hk⟩ := strK e (hm e (.head _))
    rw [hk]
    exact wpAny_pure ⟨hs1, fun e h => hm e (.tail _ h)⟩
  rintro b s' ⟨hs1, _⟩
  subst s'
  refine wpAny_bind (wpAny_dictEntries hoa hda' ?_)
  refine wpAny_bind (wpAny_dictEpoch hoa hda' ?_)
  refine wpAny_bind ?_
  rw [List.range_eq_range']
  refine wpAny_forIn_list _
    (fun rest _ s' => ∃ h' i, s' = { s with heap := h' } ∧ rest = List.range' i (esa.size - i) ∧ i ≤ esa.size ∧ h'.DictOf (strKind prog w) d (kw.take i) ∧ h'.get? a = some oa ∧ Heap.SameBut d s.heap h')
    _ ?_ ?_ _ _ ⟨s.heap, 0, rfl, by simp, Nat.zero_le _, by simpa using hd, hoa, Heap.SameBut.refl _ _⟩
  · rintro x rest b s' ⟨h', i, rfl, hr, hi, hd', hoo', hs'⟩
    have hlt : i < esa.size := by
      rcases Nat.lt_or_ge i esa.size with h | h
      · exact h
      · rw [Nat.sub_eq_zero_of_le h] at hr; simp at hr
    obtain ⟨rfl, hrest⟩ : x = i ∧ rest = List.range' (i + 1) (esa.size - (i + 1)) := by
      have e : esa.size - i = (esa.size - (i + 1)) + 1 := by omega
      rw [e, List.range'_succ] at hr
      injection hr with h1 h2
      exact ⟨h1, h2⟩
    refine wpAny_bind (wpAny_dictEntries hoo' hda' ?_)
    rw [Array.getElem?_eq_getElem hlt]
    obtain ⟨kv, hkv⟩ : ∃ kv, kw[x]? = some kv := ⟨kw[x]'(by rw [hlen]; exact hlt), List.getElem?_eq_getElem _⟩
    obtain ⟨k, v⟩ := kv
    obtain ⟨hkey, hval⟩ := hpa.get? (e := esa[x]) (by simp [hlt]) hkv
    obtain ⟨k', hkey', hhash⟩ := hka esa[x] (Array.getElem_mem hlt)
    obtain rfl : k' = k := (strKind prog w).inj _ _ _ hkey' hkey
    have hfresh : k' ∉ (kw.take x).map (·.1) := by
      intro hmem
      obtain ⟨y, hy, he⟩ := List.mem_map.mp hmem
      obtain ⟨j, hj⟩ := List.mem_iff_getElem?.mp hy
      rw [List.getElem?_take] at hj
      split at hj
      · have e1 : (kw.map (·.1))[j]? = some k' := by rw [List.getElem?_map, hj]; simp [he]
        have e2 : (kw.map (·.1))[x]? = some k' := by rw [List.getElem?_map, hkv]; rfl
        have := (List.getElem?_inj (by rw [List.length_map]; omega) hna).mp (e1.trans e2.symm)
        omega
      · cases hj
    have hxl : (kw.take x).length ≤ sizeLine := by rw [List.length_take, sizeLine_eq]; omega
    dsimp only
    rw [if_pos rfl, hhash, hval]
    refine wpAny_bind (wpAny_holding (wpAny_bind (find_new hkey hd' hfresh ?_)))
    rw [Option.isSome_none, if_neg Bool.false_ne_true]
    refine put_new hkey hd' hfresh hxl fun h'' hd'' hs'' => ?_
    have hoo'' : h''.get? a = some oa := (hs''.2 a (Ne.symm hda)).trans hoo'
    refine wpAny_bind (wpAny_dictEpoch hoo'' hda' ?_)
    rw [if_neg (by simp)]
    exact wpAny_pure ⟨h'', x + 1, rfl, hrest, hlt, by rw [List.take_add_one, hkv]; exact hd'', hoo'', hs'.trans hs''⟩
  · rintro b s' ⟨h', i, rfl, hr, hi, hd', hoo', hs'⟩
    have hin : i = esa.size := by
      rcases Nat.lt_or_ge i esa.size with h | h
      · have e : esa.size - i = (esa.size - (i + 1)) + 1 := by omega
        rw [e, List.range'_succ] at hr; exact nomatch hr
      · exact Nat.le_antisymm hi h
    refine wpAny_pure (hQ h' ?_ hs')
    rw [hin, ← hlen, List.take_length] at hd'; exact hd'
end
end Mine
end

-- part H3
section
open PySem PySem.W PyProof.Rows
set_option Elab.async false
set_option maxRecDepth 100000
set_option linter.unusedVariables false
namespace Mine
section
variable {prog : Program} {w : World} {A : Around} {E : Value → Shared → Prop}
theorem keywords_in {s : Shared} {f : Value} {d : Addr} {kw : List (Str × Value)} {Q : List (Str × Value) → Shared → Prop} (hd : s.heap.DictOf (strKind prog w) d kw) (hQ : Q kw s) :
    wpAny (model prog w) A (keywordsIn f d) Q E s := by
  obtain ⟨od, es, epd, hod, hcd, hdd, hkd, hpd, hnd⟩ := id hd
  have hlen : es.toList.length = kw.length := hpd.length
  unfold keywordsIn
  refine wpAny_bind (wpAny_dictEntries hod hdd ?_)
  refine wpAny_bind ?_
  rw [← Array.forIn_toList]
  refine wpAny_forIn_list _ (fun rest b s' => s' = s ∧ ∃ i, rest = es.toList.drop i ∧ i ≤ es.toList.length ∧ b = kw.take i) _ ?_ ?_ _ _ ⟨rfl, 0, rfl, Nat.zero_le _, rfl⟩
  · rintro e rest b s' ⟨hs1, i, hr, hi, rfl⟩
    have hlt : i < es.toList.length := by
      rcases Nat.lt_or_ge i es.toList.length with h | h
      · exact h
      · rw [List.drop_eq_nil_of_le h] at hr; cases hr
    rw [List.drop_eq_getElem_cons hlt] at hr
    injection hr with h1 h2
    obtain ⟨kv, hkv⟩ : ∃ kv, kw[i]? = some kv := ⟨kw[i]'(by omega), List.getElem?_eq_getElem _⟩
    obtain ⟨k, v⟩ := kv
    have he : es[i]? = some e := by rw [← Array.getElem?_toList, List.getElem?_eq_getElem hlt, h1]
    obtain ⟨hkey, hval⟩ := hpd.get? (e := e) (by rw [Array.getElem?_toList]; exact he) hkv
    obtain ⟨t, ht⟩ := Value.isStrOf_shape hkey
    rw [ht, hval]
    refine wpAny_pure ⟨hs1, i + 1, h2, hlt, ?_⟩
    rw [List.take_add_one, hkv]; rfl
  · rintro b s' ⟨hs1, i, hr, hi, rfl⟩
    subst s'
    have hin : i = kw.length := by
      rcases Nat.lt_or_ge i es.toList.length with h | h
      · rw [List.drop_eq_getElem_cons h] at hr; cases hr
      · omega
    refine wpAny_pure ?_
    rw [hin, List.take_length]; exact hQ
theorem merged_kw {s : Shared} {f : Value} {x : Sem Value} {Q : Addr → Shared → Prop}
    (h : ∀ h0, s.heap.StaysIn h0 → h0 = s.heap.push { cls := .type "dict", data := .dict #[] } → wpAny (model prog w) A x (fun v s₁ => ∃ a kw, v = .ref a ∧ s₁.heap.DictOf (strKind prog w) a kw ∧ s₁.heap.DictOf (strKind prog w) s.heap.objs.size [] ∧ (a == sysModules) = false ∧ s.heap.objs.size ≠ a ∧ kw.length ≤ 64 ∧
      ∀ h', h'.DictOf (strKind prog w) s.heap.objs.size kw → Heap.SameBut s.heap.objs.size s₁.heap h' → Q s.heap.objs.size { s₁ with heap := h' }) E { s with heap := h0 }) :
    wpAny (model prog w) A (mergedKeywords f [(none, x)]) Q E s := by
  unfold mergedKeywords
  refine wpAny_bind (wpAny_alloc ?_)
  refine wpAny_bind (wpAny_holding ?_)
  dsimp only
  rw [List.forIn_cons]
  refine wpAny_bind (wpAny_bind ?_)
  dsimp only
  rw [show ([] : List (Str × Sem Value)).isEmpty = true from rfl, if_pos rfl]
  refine wpAny_bind (wpAny_pure ?_)
  refine wpAny_bind (wpAny_mono (h _ (fun b o e => Heap.get?_push_of_some _ e) rfl) (fun v s₁ h₁ => ?_) fun _ _ e => e)
  obtain ⟨a, kw, rfl, ha, hd, hS, hne, hsz, hq⟩ := h₁
  refine wpAny_bind (wpAny_onRaise (wpAny_holding (wpAny_tryCatch (wpAny_onRaise (merge_fresh hne hS hd ha hsz fun h' hd' hs' => ?_)))))
  refine wpAny_pure ?_
  dsimp only
  rw [List.forIn_nil]
  refine wpAny_pure ?_
  rw [show ([] : List (Str × Sem Value)).isEmpty = true from rfl, if_pos rfl]
  exact wpAny_pure (wpAny_pure (hq h' hd' hs'))
/-- the road of a starred call's arguments: one starred list, named ones out of a dict -/
theorem readLate_list {s : Shared} {l : Addr} {its : List Value} {c : Nat} {Q : List Value → Shared → Prop} (hl : s.heap.get? l = some (listOf its.toArray c)) (hz : its.length ≤ 64)
    (h : ∀ h', s.heap.StaysIn h' → Q its { s with heap := h' }) : W.StarOf (model prog w) A E (.ref l) Q s := by
  have hT' : s.TypeIs (.ref l) "list" := ⟨_, hl, rfl⟩
  unfold W.StarOf notIterableAtAll
  refine wpAny_bind (wpAny_specialOf hT' PySem.F.slot_list_iter.lookup (wpAny_pure ⟨rfl, ?_⟩))
  exact wpAny_collect_seq l (.inl rfl) hl rfl rfl (fun h' hk => by simpa using h h' hk) (by simp only [List.size_toArray]; rw [sizeLine_eq]; omega)
theorem star_args0 {s : Shared} {f : Value} {x y : Sem Value} {pos : Pos} {Q : Args → Shared → Prop}
    (h : wpAny (model prog w) A x (fun v s₁ => ∃ l its c, v = .ref l ∧ s₁.heap.get? l = some (listOf its.toArray c) ∧ its.length ≤ 64 ∧ ∀ h0, s₁.heap.StaysIn h0 → h0 = s₁.heap.push { cls := .type "dict", data := .dict #[] } →
      wpAny (model prog w) A y (fun u s₂ => ∃ a kw, u = .ref a ∧ s₂ = { s₁ with heap := h0 } ∧ h0.DictOf (strKind prog w) a kw ∧ (a == sysModules) = false ∧ a < s₁.heap.objs.size ∧ kw.length ≤ 64 ∧
        ∀ h', s₁.heap.StaysIn h' → Q ⟨its, kw⟩ { s₁ with heap := h' }) E { s₁ with heap := h0 }) E s) :
    wpAny (model prog w) A (evalArgs f true [(true, (do let v ← x; standAt pos; pure v))] [(none, y)]) Q E s := by
  unfold evalArgs
  refine wpAny_bind (wpAny_bind (wpAny_mono h (fun v s₁ h₁ => ?_) fun _ _ x => x))
  obtain ⟨l, its, c, rfl, hl, hz, hy⟩ := h₁
  refine wpAny_bind (wpAny_standAt (wpAny_pure ?_))
  refine wpAny_bind (wpAny_pure ?_)
  dsimp only
  refine wpAny_holding ?_
  rw [if_neg (by simp)]
  refine wpAny_bind (merged_kw fun h0 st0 e0 => wpAny_mono (hy h0 st0 e0) (fun u s₂ h₂ => ?_) fun _ _ e => e)
  obtain ⟨a, kw, rfl, rfl, ha, hS, hlt, hk, hq⟩ := h₂
  refine ⟨a, kw, rfl, ha, by rw [e0]; exact Heap.DictOf.new s₁.heap, hS, Nat.ne_of_gt hlt, hk, fun h1 hd1 hs1 => ?_⟩
  have st1 : s₁.heap.StaysIn h1 := fun b o e => (hs1.2 b (Nat.ne_of_lt (Heap.lt_size e))).trans (st0 _ _ e)
  have hst := readLate_list (E := E) (s := { s₁ with heap := h1 }) (l := l) (its := its) (c := c) (A := A) (prog := prog) (w := w) (Q := fun vs s' => wpAny (model prog w) A (holding (.ref s₁.heap.objs.size :: vs) (keywordsIn f s₁.heap.objs.size) >>= fun r => pure (⟨vs, r⟩ : Args)) Q E s') (st1 _ _ hl) hz fun h2 st2 => ?_
  · unfold W.StarOf at hst
    refine wpAny_bind (wpAny_bind (wpAny_mono hst (fun b s₃ h₃ => ?_) fun _ _ e => e))
    obtain ⟨rfl, h₃⟩ := h₃
    simp only [Bool.false_eq_true, if_false]
    exact wpAny_holding h₃
  · have hd2 : h2.DictOf (strKind prog w) s₁.heap.objs.size kw := by
      obtain ⟨o, es, ep, ho, r⟩ := hd1
      exact ⟨o, es, ep, st2 _ _ ho, r⟩
    exact wpAny_bind (wpAny_holding (keywords_in hd2 (wpAny_pure (hq h2 fun b o e => st2 _ _ (st1 _ _ e)))))
/-- one value ahead of the starred list -/
theorem star_args1 {s : Shared} {f : Value} {z x y : Sem Value} {pos : Pos} {Q : Args → Shared → Prop}
    (h : wpAny (model prog w) A z (fun iv s₀ => wpAny (model prog w) A x (fun v s₁ => ∃ l its c, v = .ref l ∧ s₁.heap.get? l = some (listOf its.toArray c) ∧ its.length ≤ 64 ∧ ∀ h', s₁.heap.StaysIn h' → ∀ h0, h'.StaysIn h0 → h0 = h'.push { cls := .type "dict", data := .dict #[] } →
      wpAny (model prog w) A y (fun u s₂ => ∃ a kw, u = .ref a ∧ s₂ = { s₁ with heap := h0 } ∧ h0.DictOf (strKind prog w) a kw ∧ (a == sysModules) = false ∧ a < h'.objs.size ∧ kw.length ≤ 64 ∧
        ∀ h'', h'.StaysIn h'' → Q ⟨iv :: its, kw⟩ { s₁ with heap := h'' }) E { s₁ with heap := h0 }) E s₀) E s) :
    wpAny (model prog w) A (evalArgs f true [(false, (do let v ← z; standAt pos; pure v)), (true, (do let v ← x; standAt pos; pure v))] [(none, y)]) Q E s := by
  unfold evalArgs
  refine wpAny_bind (m := spliced _) (Calls.spliced_cons ?_)
  refine wpAny_bind (wpAny_mono h (fun iv s₀ h₀ => ?_) fun _ _ e => e)
  refine wpAny_bind (wpAny_standAt (wpAny_pure ?_))
  refine W.ks_spliced (wpAny_mono h₀ (fun v s₁ h₁ => ?_) fun _ _ e => e)
  obtain ⟨l, its, c, rfl, hl, hz, hy⟩ := h₁
  refine readLate_list hl hz fun h1 st1 => ?_
  refine Calls.spliced_nil ?_
  refine wpAny_bind (wpAny_pure ?_)
  dsimp only
  refine wpAny_holding ?_
  rw [if_neg (by simp)]
  refine wpAny_bind (merged_kw fun h0 st0 e0 => wpAny_mono (hy h1 st1 h0 st0 e0) (fun u s₂ h₂ => ?_) fun _ _ e => e)
  obtain ⟨a, kw, rfl, rfl, ha, hS, hlt, hk, hq⟩ := h₂
  refine ⟨a, kw, rfl, ha, by rw [e0]; exact Heap.DictOf.new h1, hS, Nat.ne_of_gt hlt, hk, fun h2 hd2 hs2 => ?_⟩
  have st2 : h1.StaysIn h2 := fun b o e => (hs2.2 b (Nat.ne_of_lt (Heap.lt_size e))).trans (st0 _ _ e)
  refine wpAny_bind (wpAny_pure ?_)
  refine wpAny_bind (wpAny_holding (keywords_in hd2 (wpAny_pure ?_)))
  rw [List.append_nil]
  exact hq h2 st2
end
end Mine
end

-- part S1
section
open PySem PySem.W PyProof.Rows
set_option Elab.async false
set_option maxRecDepth 100000
set_option linter.unusedVariables false
namespace Mine
open PySem.Calls

/-- the end of a turn of a for loop: what the iterator owns stands; the rest is the invariant's -/
def FEnd (h₀ : Heap) (L : Addr) (wr : List Addr) (own : List (Addr × Obj)) (Jn : (Str → Option Value) → List (Addr × Obj) → Prop) (s₁ s₂ : Shared) : Prop :=
  ∃ h' tk m₂ ex₂, s₂ = { s₁ with heap := h', toks := tk } ∧ Fr h₀ L h' m₂ ∧ News h₀ L h' (ex₂ ++ own) ∧ (∀ p ∈ ex₂, p.1 ∉ wr) ∧ Jn m₂ ex₂
theorem FEnd.intro {h₀ : Heap} {L : Addr} {wr : List Addr} {own : List (Addr × Obj)} {Jn : (Str → Option Value) → List (Addr × Obj) → Prop} {s₁ : Shared} {h' : Heap} {tk : Nat} {m₂ : Str → Option Value} (ex₂ : List (Addr × Obj))
    (F : Fr h₀ L h' m₂) (N : News h₀ L h' (ex₂ ++ own)) (off : ∀ p ∈ ex₂, p.1 ∉ wr) (j : Jn m₂ ex₂) : FEnd h₀ L wr own Jn s₁ { s₁ with heap := h', toks := tk } := ⟨h', tk, m₂, ex₂, rfl, F, N, off, j⟩
/-- what is new is none of the iterator's -/
theorem grew_off {h₀ h h' : Heap} {L : Addr} {wr : List Addr} {own tl : List (Addr × Obj)} (N : News h₀ L h own) (hw : ∀ b ∈ wr, ∃ o, (b, o) ∈ own) (g : Grew h h' tl) : ∀ p ∈ tl, p.1 ∉ wr := fun p hp hb => by
  obtain ⟨o, ho⟩ := hw _ hb
  have e := (N _ ho).1
  have e2 := (g.new p hp).2
  rw [e2] at e; cases e

section
variable {prog : Program} {w : World} {A : Around} {E : Value → Shared → Prop} {s : Shared} {h₀ : Heap} {env : Env}
def FlowEnd (h₀ : Heap) (L : Addr) (wr : List Addr) (own : List (Addr × Obj)) (Jn : (Str → Option Value) → List (Addr × Obj) → Prop) (Q : Flow → Shared → Prop) (s₁ : Shared) (f : Flow) (s₂ : Shared) : Prop :=
  match f with
  | .next | .cont => FEnd h₀ L wr own Jn s₁ s₂
  | .brk => Q .next s₂
  | .ret v => Q (.ret v) s₂
def ForAt (prog : Program) (w : World) (A : Around) (h₀ : Heap) (env : Env) (x x₂ : Str) (body : List Stmt) (Q : Flow → Shared → Prop) (E : Value → Shared → Prop) (it : Value) (s₂ : Shared) : Prop :=
  ∃ (I : Addr) (fp wr : List Addr) (n : Nat) (Pt : Nat → Array Value → Prop) (St : Nat → Heap → Prop) (Mid : Nat → Addr → Heap → Prop) (P : Nat → Value → Value → Prop) (m : Str → Option Value) (ex : List (Addr × Obj))
    (J : Nat → (Str → Option Value) → List (Addr × Obj) → Prop),
    it = .ref I ∧ WalksU prog w A I fp wr n Pt St Mid ∧ (∀ i vals, Pt i vals → ∃ a b, vals = #[a, b] ∧ P i a b) ∧ env.locals ∉ fp ∧ (∀ b ∈ wr, h₀.get? b = none) ∧ (∀ b ∈ wr, ∀ i h, St i h → ∃ o, h.get? b = some o) ∧ (∀ p ∈ ex, p.1 ∉ wr) ∧ St 0 s₂.heap ∧
    Fr h₀ env.locals s₂.heap m ∧ News h₀ env.locals s₂.heap ex ∧ J 0 m ex ∧
    (∀ i a b m₁ ex₁ own h tk, i < n → P i a b → J i m₁ ex₁ → (∀ p ∈ ex₁, p.1 ∉ wr) → (∀ b ∈ wr, ∃ o, (b, o) ∈ own) → (∀ p ∈ own, p.1 ∈ fp) → St (i + 1) h → Fr h₀ env.locals h m₁ → News h₀ env.locals h (ex₁ ++ own) →
      (∀ (Q' : Shared → Prop), (∀ h' tk' m' ex', Fr h₀ env.locals h' m' → News h₀ env.locals h' (ex' ++ own) → (∀ p ∈ ex', p.1 ∉ wr) → J (i + 1) m' ex' → Q' { s₂ with heap := h', toks := tk' }) →
      wpAny (model prog w) A (storeName env x a) (fun _ s₃ => wpAny (model prog w) A (storeName env x₂ b) (fun _ s₄ => wpAny (model prog w) A (execs body env) (fun f s₅ => match f with
        | .next | .cont => Q' s₅
        | .brk => Q .next s₅
        | .ret v => Q (.ret v) s₅) E s₄) E s₃) E { s₂ with heap := h, toks := tk })) ∧
    (∀ h' tk m' ex', Fr h₀ env.locals h' m' → News h₀ env.locals h' ex' → (∀ p ∈ ex', p.1 ∉ wr) → J n m' ex' → Q .next { s₂ with heap := h', toks := tk })

theorem forLoop_pairs {R : Result → Shared → Prop} {x x₂ : Str} {px px₂ tp : Pos} {x1 : Nat} {body : List Stmt} {I : Addr} {fp wr : List Addr} {n : Nat} {Pt : Nat → Array Value → Prop} {St : Nat → Heap → Prop} {Mid : Nat → Addr → Heap → Prop}
    {P : Nat → Value → Value → Prop} {m : Str → Option Value} {ex : List (Addr × Obj)} {s₂ : Shared} (hh : A.handled = none) (W : WalksU prog w A I fp wr n Pt St Mid) (hPt : ∀ i vals, Pt i vals → ∃ a b, vals = #[a, b] ∧ P i a b)
    (hLf : env.locals ∉ fp) (hwr : ∀ b ∈ wr, h₀.get? b = none) (hlive : ∀ b ∈ wr, ∀ i h, St i h → ∃ o, h.get? b = some o) (hnw : ∀ p ∈ ex, p.1 ∉ wr)
    (hst : St 0 s₂.heap) (F : Fr h₀ env.locals s₂.heap m) (N : News h₀ env.locals s₂.heap ex)
    (J : Nat → (Str → Option Value) → List (Addr × Obj) → Prop) (h0 : J 0 m ex)
    (step : ∀ i a b m₁ ex₁ own h tk, i < n → P i a b → J i m₁ ex₁ → (∀ p ∈ ex₁, p.1 ∉ wr) → (∀ b ∈ wr, ∃ o, (b, o) ∈ own) → (∀ p ∈ own, p.1 ∈ fp) → St (i + 1) h → Fr h₀ env.locals h m₁ → News h₀ env.locals h (ex₁ ++ own) →
      (∀ (Q' : Shared → Prop), (∀ h' tk' m' ex', Fr h₀ env.locals h' m' → News h₀ env.locals h' (ex' ++ own) → (∀ p ∈ ex', p.1 ∉ wr) → J (i + 1) m' ex' → Q' { s₂ with heap := h', toks := tk' }) →
      wpAny (model prog w) A (storeName env x a) (fun _ s₃ => wpAny (model prog w) A (storeName env x₂ b) (fun _ s₄ => wpAny (model prog w) A (execs body env) (fun f s₅ => match f with
        | .next | .cont => Q' s₅
        | .brk => R (.ok .next) s₅
        | .ret v => R (.ok (.ret v)) s₅) (notedBy (model prog w) A env fun e s' => R (.error e) s') s₄) (notedBy (model prog w) A env fun e s' => R (.error e) s') s₃) (notedBy (model prog w) A env fun e s' => R (.error e) s') { s₂ with heap := h, toks := tk }))
    (hR : ∀ h' tk m' ex', Fr h₀ env.locals h' m' → News h₀ env.locals h' ex' → (∀ p ∈ ex', p.1 ∉ wr) → J n m' ex' → R (.ok .next) { s₂ with heap := h', toks := tk }) :
    codeAny (model prog w) A (.forLoop (.Tuple [.Name x px, .Name x₂ px₂] x1 tp) (.ref I) body [] env) R s₂ := by
  have hLw : env.locals ∉ wr := fun h => hLf (W.sub _ h)
  have old : ∀ b o, h₀.get? b = some o → b ∉ wr := fun b o e hb => by rw [hwr b hb] at e; cases e
  refine codeAny_forLoop_any
    (fun k s' => ∃ h' tk m' ex' i, s' = { s₂ with heap := h', toks := tk } ∧ St i h' ∧ Fr h₀ env.locals h' m' ∧ News h₀ env.locals h' ex' ∧ (∀ p ∈ ex', p.1 ∉ wr) ∧ J i m' ex' ∧ i ≤ n ∧ k = n + 1 - i) ?_ (n + 1)
    ⟨s₂.heap, s₂.toks, m, ex, 0, rfl, hst, F, N, hnw, h0, Nat.zero_le _, rfl⟩
  rintro k s' ⟨H, tk, m', ex', i, rfl, hst', F', N', hnw', hJ, hi, rfl⟩
  have next : ∀ h₁ : Heap, (∀ b o, b ∉ wr → H.get? b = some o → h₁.get? b = some o) → Fr h₀ env.locals h₁ m' ∧ News h₀ env.locals h₁ ex' := fun h₁ hk₁ =>
    ⟨⟨F'.ns.at' fun o e => hk₁ _ o hLw e, fun b o e => hk₁ b o (old b o e) (F'.keep b o e), F'.above⟩, fun p hp => ⟨hk₁ _ _ (hnw' p hp) (N' p hp).1, (N' p hp).2⟩⟩
  by_cases hlt : i < n
  · refine W.item i _ _ _ hlt hst' fun T vals h₁ tk₁ hPv hT hMid hk₁ => ?_
    obtain ⟨v0, v1, rfl, hP2⟩ := hPt i vals hPv
    refine W.go _ _ _ i T _ _ _ hMid fun h₂ hst₂ hk₂ => ?_
    have ht₂ : h₂.IsTuple T #[v0, v1] := hT.at fun o e => hk₂ T o (W.apart i T h₁ hMid) e
    refine assign_Tuple_tuple hh ht₂ rfl rfl fun h₃ hx₃ => ?_
    replace hx₃ : Heap.ExtBut h₂.objs.size h₂ h₃ := hx₃
    have up₃ : ∀ b o, h₂.get? b = some o → h₃.get? b = some o := fun b o x => hx₃ b o (Nat.ne_of_lt (Heap.lt_size x)) x
    obtain ⟨F₃, N₃⟩ := next h₃ fun b o hb x => up₃ b o (hk₂ b o hb (hk₁ b o hb x))
    have hst₃ : St (i + 1) h₃ := W.frame _ _ _ hst₂ fun b hb o e => up₃ b o e
    have hw : ∀ b ∈ wr, ∃ o, (b, o) ∈ ownOf h₀ fp h₃ := fun b hb => by
      obtain ⟨o, e⟩ := hlive b hb _ _ hst₃
      exact ⟨o, mem_ownOf (W.sub b hb) (hwr b hb) e⟩
    have st := step i v0 v1 m' ex' (ownOf h₀ fp h₃) h₃ tk₁ hlt hP2 hJ hnw' hw ownOf_sub hst₃ F₃ (N₃.append (news_ownOf hLf)) (fun s₅ => ∃ k', k' < n + 1 - i ∧ ∃ h' tk m' ex' i, s₅ = { s₂ with heap := h', toks := tk } ∧ St i h' ∧ Fr h₀ env.locals h' m' ∧ News h₀ env.locals h' ex' ∧ (∀ p ∈ ex', p.1 ∉ wr) ∧ J i m' ex' ∧ i ≤ n ∧ k' = n + 1 - i)
      fun h₆ tk₆ m₆ ex₆ F₆ N₆ off₆ hJ₆ => ?_
    · refine assignInOrder_cons (wpAny_assign_Name (wpAny_mono st (fun _ s₃ h₃' => ?_) fun _ _ e => e))
      refine assignInOrder_cons (wpAny_assign_Name (wpAny_mono h₃' (fun _ s₄ h₄' => ?_) fun _ _ e => e))
      refine assignInOrder_nil ?_
      exact wpAny_mono h₄' (fun f s₅ h₅' => by cases f <;> exact h₅') fun _ _ e => e
    · refine ⟨n + 1 - (i + 1), by omega, h₆, tk₆, m₆, ex₆, i + 1, rfl, ?_, F₆, (fun p hp => N₆ p (List.mem_append_left _ hp)), off₆, hJ₆, hlt, rfl⟩
      refine W.frame _ _ _ hst₃ fun b hb o e => ?_
      cases hn : h₀.get? b with
      | some o₀ =>
        have : o₀ = o := by have q := F₃.keep b o₀ hn; rw [e] at q; exact (Option.some.inj q).symm
        exact this ▸ F₆.keep b o₀ hn
      | none => exact (N₆ _ (List.mem_append_right _ (mem_ownOf hb hn e))).1
  · have hin : i = n := by omega
    subst hin
    refine W.done _ _ _ hst' fun h₁ tk₁ hk₁ => wpAny_execs_nil ?_
    obtain ⟨F₁, N₁⟩ := next h₁ hk₁
    exact hR h₁ tk₁ m' ex' F₁ N₁ hnw' hJ

theorem For_pairs {Q : Flow → Shared → Prop} {x x₂ : Str} {px px₂ tp pos : Pos} {x1 : Nat} {iter : Expr} {body : List Stmt} {m : Str → Option Value} (_F : Fr h₀ env.locals s.heap m) (hh : A.handled = none)
    (h : wpAny (model prog w) A (eval iter env) (fun xv s₁ => wpAny (model prog w) A (pyIter xv) (fun it s₂ => ForAt prog w A h₀ env x x₂ body Q E it s₂) E s₁) E s)
    (hs : ∀ x, foldedSetIterable iter env x = pure x) (hE : PassesOwn (model prog w) A env E := by passes_own) :
    wpAny (model prog w) A (exec (.For (.Tuple [.Name x px, .Name x₂ px₂] x1 tp) iter body [] pos) env) Q E s := by
  refine wpAny_For (wpAny_mono h (fun xv s₁ h₁ => wpAny_mono h₁ (fun it s₂ h₂ => ?_) fun _ _ e => e) fun _ _ e => e) hs
  obtain ⟨I, fp, wr, n, Pt, St, Mid, P, m, ex, J, rfl, W, hPt, hLf, hwr, hlive, hnw, hst, F, N, h0, step, hR⟩ := h₂
  exact forLoop_pairs (R := fun r s' => match r with | .ok f => Q f s' | .error e => cameBackBy (model prog w) A env E e s') hh W hPt hLf hwr hlive hnw hst F N J h0
    (fun i a b m₁ ex₁ own h tk c d e f g g' g2 k l Q' hq => wpAny_mono (step i a b m₁ ex₁ own h tk c d e f g g' g2 k l Q' hq) (fun _ _ x => wpAny_mono x (fun _ _ y => wpAny_passesOwn hE y) hE) hE) hR
end
end Mine
end

-- part S3
section
open PySem PySem.W PyProof.Rows
set_option Elab.async false
set_option maxRecDepth 100000
set_option linter.unusedVariables false
namespace Mine
open PySem.Calls
/-- two local names turn, the others stand -/
def LocJ (m0 : Str → Option Value) (x x₂ : Str) (m₁ : Str → Option Value) : Prop := ∃ oa ob : Option Value, m₁ = fun y => if y = x₂ then ob else if y = x then oa else m0 y
theorem LocJ.start {m0 : Str → Option Value} {x x₂ : Str} : LocJ m0 x x₂ m0 := ⟨m0 x, m0 x₂, by
  funext y
  by_cases h : y = x₂
  · subst h; simp
  · by_cases h2 : y = x
    · subst h2; simp [h]
    · simp [h, h2]⟩
theorem LocJ.set {m0 : Str → Option Value} {x x₂ : Str} {oa ob a b : Option Value} : LocJ m0 x x₂ (fun y => if y = x₂ then b else if y = x then a else (fun y => if y = x₂ then ob else if y = x then oa else m0 y) y) :=
  ⟨a, b, by funext y; by_cases h : y = x₂ <;> by_cases h2 : y = x <;> simp [h, h2]⟩
theorem LocJ.of {m0 m' : Str → Option Value} {x x₂ : Str} (h : ∀ y, ¬ y = x₂ → ¬ y = x → m' y = m0 y) : LocJ m0 x x₂ m' := ⟨m' x, m' x₂, by
  funext y
  by_cases h1 : y = x₂
  · subst h1; simp
  · by_cases h2 : y = x
    · subst h2; simp [h1]
    · simp [h1, h2, h y h1 h2]⟩
theorem fr_new {h₀ h : Heap} {L a : Addr} {m : Str → Option Value} (F : Fr h₀ L h m) (k : h.objs.size ≤ a) : h₀.get? a = none ∧ L ≠ a := by
  refine ⟨?_, Nat.ne_of_lt (Nat.lt_of_lt_of_le F.ns.lt k)⟩
  cases e : h₀.get? a with
  | none => rfl
  | some o => exact absurd (Heap.lt_size (F.keep _ _ e)) (Nat.not_lt.mpr k)
section
variable {prog : Program} {w : World} {A : Around} {E : Value → Shared → Prop} {s : Shared} {h₀ : Heap} {env : Env}
theorem forAt_zip {z TI TO i1 i2 p1 p2 : Addr} {xs ys : List Value} {x x₂ : Str} {body : List Stmt} {Q : Flow → Shared → Prop} {m mp : Str → Option Value} {ex : List (Addr × Obj)} {hp : Heap} {s₂ : Shared} (hh : A.handled = none) (D : ZipApart z TI TO i1 i2 p1 p2)
    (hS : IsZip s₂.heap z TI TO .none ∧ IsPair s₂.heap TI (.ref i1) (.ref i2) ∧ (∃ a b, IsPair s₂.heap TO a b) ∧ s₂.heap.IsListIter i1 p1 0 ∧ s₂.heap.IsListIter i2 p2 0 ∧ s₂.heap.IsList p1 xs.toArray ∧ s₂.heap.IsList p2 ys.toArray)
    (F : Fr h₀ env.locals s₂.heap m) (N : News h₀ env.locals s₂.heap ex) (Fp : Fr h₀ env.locals hp mp) (Np : News h₀ env.locals hp ex) (kz : hp.objs.size ≤ z) (kTO : hp.objs.size ≤ TO) (k1 : hp.objs.size ≤ i1) (k2 : hp.objs.size ≤ i2)
    (hp1 : h₀.IsList p1 xs.toArray) (hp2 : h₀.IsList p2 ys.toArray) (J : Nat → (Str → Option Value) → Prop) (h0 : J 0 m)
    (step : ∀ i a b m₁ own h tk, xs[i]? = some a → ys[i]? = some b → J i m₁ → Fr h₀ env.locals h m₁ → News h₀ env.locals h (ex ++ own) →
      (∀ (Q' : Shared → Prop), (∀ h' tk' m', Fr h₀ env.locals h' m' → News h₀ env.locals h' (ex ++ own) → J (i + 1) m' → Q' { s₂ with heap := h', toks := tk' }) →
      wpAny (model prog w) A (storeName env x a) (fun _ s₃ => wpAny (model prog w) A (storeName env x₂ b) (fun _ s₄ => wpAny (model prog w) A (execs body env) (fun f s₅ => match f with
        | .next | .cont => Q' s₅
        | .brk => Q .next s₅
        | .ret v => Q (.ret v) s₅) E s₄) E s₃) E { s₂ with heap := h, toks := tk }))
    (fin : ∀ h' tk m', Fr h₀ env.locals h' m' → News h₀ env.locals h' ex → J (min xs.length ys.length) m' → Q .next { s₂ with heap := h', toks := tk }) :
    ForAt prog w A h₀ env x x₂ body Q E (.ref z) s₂ := by
  have old : ∀ a o, h₀.get? a = some o → env.locals ≠ a := fun a o e => Nat.ne_of_gt (Nat.lt_of_lt_of_le (Heap.lt_size e) F.above)
  have offp : ∀ p ∈ ex, p.1 < hp.objs.size := fun p hp' => Heap.lt_size (Np p hp').1
  have wrn : ∀ b ∈ [z, TO, i1, i2], hp.objs.size ≤ b := by
    intro b hb
    simp only [List.mem_cons, List.not_mem_nil, or_false] at hb
    rcases hb with rfl | rfl | rfl | rfl <;> assumption
  have off : ∀ p ∈ ex, p.1 ∉ [z, TO, i1, i2] := fun p hp' hm => absurd (offp p hp') (Nat.not_lt.mpr (wrn _ hm))
  have hTI : env.locals ≠ TI := fun e => by
    have q := hS.2.1
    obtain ⟨o, es, ep, ho, hd, _⟩ := F.ns
    rw [e] at ho
    rw [show s₂.heap.get? TI = _ from q] at ho
    cases ho; cases hd
  refine ⟨z, _, _, _, _, _, _, fun i a b => xs[i]? = some a ∧ ys[i]? = some b, m, ex, fun i m₁ ex₁ => ex₁ = ex ∧ J i m₁, rfl, (WalksT.zip2 hh _ _ _ _ _ _ _ D xs.toArray ys.toArray).toU, ?_, ?_, fun b hb => (fr_new Fp (wrn b hb)).1, ?_, off, hS, F, N, ⟨rfl, h0⟩, ?_, ?_⟩
  · rintro i vals ⟨a, b, ha, hb, rfl⟩
    exact ⟨a, b, rfl, by simpa using ha, by simpa using hb⟩
  · intro hm
    simp only [List.mem_cons, List.not_mem_nil, or_false] at hm
    obtain ⟨o1, e1, _⟩ := hp1
    obtain ⟨o2, e2, _⟩ := hp2
    rcases hm with e | e | e | e | e | e | e
    · exact (fr_new Fp kz).2 e
    · exact hTI e
    · exact (fr_new Fp kTO).2 e
    · exact (fr_new Fp k1).2 e
    · exact (fr_new Fp k2).2 e
    · exact old _ _ e1 e
    · exact old _ _ e2 e
  · rintro b hb i h ⟨a1, a2, ⟨a, c, a3⟩, ⟨o4, a4, _⟩, ⟨o5, a5, _⟩, _⟩
    simp only [List.mem_cons, List.not_mem_nil, or_false] at hb
    rcases hb with rfl | rfl | rfl | rfl
    · exact ⟨_, a1⟩
    · exact ⟨_, a3⟩
    · exact ⟨_, a4⟩
    · exact ⟨_, a5⟩
  · rintro i a b m₁ ex₁ own h tk hlt ⟨ha, hb⟩ ⟨rfl, hJ⟩ off₁ hw hof hst₁ F₁ N₁ Q' hq
    exact step i a b m₁ own h tk ha hb hJ F₁ N₁ Q' fun h' tk' m' F' N' hJ' => hq h' tk' m' _ F' N' off ⟨rfl, hJ'⟩
  · rintro h' tk m' ex' F' N' off' ⟨rfl, hJ'⟩
    exact fin h' tk m' F' N' (by simpa using hJ')
end
end Mine
end

-- part S4
section
open PySem PySem.W PyProof.Rows
set_option Elab.async false
set_option maxRecDepth 100000
set_option linter.unusedVariables false
namespace Mine
open PySem.Calls
section
variable {prog : Program} {w : World} {A : Around} {E : Value → Shared → Prop} {s : Shared} {h₀ : Heap} {env : Env}
theorem forAt_items {l : Addr} {its : List Value} {kw : List (Str × Value)} {kn : List (Addr × Obj)} {x x₂ : Str} {body : List Stmt} {Q : Flow → Shared → Prop} {m : Str → Option Value} {ex : List (Addr × Obj)} {s₁ : Shared} (hh : A.handled = none)
    (hl : h₀.IsList l its.toArray) (hit : ItemsIn kn its kw) (hkn : KnOk kn h₀) (F : Fr h₀ env.locals s₁.heap m) (N : News h₀ env.locals s₁.heap ex) (J : Nat → (Str → Option Value) → List (Addr × Obj) → Prop) (h0 : J 0 m ex)
    (step : ∀ i xn t u m₁ ex₁ I oI h tk, kw[i]? = some (xn, u) → J i m₁ ex₁ → Fr h₀ env.locals h m₁ → News h₀ env.locals h (ex₁ ++ [(I, oI)]) → (∀ p ∈ ex₁, p.1 ≠ I) →
      (∀ (Q' : Shared → Prop), (∀ h' tk' m' ex', Fr h₀ env.locals h' m' → News h₀ env.locals h' (ex' ++ [(I, oI)]) → (∀ p ∈ ex', p.1 ≠ I) → J (i + 1) m' ex' → Q' { s₁ with heap := h', toks := tk' }) →
      wpAny (model prog w) A (storeName env x (.str xn t)) (fun _ s₃ => wpAny (model prog w) A (storeName env x₂ u) (fun _ s₄ => wpAny (model prog w) A (execs body env) (fun f s₅ => match f with
        | .next | .cont => Q' s₅
        | .brk => Q .next s₅
        | .ret v => Q (.ret v) s₅) E s₄) E s₃) E { s₁ with heap := h, toks := tk }))
    (fin : ∀ h' tk m' ex', Fr h₀ env.locals h' m' → News h₀ env.locals h' ex' → J kw.length m' ex' → Q .next { s₁ with heap := h', toks := tk }) :
    wpAny (model prog w) A (pyIter (.ref l)) (fun it s₂ => ForAt prog w A h₀ env x x₂ body Q E it s₂) E s₁ := by
  have old : ∀ a o, h₀.get? a = some o → env.locals ≠ a := fun a o e => Nat.ne_of_gt (Nat.lt_of_lt_of_le (Heap.lt_size e) F.above)
  have hl1 : s₁.heap.IsList l its.toArray := by obtain ⟨o, e, r⟩ := hl; exact ⟨o, F.keep _ _ e, r⟩
  have ll : l < s₁.heap.objs.size := by obtain ⟨o, e, _⟩ := hl1; exact Heap.lt_size e
  refine wpAny_pyIter_list hl1 ?_
  have up : ∀ b o, s₁.heap.get? b = some o → (s₁.heap.push { cls := .type "list_iterator", data := .fields #[.ref l, .int 0 0] }).get? b = some o := fun b o e => Heap.get?_push_of_some _ e
  have hg : ∀ i, i < its.length → ∃ a k xn t u, its[i]? = some (.ref a) ∧ kw[i]? = some (xn, u) ∧ (a, tupO [.str xn t, u] k) ∈ kn := fun i hi => by
    obtain ⟨a, k, xn, t, u, e, e2, e3⟩ := hit.get i its[i] (by simp [hi])
    exact ⟨a, k, xn, t, u, by simp [hi, e], e2, e3⟩
  have hs0 : ∀ a k v, (a, tupO v k) ∈ kn → a < s₁.heap.objs.size := fun a k v hm => Heap.lt_size (F.keep _ _ (hkn _ hm))
  have itm : ∀ j, j < its.toArray.size → ∃ a k v, refOf (its.getD j .none) = a ∧ its[j]? = some (.ref a) ∧ (a, tupO v k) ∈ kn := fun j hj => by
    obtain ⟨a, k, xn, t, u, e, _, e3⟩ := hg j (by simpa using hj)
    exact ⟨a, k, _, by simp [List.getD, e, refOf], e, e3⟩
  have W := walksU_of (Walks.list (prog := prog) (w := w) hh s₁.heap.objs.size l (Nat.ne_of_lt ll) its.toArray) (fun i s Q E elts k pos T st q => letGo_listiter st.1 q)
    (fun i => refOf (its.getD i .none)) (fun i => match s₁.heap.get? (refOf (its.getD i .none)) with | some ⟨_, _, .seq v _, _⟩ => v | _ => #[])
    (fun i v hi hv => by
      obtain ⟨a, k, vv, e1, e2, e3⟩ := itm i hi
      have hv' : its[i]? = some v := by simpa using hv
      rw [e2] at hv'; cases hv'
      rw [e1])
    (fun j hj => by
      obtain ⟨a, k, vv, e1, e2, e3⟩ := itm j hj
      rw [e1]; exact Nat.ne_of_lt (hs0 _ _ _ e3))
  refine ⟨s₁.heap.objs.size, _, _, _, _, _, _, fun i a b => ∃ xn t, a = .str xn t ∧ kw[i]? = some (xn, b), m, ex, fun i m₁ ex₁ => J i m₁ ex₁, rfl, W.bound, ?_, ?_, ?_, ?_, ?_, ?_, F.push _, N.grown up, h0, ?_, ?_⟩
  · rintro i vals ⟨hi, rfl⟩
    obtain ⟨a, k, xn, t, u, e, e2, e3⟩ := hg i (by simpa using hi)
    have eh := F.keep _ _ (hkn _ e3)
    refine ⟨.str xn t, u, ?_, xn, t, rfl, e2⟩
    have : refOf (its.getD i .none) = a := by simp [List.getD, e, refOf]
    simp only [this, eh]
  · intro hm
    rcases List.mem_append.mp hm with hm | hm
    · rcases List.mem_cons.mp hm with e | hm
      · exact Nat.ne_of_lt F.ns.lt e
      · obtain ⟨o, e, _⟩ := hl
        exact old _ _ e (List.mem_singleton.mp hm)
    · obtain ⟨j, hj, e⟩ := List.mem_map.mp hm
      obtain ⟨a, k, vv, e1, e2, e3⟩ := itm j (List.mem_range.mp hj)
      exact old _ _ (hkn _ e3) (by rw [← e, e1])
  · intro b hb
    rw [List.mem_singleton.mp hb]
    cases q : h₀.get? s₁.heap.objs.size with
    | none => rfl
    | some o => exact absurd (Heap.lt_size (F.keep _ _ q)) (Nat.lt_irrefl _)
  · rintro b hb i h ⟨⟨⟨o, e, _⟩, _⟩, _⟩
    rw [List.mem_singleton.mp hb]; exact ⟨o, e⟩
  · intro p hp hb
    exact Nat.ne_of_lt (Heap.lt_size (N p hp).1) (List.mem_singleton.mp hb)
  · refine ⟨⟨⟨_, Heap.get?_push_size _ rfl, rfl, rfl⟩, hl1.push _⟩, fun j hj => ?_⟩
    obtain ⟨a, k, vv, e1, e2, e3⟩ := itm j hj
    have eh := F.keep _ _ (hkn _ e3)
    simp only [e1, eh]
    exact ⟨_, up _ _ eh, rfl, _, rfl⟩
  · rintro i a b m₁ ex₁ own h tk hlt ⟨xn, t, rfl, hk⟩ hJ off₁ hw hof hst₁ F₁ N₁ Q' hq
    obtain ⟨oI, hI⟩ := hw _ (List.mem_singleton.mpr rfl)
    have offI : ∀ p ∈ ex₁, p.1 ≠ s₁.heap.objs.size := fun p hp e => off₁ p hp (List.mem_singleton.mpr e)
    have one : ∀ p ∈ own, p = (s₁.heap.objs.size, oI) := fun p hp => by
      have hp1 := N₁ p (List.mem_append_right _ hp)
      have hI1 := N₁ _ (List.mem_append_right _ hI)
      have e : p.1 = s₁.heap.objs.size := by
        rcases List.mem_append.mp (hof p hp) with hm | hm
        · rcases List.mem_cons.mp hm with e | hm
          · exact e
          · obtain ⟨o, e, _⟩ := hl
            rw [List.mem_singleton.mp hm, e] at hp1
            exact nomatch hp1.2.2
        · obtain ⟨j, hj, e⟩ := List.mem_map.mp hm
          obtain ⟨a, k, vv, e1, e2, e3⟩ := itm j (List.mem_range.mp hj)
          have := hp1.2.2
          rw [← e, e1, hkn _ e3] at this
          exact nomatch this
      have e2 := hp1.1
      rw [e, hI1.1] at e2
      exact Prod.ext e (Option.some.inj e2).symm
    refine step i xn t b m₁ ex₁ s₁.heap.objs.size oI h tk hk hJ F₁ (fun p hp => ?_) offI Q' fun h' tk' m' ex' F' N' off' hJ' => hq h' tk' m' ex' F' (fun p hp => ?_) (fun p hp hm => off' p hp (List.mem_singleton.mp hm)) hJ'
    · rcases List.mem_append.mp hp with hp | hp
      · exact N₁ p (List.mem_append_left _ hp)
      · rw [List.mem_singleton.mp hp]; exact N₁ _ (List.mem_append_right _ hI)
    · rcases List.mem_append.mp hp with hp | hp
      · exact N' p (List.mem_append_left _ hp)
      · rw [one p hp]; exact N' _ (List.mem_append_right _ (List.mem_singleton.mpr rfl))
  · rintro h' tk m' ex' F' N' off' hJ'
    exact fin h' tk m' ex' F' N' (by rw [← hit.length]; simpa using hJ')
end
end Mine
end

-- part S5
section
open PySem PySem.W PyProof.Rows
set_option Elab.async false
set_option maxRecDepth 100000
set_option linter.unusedVariables false
namespace Mine
open PySem.Calls PyProof.Rows.LCg
section
variable {prog : Program} {w : World} {A : Around} {E : Value → Shared → Prop} {s : Shared} {h₀ : Heap} {L : Addr} {m : Str → Option Value} {env : Env}
theorem psrc_core {elt : Expr} {ifs : List Expr} {x x₂ : Str} {scope : Scope} {cl : List (Str × Addr)} {Q : Value → Shared → Prop} {s₂ : Shared} {I : Addr} {arr : List Value} {kw : List (Str × Value)} {fp0 : List Addr} {St0 : Nat → Heap → Prop} {kn cst ex : List (Addr × Obj)} (hh : A.handled = none)
    (W0 : Walks prog w A I fp0 [I] arr.length (fun i v => arr[i]? = some v) St0) (go : ∀ i (s : Shared) (Q : Unit → Shared → Prop) (E : Value → Shared → Prop) elts k pos T, St0 i s.heap → Q () s → wpAny (model prog w) A (letOwnedTupleGo (.Tuple elts k pos) (.ref I) (.ref T)) Q E s)
    (hIo : ∀ i h, St0 i h → ∃ o, h.get? I = some o) (hst : St0 0 s₂.heap) (hfp0 : ∀ b ∈ fp0, b = I ∨ (∃ o, h₀.get? b = some o) ∨ ∃ o, (b, o) ∈ cst) (hit : ItemsIn kn arr kw) (hkn : KnOk kn s₂.heap) (hcov : ∀ p ∈ kn, (∃ o, h₀.get? p.1 = some o) ∨ ∃ o, (p.1, o) ∈ cst)
    (hkI : ∀ p ∈ kn, p.1 ≠ I) (hz : arr.length ≤ 64) (F : Fr h₀ L s₂.heap m) (N : News h₀ L s₂.heap (cst ++ ex)) (hIL : L ≠ I) (hI₀ : h₀.get? I = none) (off : ∀ p ∈ cst ++ ex, p.1 ≠ I) (J : Nat → List Value → List (Addr × Obj) → Prop) (hJ : J 0 [] ex)
    (turn : ∀ i ys ex xn t u I oI C oC D m₂ h tk (E' : Value → Shared → Prop), kw[i]? = some (xn, u) → J i ys ex → NsObj oC m₂ → m₂ x = some (.str xn t) → m₂ x₂ = some u → Fr h₀ L h m → News h₀ L h ((I, oI) :: (C, oC) :: (D, lst ys) :: (cst ++ ex)) → Off3 I C D (cst ++ ex) →
      ((@Ne Nat I C) ∧ (@Ne Nat I D) ∧ (@Ne Nat C D)) →
      wpAny (model prog w) A (forIn ifs true fun c r => if r = true then do let ok ← isTrue c (compEnvC scope cl C env) (eval c (compEnvC scope cl C env)); pure (ForInStep.yield ok) else pure (ForInStep.yield r)) (fun ok s₃ =>
        if ok = true then wpAny (model prog w) A (eval elt (compEnvC scope cl C env)) (fun y s₄ => PEnd h₀ L m { s₂ with heap := h, toks := tk } I oI C oC D (lst ys) cst (J (i + 1) (ys ++ [y])) s₄) E' s₃
        else PEnd h₀ L m { s₂ with heap := h, toks := tk } I oI C oC D (lst ys) cst (J (i + 1) ys) s₃) E' { s₂ with heap := h, toks := tk })
    (fin : ∀ D h tk ys ex', Fr h₀ L h m → News h₀ L h ((D, lst ys) :: (cst ++ ex')) → Off1 D (cst ++ ex') → J kw.length ys ex' → Q (.ref D) { s₂ with heap := h, toks := tk }) :
    PSrc prog w A h₀ L m env elt ifs x x₂ scope cl Q (.ref I) s₂ := by
  have hg : ∀ i, i < arr.length → ∃ a k xn t u, arr[i]? = some (.ref a) ∧ kw[i]? = some (xn, u) ∧ (a, tupO [.str xn t, u] k) ∈ kn := fun i hi => by
    obtain ⟨a, k, xn, t, u, e, e2, e3⟩ := hit.get i arr[i] (by simp [hi])
    exact ⟨a, k, xn, t, u, by simp [hi, e], e2, e3⟩
  have itm : ∀ j, j < arr.length → ∃ a k v, refOf (arr.getD j .none) = a ∧ arr[j]? = some (.ref a) ∧ (a, tupO v k) ∈ kn := fun j hj => by
    obtain ⟨a, k, xn, t, u, e, _, e3⟩ := hg j hj
    exact ⟨a, k, _, by simp [List.getD, e, refOf], e, e3⟩
  have W := walksU_of W0 go
    (fun i => refOf (arr.getD i .none)) (fun i => match s₂.heap.get? (refOf (arr.getD i .none)) with | some ⟨_, _, .seq v _, _⟩ => v | _ => #[])
    (fun i v hi hv => by
      obtain ⟨a, k, vv, e1, e2, e3⟩ := itm i hi
      rw [e2] at hv; cases hv
      rw [e1])
    (fun j hj => by
      obtain ⟨a, k, vv, e1, e2, e3⟩ := itm j hj
      rw [e1]; exact hkI _ e3)
  refine ⟨I, _, _, _, _, _, cst, ex, fun i a b => ∃ xn t, a = .str xn t ∧ kw[i]? = some (xn, b), J, rfl, W.bound, ?_, hh, by rw [sizeLine_eq]; omega, ?_, ?_, ?_, ?_, F, N, hIL, hI₀, off, hJ, ?_, ?_⟩
  · rintro i vals ⟨hi, rfl⟩
    obtain ⟨a, k, xn, t, u, e, e2, e3⟩ := hg i hi
    have eh := hkn _ e3
    refine ⟨.str xn t, u, ?_, xn, t, rfl, e2⟩
    have : refOf (arr.getD i .none) = a := by simp [List.getD, e, refOf]
    simp only [this, eh]
  · rintro i h ⟨a, _⟩
    exact hIo _ _ a
  · intro b hb
    rcases List.mem_append.mp hb with hb | hb
    · exact hfp0 b hb
    · obtain ⟨j, hj, e⟩ := List.mem_map.mp hb
      obtain ⟨a, k, vv, e1, e2, e3⟩ := itm j (List.mem_range.mp hj)
      rw [← e, e1]
      exact .inr (hcov _ e3)
  · rintro i T h ⟨_, a, _⟩
    exact hIo _ _ a
  · refine ⟨hst, fun j hj => ?_⟩
    obtain ⟨a, k, vv, e1, e2, e3⟩ := itm j hj
    have eh := hkn _ e3
    simp only [e1, eh]
    exact ⟨_, eh, rfl, _, rfl⟩
  · rintro i ys ex a b oI C oC D m₂ h tk E' hi hl ⟨xn, t, rfl, hk⟩ hJ hoC hma hmb F' N' off ne
    exact turn i ys ex xn t b I oI C oC D m₂ h tk E' hk hJ hoC hma hmb F' N' off ne
  · rintro D h tk ys ex' F' N' o1 hJ'
    exact fin D h tk ys ex' F' N' o1 (by rw [← hit.length]; exact hJ')
theorem psrc_fwd {elt : Expr} {ifs : List Expr} {x x₂ : Str} {scope : Scope} {cl : List (Str × Addr)} {Q : Value → Shared → Prop} {s₁ : Shared} {l : Addr} {arr : List Value} {kw : List (Str × Value)} {kn cst ex : List (Addr × Obj)} (hh : A.handled = none)
    (hl : s₁.heap.IsList l arr.toArray) (hlc : (∃ o, h₀.get? l = some o) ∨ ∃ o, (l, o) ∈ cst) (hit : ItemsIn kn arr kw) (hkn : KnOk kn s₁.heap) (hcov : ∀ p ∈ kn, (∃ o, h₀.get? p.1 = some o) ∨ ∃ o, (p.1, o) ∈ cst)
    (hz : arr.length ≤ 64) (F : Fr h₀ L s₁.heap m) (N : News h₀ L s₁.heap (cst ++ ex)) (J : Nat → List Value → List (Addr × Obj) → Prop) (hJ : J 0 [] ex)
    (turn : ∀ s₂, (∃ g, s₂ = { s₁ with heap := g }) → ∀ i ys ex xn t u I oI C oC D m₂ h tk (E' : Value → Shared → Prop), kw[i]? = some (xn, u) → J i ys ex → NsObj oC m₂ → m₂ x = some (.str xn t) → m₂ x₂ = some u → Fr h₀ L h m → News h₀ L h ((I, oI) :: (C, oC) :: (D, lst ys) :: (cst ++ ex)) → Off3 I C D (cst ++ ex) →
      ((@Ne Nat I C) ∧ (@Ne Nat I D) ∧ (@Ne Nat C D)) →
      wpAny (model prog w) A (forIn ifs true fun c r => if r = true then do let ok ← isTrue c (compEnvC scope cl C env) (eval c (compEnvC scope cl C env)); pure (ForInStep.yield ok) else pure (ForInStep.yield r)) (fun ok s₃ =>
        if ok = true then wpAny (model prog w) A (eval elt (compEnvC scope cl C env)) (fun y s₄ => PEnd h₀ L m { s₂ with heap := h, toks := tk } I oI C oC D (lst ys) cst (J (i + 1) (ys ++ [y])) s₄) E' s₃
        else PEnd h₀ L m { s₂ with heap := h, toks := tk } I oI C oC D (lst ys) cst (J (i + 1) ys) s₃) E' { s₂ with heap := h, toks := tk })
    (fin : ∀ D h tk ys ex', Fr h₀ L h m → News h₀ L h ((D, lst ys) :: (cst ++ ex')) → Off1 D (cst ++ ex') → J kw.length ys ex' → Q (.ref D) { s₁ with heap := h, toks := tk }) :
    wpAny (model prog w) A (pyIter (.ref l)) (PSrc prog w A h₀ L m env elt ifs x x₂ scope cl Q) E s₁ := by
  have ll : l < s₁.heap.objs.size := by obtain ⟨o, e, _⟩ := hl; exact Heap.lt_size e
  refine wpAny_pyIter_list hl ?_
  have up : ∀ b o, s₁.heap.get? b = some o → (s₁.heap.push { cls := .type "list_iterator", data := .fields #[.ref l, .int 0 0] }).get? b = some o := fun b o e => Heap.get?_push_of_some _ e
  refine psrc_core (s₂ := { s₁ with heap := s₁.heap.push { cls := .type "list_iterator", data := .fields #[.ref l, .int 0 0] } }) (fp0 := [s₁.heap.objs.size, l]) (St0 := fun i h => h.IsListIter s₁.heap.objs.size l i ∧ h.IsList l arr.toArray) hh (by simpa using Walks.list (prog := prog) (w := w) hh s₁.heap.objs.size l (Nat.ne_of_lt ll) arr.toArray) (fun i s Q E elts k pos T st q => letGo_listiter st.1 q)
    (fun i h st => by obtain ⟨o, e, _⟩ := st.1; exact ⟨o, e⟩) ⟨⟨_, Heap.get?_push_size _ rfl, rfl, rfl⟩, hl.push _⟩ (fun b hb => ?_) hit (fun p hp => up _ _ (hkn p hp)) hcov (fun p hp => Nat.ne_of_lt (Heap.lt_size (hkn p hp))) hz
    (F.push _) (N.grown up) (Nat.ne_of_lt F.ns.lt) ?_ (fun p hp => Nat.ne_of_lt (Heap.lt_size (N p hp).1)) J hJ (turn _ ⟨_, rfl⟩) fin
  · rcases List.mem_cons.mp hb with e | hb
    · exact .inl e
    · rw [List.mem_singleton.mp hb]; exact .inr hlc
  · cases q : h₀.get? s₁.heap.objs.size with
    | none => rfl
    | some o => exact absurd (Heap.lt_size (F.keep _ _ q)) (Nat.lt_irrefl _)
end
end Mine
end

-- part S2
section
open PySem PySem.W PyProof.Rows
open Lean Elab Tactic Meta
set_option Elab.async false
set_option maxRecDepth 100000
set_option linter.unusedVariables false
set_option pp.deepTerms false
set_option pp.deepTerms.threshold 12
set_option pp.maxSteps 60000
namespace Mine
local macro_rules | `(tactic| walk_at $s:str) => `(tactic| k_extra $s)
open PySem.Calls PySem.SeqAt PyProof.Rows.LCg
section
variable {prog : Program} {w : World} {A₀ A : Around} {s : Shared} {base h₀ : Heap} {outer : List Env} {L : Addr} {m : Str → Option Value} {env : Env} {K : Frag} {p : Program} {loose : List Str} {mean : ExcName → Option Value} {mg mb : Str → Option Value}
  {R : Result → Shared → Prop} {name : Str} {params : Arguments} {body : List Stmt} {scope : Scope} {doc pm oc : Value} {od : Option Addr} {osl : Array (Option Value)} {f : Addr} {cdv : Value} {args : List Value} {binds : List (Str × Value)}
/-- a def with cells is entered; all that stands is the base -/
theorem enterC (B : Below A₀ base outer h₀) (F : Fr h₀ L s.heap m) (X₀ : K.In h₀) (T : Top p loose mean mg mb h₀) (hA : A.frames = some (env :: outer)) (hf : env.frame = some L) (hke : env.scope.kind = .function)
    (ho : K.lookup f = some ⟨oc, od, .func (Calls.docDef name params body scope pm cdv doc), osl⟩) (hcd : codeIn K cdv name = true) (hroom : A.depth < recursionLimit)
    (hbind : bindArgs (Calls.docDef name params body scope pm cdv doc) ⟨args, []⟩ = pure binds)
    (hkind : (binds.all fun y => scope.names.lookup y.1 == some .local || scope.names.lookup y.1 == some .cell) = true)
    (hnd : ((cellsFrom 0 scope.names []).map (·.1)).Nodup)
    (h : ∀ L' h₁ tk cells, L' = s.heap.objs.size → Fr s.heap L' h₁ (bindL (envOfC name scope L' f cdv).kindOf binds fun _ => none) → News s.heap L' h₁ cells →
      CellsAre (bindC (envOfC name scope L' f cdv).kindOf binds fun _ => none) (cellsFrom (L' + 1) scope.names []) cells → Below A base (env :: outer) s.heap → K.In s.heap → Top p loose mean mg mb s.heap →
      wpAny (model prog w) (A.deeper (envOfC name scope L' f cdv)) (execs body (envOfC name scope L' f cdv))
        (fun fl s' => R (.ok (.ret (match fl with | .ret v => v | _ => .none))) s') (fun _ _ => False) { s with heap := h₁, toks := tk })
    (hco : scope.isCoroutine = false) (hgen : scope.isGenerator = false) (hk : scope.kind = .function) : codeAny (model prog w) A (.call (.ref f) ⟨args, []⟩) R s := by
  have st : h₀.StaysIn s.heap := F.keep
  have BG : Below A base (env :: outer) s.heap := (groundX (R := R) B F (News.nil) hA hf hke).2.1
  exact call_cellsN_ret hroom ((X₀.keeps F.keep) _ _ ho) rfl (T.nolimit.keeps F.keep) (codeRec_of (X₀.keeps F.keep) hcd) hbind (kindsX hkind _) hnd
    (fun h₁ tk cells F₁ N₁ C₁ => h _ h₁ tk cells rfl F₁ N₁ C₁ BG (X₀.keeps st) (T.keeps st)) hco hgen hk
end
section
variable {w : World} {p : Program} {loose : List Str} {mean : ExcName → Option Value} {mg mb : Str → Option Value}
  {dp un : Nat} {gd : Option (List Code)} {cn : Str} {cs : Scope} {a : Addr} {ccd : Value} {cl : List (Str × Addr)} {outer : List Env} {A₀ : Around} {base h₀ : Heap} {L : Addr} {m : Str → Option Value} {s : Shared} {Q E : Value → Shared → Prop}
variable {news kn : List (Addr × Obj)} {v u : Value} {d e : PyData} {b : Bool}
theorem alike_use (B : Below A₀ base outer h₀) (F : Fr h₀ L s.heap m) (X : (hd.heap_39 w.params).In h₀) (T : Top p loose mean mg mb h₀) (hk : cs.kind = .function) (hd : dp + 12 < recursionLimit) (hu : un + 230 < cLine) (N : News h₀ L s.heap news) (hkn : KnOk kn h₀) (hv : TIn kn 8 v d) (hv2 : TIn kn 8 u e)
  (hret : ∀ h' tk', Fr h₀ L h' m → News h₀ L h' news → Q (.bool (alikeD d e b)) { s with heap := h', toks := tk' }) :
  wpAny (model PySem.Challenge.rw_ki0001_01.row.prog w) (ktrTop dp un gd cn cs L a ccd cl outer) (call (.ref 80) [v, u, .bool b]) Q E s :=
  alike_sum B F X T hk hd hu (hkn.keeps F.keep) hv hv2 fun h' tk' g => hret h' tk' (stay_both F N g).1 (stay_both F N g).2
end
theorem wordsS2w_1 : True := by
  k_with_none
  k_with "call ref" => (k_here; (with_reducible show wpAny _ _ (call (Value.ref 80) [_, _, _]) _ _ _); k_dflt (refine' alike_use (by k_asm) (by k_asm) (by k_asm) (by k_asm) (by first | exact rfl | assumption) (by ktr_room) (by ktr_units) (by k_asm) (by assumption) (by assumption) (by assumption) ?_); intro h' tk' F' N')
  trivial
section
variable {prog : Program} {w : World} {A : Around} {E : Value → Shared → Prop} {s : Shared} {h₀ : Heap} {L : Addr} {m : Str → Option Value} {env : Env} {news : List (Addr × Obj)} {ys : List Value} {D : Addr} {kn : List (Addr × Obj)} {n : Nat}
theorem ListComp_pairsF {elt iter : PySem.Expr} {ifs : List PySem.Expr} {x x₂ : Str} {px px₂ tp : Pos} {tkk} {scope : Scope} {cl : List (Str × Addr)} {pos : Pos} {Q : Value → Shared → Prop} (_F : Fr h₀ L s.heap m)
    (hclos : closureFor scope env = pure cl) (hcell : ∀ y ∈ scope.names, y.2 ≠ .cell) (hkind : scope.kind = .function)
    (hnames : ∀ y ∈ scope.names, y.2 = .local → scope.names.lookup y.1 = some .local) (hx : scope.names.lookup x = some .local) (hx₂ : scope.names.lookup x₂ = some .local) (hxx : x ≠ x₂)
    (h : wpAny (model prog w) A (eval iter env) (fun xv s₁ => wpAny (model prog w) A (pyIter xv) (PSrc prog w A h₀ L m env elt ifs x x₂ scope cl Q) E s₁) E s)
    (hs : ∀ x, foldedSetIterable iter env x = pure x) :
    wpAny (model prog w) A (eval (.ListComp elt [⟨.Tuple [.Name x px, .Name x₂ px₂] tkk tp, iter, ifs, 0⟩] scope pos) env) Q E s := ListComp_pairs hclos hcell hkind hnames hx hx₂ hxx h hs
theorem truthy_lst {Q : Bool → Shared → Prop} (N : News h₀ L s.heap news) (hm : (D, lst ys) ∈ news) (hz : ys.length ≤ 64) (h : Q (!ys.isEmpty) { s with toks := s.toks + 1 + 1 }) : wpAny (model prog w) A (truthy (.ref D)) Q E s :=
  wpAny_truthy_list (items := ys.toArray) ⟨_, (N _ hm).1, rfl, _, rfl⟩ (by simp; omega) (by simpa using h)
theorem truthy_lst1 {Q : Bool → Shared → Prop} {v : Bool} (N : News h₀ L s.heap news) (hm : (D, lst ys) ∈ news) (hz : ys.length ≤ 64) (hv : (!ys.isEmpty) = v) (h : Q v { s with toks := s.toks + 1 + 1 }) : wpAny (model prog w) A (truthy (.ref D)) Q E s :=
  truthy_lst N hm hz (hv ▸ h)
theorem Named.get {kw : List (Str × Value)} {kd : List (Str × PyData)} (h : Named kn n kw kd) : ∀ {i : Nat} {x : Str} {u : Value}, kw[i]? = some (x, u) → ∃ d, kd[i]? = some (x, d) ∧ TIn kn n u d := by
  induction h with
  | nil => intro i x u h; simp at h
  | cons o a _ ih =>
    intro i x u h
    cases i with
    | zero => simp at h; obtain ⟨rfl, rfl⟩ := h; exact ⟨_, rfl, a⟩
    | succ i => exact ih (by simpa using h)
end
theorem wordsS2w_2 : True := by
  k_with "eval ListComp" => (k_here; k_dflt (refine' ListComp_pairsF (by k_asm) (by with_unfolding_all rfl) (by decide) (by exact rfl) (by decide) (by exact rfl) (by exact rfl) (by decide) ?_ (by exact fun _ => rfl)))
  k_with "truthy ref" => (k_here; (with_reducible show wpAny _ _ (truthy (Value.ref _)) _ _ _); k_dflt (refine' truthy_lst1 (by k_asm) (by k_mem) (by omega) (by assumption) ?_; k_whole))
  k_with "call builtin:len" => (k_here; (with_reducible show wpAny _ _ (call (Value.builtin _) [Value.ref _]) _ _ _); k_dflt (refine' call_len_list (Fr.lst (by k_asm) (by assumption)) (by (simp only [List.size_toArray]; omega)) ?_; k_whole); (try simp only [List.size_toArray]))
  k_with "exec For Tuple Call cons nil" => (k_here; k_dflt (refine' For_pairs (by k_asm) (by exact rfl) ?_ (by exact fun _ => rfl) (by passes_own)))
  k_with "exec For Tuple Subscript" => (k_here; k_dflt (refine' For_pairs (by k_asm) (by exact rfl) ?_ (by exact fun _ => rfl) (by passes_own)))
  trivial
section
variable {w : World} {p : Program} {loose : List Str} {mean : ExcName → Option Value} {mg mb : Str → Option Value}
  {dp un : Nat} {gd : Option (List Code)} {cn : Str} {cs : Scope} {a : Addr} {ccd : Value} {cl : List (Str × Addr)} {outer : List Env} {A₀ : Around} {base h₀ : Heap} {L : Addr} {m : Str → Option Value} {s : Shared} {Q E : Value → Shared → Prop}
variable {kn : List (Addr × Obj)}
set_option maxHeartbeats 2000000 in
theorem same_sum {b : Bool} {a1 a2 p1 p2 n1 n2 : Addr} {vs us i1 i2 : List Value} {ds es : List PyData} {k1 k2 : List (Str × Value)} {nd ne : List (Str × PyData)} (B : Below A₀ base outer h₀) (F : Fr h₀ L s.heap m) (X : (hd.heap_39 w.params).In h₀) (T : Top p loose mean mg mb h₀) (hk : cs.kind = .function) (hd : dp + 16 < recursionLimit) (hu : un + 260 < cLine)
  (hO : s.heap.IsList a1 #[.ref p1, .ref n1]) (hU : s.heap.IsList a2 #[.ref p2, .ref n2]) (hP : s.heap.IsList p1 vs.toArray) (hP2 : s.heap.IsList p2 us.toArray) (hN : s.heap.IsList n1 i1.toArray) (hN2 : s.heap.IsList n2 i2.toArray)
  (hkn : KnOk kn s.heap) (hT : Things kn 8 vs ds) (hT2 : Things kn 8 us es) (hit : ItemsIn kn i1 k1) (hit2 : ItemsIn kn i2 k2) (hnd : Named kn 8 k1 nd) (hne : Named kn 8 k2 ne) (hl1 : vs.length ≤ 8) (hl2 : us.length ≤ 8) (hl3 : i1.length ≤ 2) (hl4 : i2.length ≤ 2)
  (hret : ∀ h' tk', Grew s.heap h' [] → Q (.bool (sameD (ds, nd) (es, ne) b)) { s with heap := h', toks := tk' }) :
  wpAny (model PySem.Challenge.rw_ki0001_01.row.prog w) (ktrTop dp un gd cn cs L a ccd cl outer) (call (.ref 85) [.ref a1, .ref a2, .bool b]) Q E s := by
  revert X; k_fill; intro X
  refine wpAny_call ?_
  refine' enterC (binds := [(Str.ofString "one", .ref a1), (Str.ofString "other", .ref a2), (Str.ofString "kinds", .bool b)]) ?k1 ?k2 ?k3 ?k5 ?kA ?kF ?kK ?k6 ?k7 ?k8 ?k9 ?kB ?kN ?_ ?c2 ?c3 ?c4
  case kA => exact rfl
  case kF => exact rfl
  case kK => assumption
  case k1 => k_asm
  case k2 => k_asm
  case k3 => k_asm
  case k5 => k_asm
  case k6 => k_is
  case k7 => k_is
  case k8 => ktr_room
  case k9 => exact rfl
  case kN => decide +kernel
  case kB => exact rfl
  case c2 => exact rfl
  case c3 => exact rfl
  case c4 => exact rfl
  intro L' h' tk cells hL F' N' C' B' X' T'
  obtain ⟨oc1, oc2, oc3, hE, dc1, dc2, dc3⟩ := CellsAre.three C'
  subst hE
  clear C'
  (try simp only [List.cons_append, List.nil_append] at N'); (try dsimp only); (try k_lift B'); (try k_fold)
  have hr : ∀ r, r = sameD (ds, nd) (es, ne) b → ∀ h' tk', Grew s.heap h' [] → Q (.bool r) { s with heap := h', toks := tk' } := fun r hr => hr ▸ hret
  have lT := hT.length
  have lT2 := hT2.length
  have lI := hit.length
  have lI2 := hit2.length
  have lN := hnd.len
  have lN2 := hne.len
  k_steps
  · (rename Fr _ _ _ _ => G')
    refine hr _ ?_ _ _ ⟨G'.keep, fun _ h => nomatch h⟩
    rename ¬ ((vs.length : Int) = _) => hne1
    have : ds.length ≠ es.length := by omega
    simp [sameD, this]
  · (rename Fr _ _ _ _ => G')
    refine hr _ ?_ _ _ ⟨G'.keep, fun _ h => nomatch h⟩
    rename ¬ ((i1.length : Int) = _) => hne1
    have : nd.length ≠ ne.length := by omega
    simp [sameD, this]
  rename ZipApart _ _ _ _ _ _ _ => zA
  rename IsZip _ _ _ _ _ ∧ _ => zS
  rename (vs.length : Int) = _ => e1
  rename (i1.length : Int) = _ => e2
  (rename Fr _ _ _ _ => G')
  (rename News _ _ _ _ => M')
  rename Fr _ _ h' _ => F0
  rename News _ _ h' _ => N0
  refine wpAny_pyIter_zip zS.1 ?_
  refine forAt_zip rfl zA zS G' M' F0 N0 (by assumption) (by assumption) (by assumption) (by assumption) hP hP2 (fun i m₁ => LocJ _ (Str.ofString "a") (Str.ofString "b") m₁ ∧ ∀ j d e, j < i → ds[j]? = some d → es[j]? = some e → alikeD d e b = true) ⟨LocJ.start, fun j d e h => absurd h (Nat.not_lt_zero _)⟩ ?_ ?_
  · rintro i va vb m₁ own h tk1 ha hb ⟨⟨oa, ob, rfl⟩, hall⟩ F1 N1 Q' hq
    obtain ⟨da, hda, ta⟩ := hT.get ha
    obtain ⟨db, hdb, tb⟩ := hT2.get hb
    k_steps
    · (rename Fr _ _ _ _ => G2); (rename News _ _ _ _ => M2)
      refine hq _ _ _ G2 M2 ⟨LocJ.set, fun j d e hj h1 h2 => ?_⟩
      rcases Nat.lt_succ_iff_lt_or_eq.mp hj with hj | rfl
      · exact hall j d e hj h1 h2
      · rw [hda] at h1; rw [hdb] at h2; cases h1; cases h2
        first | assumption | simp_all
    · (rename Fr _ _ _ _ => G2)
      refine hr _ ?_ _ _ ⟨G2.keep, fun _ h => nomatch h⟩
      have hf : alikeD da db b = false := by first | assumption | simp_all
      refine (Bool.eq_false_iff.mpr fun hs => ?_).symm
      simp only [sameD, Bool.and_eq_true, List.all_eq_true] at hs
      have := hs.1.2 (da, db) (List.mem_iff_getElem?.mpr ⟨i, by rw [List.getElem?_zip_eq_some]; exact ⟨hda, hdb⟩⟩)
      rw [hf] at this; cases this
  · rintro h tk1 m₁ F1 N1 ⟨⟨oa, ob, rfl⟩, hall⟩
    k_steps
    (rename Fr _ _ _ _ => G2)
    (rename News _ _ _ _ => M2)
    refine forAt_items rfl hN hit hkn G2 M2 (fun i m₁ ex₁ => LocJ _ (Str.ofString "a") (Str.ofString "b") m₁ ∧ ∃ o1 o2, ex₁ = [(L' + 1 + 1 + 1, o1), (L' + 1 + 1, o2), (L' + 1, oc3)] ∧ (∃ v1, o1.data = .cell v1) ∧ (∃ v2, o2.data = .cell v2) ∧
      ∀ j xn d, j < i → nd[j]? = some (xn, d) → (ne.any fun q => q.1 == xn && alikeD d q.2 b) = true) ⟨⟨oa, ob, rfl⟩, _, _, rfl, ⟨_, dc1⟩, ⟨_, dc2⟩, fun j xn d h => absurd h (Nat.not_lt_zero _)⟩ ?_ ?_
    · rintro i xn t u m₁ ex₁ I oI h2 tk2 hk1 ⟨⟨oa2, ob2, rfl⟩, o1, o2, rfl, ⟨v1, dv1⟩, ⟨v2, dv2⟩, hall2⟩ F2 N2 offI Q' hq
      obtain ⟨d, hnd1, td⟩ := hnd.get hk1
      simp only [List.cons_append, List.nil_append] at N2
      have nI : @Ne Nat (L' + 1 + 1 + 1) I := offI _ (.head _)
      have nI2 : @Ne Nat (L' + 1 + 1) I := offI _ (.tail _ (.head _))
      have nI3 : @Ne Nat (L' + 1) I := offI _ (.tail _ (.tail _ (.head _)))
      k_steps
      (rename Fr _ _ _ _ => G3)
      (rename News _ _ _ _ => M3)
      refine psrc_fwd (cst := _) (ex := []) rfl (Fr.lst G3 hN2) (.inl (let ⟨o, e, _⟩ := hN2; ⟨o, e⟩)) hit2 (hkn.keeps G3.keep) (fun p hp => .inl ⟨_, hkn p hp⟩) (by omega) G3 (by rw [List.append_nil]; exact M3)
        (fun i ys ex => ex = [] ∧ ys.length ≤ i ∧ (!ys.isEmpty) = (ne.take i).any fun q => q.1 == xn && alikeD d q.2 b) ⟨rfl, Nat.le_refl _, rfl⟩ ?_ ?_
      · rintro s₂ ⟨g, rfl⟩ i2 ys ex yn t2 u2 I2 oI2 C oC D m₂ h3 tk3 E' hk2 ⟨rfl, hlen, hys⟩ hoC hma hmb F3 N3 off3 ⟨ne1, ne2, ne3⟩
        obtain ⟨d2, hne1, td2⟩ := hne.get hk2
        refine wpAny_tests_one ?_
        simp only [List.append_nil] at N3 off3
        have e : (List.take (i2 + 1) ne).any (fun q => q.1 == xn && alikeD d q.2 b) = ((ne.take i2).any (fun q => q.1 == xn && alikeD d q.2 b) || (yn == xn && alikeD d d2 b)) := by
          rw [List.take_add_one, hne1, List.any_append]; simp
        k_steps
        · (rename Fr _ _ _ _ => G4); (rename News _ _ _ _ => M4)
          refine PEnd.intro G4 M4 [] (fun p hp => by simpa using hp) trivial ⟨rfl, by simp; omega, ?_⟩
          have hc : (yn == xn && alikeD d d2 b) = true := by rw [Bool.and_eq_true]; exact ⟨by assumption, by assumption⟩
          rw [e, hc]; simp
        · (rename Fr _ _ _ _ => G4); (rename News _ _ _ _ => M4)
          refine PEnd.intro G4 M4 [] (fun p hp => by simpa using hp) trivial ⟨rfl, by omega, ?_⟩
          have hc : (yn == xn && alikeD d d2 b) = false := by
            have ha : alikeD d d2 b = false := by assumption
            rw [ha, Bool.and_false]
          rw [e, hc, Bool.or_false]; exact hys
        · (rename Fr _ _ _ _ => G4); (rename News _ _ _ _ => M4)
          refine PEnd.intro G4 M4 [] (fun p hp => by simpa using hp) trivial ⟨rfl, by omega, ?_⟩
          have hc : (yn == xn && alikeD d d2 b) = false := by
            have ha : (yn == xn) = false := by assumption
            rw [ha, Bool.false_and]
          rw [e, hc, Bool.or_false]; exact hys
      · rintro D h3 tk3 ys ex' F3 N3 o1 ⟨rfl, hlen, hys⟩
        simp only [List.append_nil] at N3 o1
        rw [show k2.length = ne.length from lN2, List.take_length] at hys
        have hyl : ys.length ≤ 64 := by omega
        rename Obj.data _ = .cell (some (Value.str xn t)) => dxn
        rename Obj.data _ = .cell (some u) => du
        cases hx : (ne.any fun q => q.1 == xn && alikeD d q.2 b) with
        | true =>
          rw [hx] at hys
          k_steps
          (rename Fr _ _ _ _ => G4); (rename News _ _ _ _ => M4)
          refine hq _ _ _ [_, _, _] G4 (fun p hp => M4 p (.tail _ hp)) (fun p hp => ?_) ⟨⟨oa2, ob2, rfl⟩, _, _, rfl, ⟨_, du⟩, ⟨_, dxn⟩, fun j xm d' hj h1 => ?_⟩
          · simp only [List.mem_cons, List.not_mem_nil, or_false] at hp
            rcases hp with rfl | rfl | rfl
            · exact nI
            · exact nI2
            · exact nI3
          · rcases Nat.lt_succ_iff_lt_or_eq.mp hj with hj | rfl
            · exact hall2 j xm d' hj h1
            · rw [hnd1] at h1; cases h1; exact hx
        | false =>
          rw [hx] at hys
          k_steps
          (rename Fr _ _ _ _ => G4)
          refine hr _ ?_ _ _ ⟨G4.keep, fun _ h => nomatch h⟩
          refine (Bool.eq_false_iff.mpr fun hs => ?_).symm
          simp only [sameD, namedSame, Bool.and_eq_true, List.all_eq_true] at hs
          have := hs.2 (xn, d) (List.mem_iff_getElem?.mpr ⟨i, hnd1⟩)
          simp only at this
          rw [hx] at this; cases this
    · rintro h2 tk2 m₁ ex₁ F2 N2 ⟨⟨oa2, ob2, rfl⟩, o1, o2, rfl, _, _, hall2⟩
      k_steps
      (rename Fr _ _ _ _ => G3)
      refine hr _ ?_ _ _ ⟨G3.keep, fun _ h => nomatch h⟩
      have l1 : ds.length = es.length := by omega
      have l2 : nd.length = ne.length := by omega
      have x1 : ((ds.zip es).all fun p => alikeD p.1 p.2 b) = true := by
        rw [List.all_eq_true]
        rintro ⟨d, e⟩ hm
        obtain ⟨j, hj⟩ := List.mem_iff_getElem?.mp hm
        rw [List.getElem?_zip_eq_some] at hj
        have hlt : j < ds.length := by obtain ⟨hh, _⟩ := List.getElem?_eq_some_iff.mp hj.1; exact hh
        exact hall j d e (by omega) hj.1 hj.2
      have x2 : namedSame nd ne b = true := by
        rw [namedSame, List.all_eq_true]
        rintro ⟨xn, d⟩ hm
        obtain ⟨j, hj⟩ := List.mem_iff_getElem?.mp hm
        have hlt : j < nd.length := by obtain ⟨hh, _⟩ := List.getElem?_eq_some_iff.mp hj; exact hh
        exact hall2 j xn d (by omega) hj
      simp [sameD, l1, l2, x1, x2]
end
end Mine
theorem Mine.wordsS2_off : True := by
  k_with_none
  trivial
end

-- part S6
section
open PySem PySem.W PyProof.Rows
set_option Elab.async false
set_option maxRecDepth 100000
set_option linter.unusedVariables false
namespace Mine
open PySem.Calls
section
variable {prog : Program} {w : World} {A : Around} {E : Value → Shared → Prop} {s : Shared} {h₀ : Heap} {env : Env}
def IterO (o : Obj) : Prop := o.cls = .type "enumerate" ∨ o.cls = .type "list_iterator"
theorem enum_forAt {l : Addr} {vs : List Value} {c : Nat} {x x₂ : Str} {body : List Stmt} {Q : Flow → Shared → Prop} {m : Str → Option Value} {ex : List (Addr × Obj)} (hh : A.handled = none)
    (hm : (l, listOf vs.toArray c) ∈ ex) (F : Fr h₀ env.locals s.heap m) (N : News h₀ env.locals s.heap ex) (J : Nat → (Str → Option Value) → List (Addr × Obj) → Prop) (h0 : J 0 m ex)
    (step : ∀ i t b m₁ ex₁ own (wr : List Addr) h tk, vs[i]? = some b → J i m₁ ex₁ → (∀ p ∈ ex₁, p.1 ∉ wr) → (∀ b ∈ wr, ∃ o, (b, o) ∈ own ∧ IterO o) → (∀ p ∈ own, p.1 ∈ wr ∨ p.1 = l) → Fr h₀ env.locals h m₁ → News h₀ env.locals h (ex₁ ++ own) →
      (∀ (Q' : Shared → Prop), (∀ h' tk' m' ex', Fr h₀ env.locals h' m' → News h₀ env.locals h' (ex' ++ own) → (∀ p ∈ ex', p.1 ∉ wr) → J (i + 1) m' ex' → Q' { s with heap := h', toks := tk' }) →
      wpAny (model prog w) A (storeName env x (.int (i : Int) t)) (fun _ s₃ => wpAny (model prog w) A (storeName env x₂ b) (fun _ s₄ => wpAny (model prog w) A (execs body env) (fun f s₅ => match f with
        | .next | .cont => Q' s₅
        | .brk => Q .next s₅
        | .ret v => Q (.ret v) s₅) E s₄) E s₃) E { s with heap := h, toks := tk }))
    (fin : ∀ h' tk m' ex', Fr h₀ env.locals h' m' → News h₀ env.locals h' ex' → J vs.length m' ex' → Q .next { s with heap := h', toks := tk }) :
    wpAny (model prog w) A (call (.type "enumerate") [.ref l]) (fun xv s₁ => wpAny (model prog w) A (pyIter xv) (fun it s₂ => ForAt prog w A h₀ env x x₂ body Q E it s₂) E s₁) E s := by
  have hl : s.heap.IsList l vs.toArray := ⟨_, (N _ hm).1, rfl, _, rfl⟩
  have ll : l < s.heap.objs.size := Heap.lt_size (N _ hm).1
  refine call_enumerate_list hl fun h' hE hI hz hk => ?_
  have hl' : h'.IsList l vs.toArray := ⟨_, hk _ _ (N _ hm).1, rfl, _, rfl⟩
  have D1 : s.heap.objs.size + 1 ≠ s.heap.objs.size := by omega
  have D2 : l ≠ s.heap.objs.size + 1 := Nat.ne_of_lt (Nat.lt_succ_of_lt ll)
  have D3 : l ≠ s.heap.objs.size := Nat.ne_of_lt ll
  have W := WalksT.enumerate (prog := prog) (w := w) hh (s.heap.objs.size + 1) s.heap.objs.size l D1 D2 D3 vs.toArray
  have hst : (∃ old, IsEnum h' (s.heap.objs.size + 1) s.heap.objs.size ((0 : Nat) : Int) old) ∧ h'.IsListIter s.heap.objs.size l 0 ∧ h'.IsList l vs.toArray := ⟨⟨_, hE⟩, hI, hl'⟩
  refine W.self 0 _ _ _ hst ?_
  have F' : Fr h₀ env.locals h' m := F.keeps hk
  have N' : News h₀ env.locals h' ex := N.grown hk
  refine ⟨s.heap.objs.size + 1, _, _, _, _, _, _, fun i a b => ∃ t, a = .int (i : Int) t ∧ vs[i]? = some b, m, ex, fun i m₁ ex₁ => J i m₁ ex₁, rfl, W.toU, ?_, ?_, ?_, ?_, ?_, hst, F', N', h0, ?_, ?_⟩
  · rintro i vals ⟨t, b, hb, rfl⟩
    exact ⟨_, b, rfl, t, rfl, by simpa using hb⟩
  · intro hb
    simp only [List.mem_cons, List.not_mem_nil, or_false] at hb
    have := F.ns.lt
    rcases hb with e | e | e
    · exact Nat.ne_of_lt (Nat.lt_succ_of_lt this) e
    · exact Nat.ne_of_lt this e
    · exact (N _ hm).2.1 e.symm
  · intro b hb
    simp only [List.mem_cons, List.not_mem_nil, or_false] at hb
    rcases hb with rfl | rfl
    · exact (fr_new F (Nat.le_succ _)).1
    · exact (fr_new F (Nat.le_refl _)).1
  · rintro b hb i h ⟨⟨old, hE⟩, ⟨o, e, _⟩, _⟩
    simp only [List.mem_cons, List.not_mem_nil, or_false] at hb
    rcases hb with rfl | rfl
    · exact ⟨_, hE⟩
    · exact ⟨o, e⟩
  · intro p hp hb
    have := Heap.lt_size (N p hp).1
    simp only [List.mem_cons, List.not_mem_nil, or_false] at hb
    rcases hb with e | e
    · exact absurd e (Nat.ne_of_lt (Nat.lt_succ_of_lt this))
    · exact absurd e (Nat.ne_of_lt this)
  · rintro i a b m₁ ex₁ own h tk hlt ⟨t, rfl, hb⟩ hJ off₁ hw hof hst₁ F₁ N₁ Q' hq
    refine step i t b m₁ ex₁ own _ h tk hb hJ off₁ (fun b' hb' => ?_) (fun p hp => ?_) F₁ N₁ Q' fun h' tk' m' ex' F' N' off' hJ' => hq h' tk' m' ex' F' N' off' hJ'
    · obtain ⟨o, ho⟩ := hw b' hb'
      have e1 : h.get? b' = some o := (N₁ _ (List.mem_append_right _ ho)).1
      obtain ⟨⟨old, hE⟩, ⟨oi, ei, ci, _⟩, _⟩ := hst₁
      refine ⟨o, ho, ?_⟩
      simp only [List.mem_cons, List.not_mem_nil, or_false] at hb'
      rcases hb' with rfl | rfl
      · have e2 := Option.some.inj (e1.symm.trans hE); subst e2; exact .inl rfl
      · have e2 := Option.some.inj (e1.symm.trans ei); subst e2; exact .inr ci
    have h1 := hof p hp
    simp only [List.mem_cons, List.not_mem_nil, or_false] at h1 ⊢
    rcases h1 with e | e | e
    · exact .inl (.inl e)
    · exact .inl (.inr e)
    · exact .inr e
  · rintro h' tk m' ex' F' N' off' hJ'
    exact fin h' tk m' ex' F' N' (by simpa using hJ')
end
end Mine
end

-- part S7
section
open PySem PySem.W PyProof.Rows
set_option Elab.async false
set_option maxRecDepth 100000
set_option linter.unusedVariables false
namespace Mine
open PySem.Calls PyProof.Rows.LCg
section
variable {prog : Program} {w : World} {A : Around} {E : Value → Shared → Prop} {s : Shared} {h₀ : Heap} {L : Addr} {m : Str → Option Value} {env : Env}
theorem compEnd_mono {s₁ s₂ : Shared} {I C D : Addr} {oI oC oD : Obj} {S : List (Addr × Obj) → Prop} {r r' : Value → List (Addr × Obj) → Prop} {y : Value} (h : CompEnd h₀ L m s₁ I oI C oC D oD S r y s₂) (k : ∀ n, r y n → r' y n) : CompEnd h₀ L m s₁ I oI C oC D oD S r' y s₂ :=
  let ⟨h', tk, n, a, b, c, d, e, f⟩ := h; ⟨h', tk, n, a, b, c, d, e, k _ f⟩
theorem compRest_ind {elt : Expr} {x : Str} {scope : Scope} {cl : List (Str × Addr)} {S : List (Addr × Obj) → Prop} {P : Nat → Value → Prop} {Fin : List Value → List (Addr × Obj) → Prop} {n : Nat} (J : Nat → List Value → List (Addr × Obj) → Prop)
    (step : ∀ i ys news v I oI C oC D m₂ h tk (E' : Value → Shared → Prop), i < n → J i ys news → P i v → NsObj oC m₂ → m₂ x = some v → Fr h₀ L h m → News h₀ L h ((I, oI) :: (C, oC) :: (D, lst ys) :: news) → Off3 I C D news → ((@Ne Nat I C) ∧ (@Ne Nat I D) ∧ (@Ne Nat C D)) →
      wpAny (model prog w) A (eval elt (compEnvC scope cl C env)) (CompEnd h₀ L m { s with heap := h, toks := tk } I oI C oC D (lst ys) S (fun y news' => J (i + 1) (ys ++ [y]) news')) E' { s with heap := h, toks := tk })
    (fin : ∀ ys news, J n ys news → Fin ys news) : ∀ k i ys news, i + k = n → J i ys news → CompRest prog w A h₀ L m env elt x scope cl s S P Fin k i ys news
  | 0, i, ys, news, hi, hJ => by
    have : i = n := hi
    subst this
    exact CompRest.zero (fin ys news hJ)
  | k + 1, i, ys, news, hi, hJ => by
    refine CompRest.succ fun v I oI C oC D m₂ h tk E' hP hC hx F N off ne => ?_
    exact wpAny_mono (step i ys news v I oI C oC D m₂ h tk E' (by omega) hJ hP hC hx F N off ne) (fun y s₂ he => compEnd_mono he fun n' hJ' => compRest_ind J step fin k (i + 1) (ys ++ [y]) n' (by omega) hJ') fun _ _ e => e
end
/-- what a call of the law's list bears -/
structure CallIn (kn : List (Addr × Obj)) (v : Value) (c : List PyData × List (Str × PyData)) (a p n : Addr) (vs its : List Value) (kw sk : List (Str × Value)) (ca cp cn : Nat) : Prop where
  va : v = .ref a
  la : (a, listOf #[.ref p, .ref n] ca) ∈ kn
  lp : (p, listOf vs.toArray cp) ∈ kn
  ln : (n, listOf its.toArray cn) ∈ kn
  hT : Things kn 2 vs c.1
  hit : ItemsIn kn its kw
  hkw : KwOk kw sk
  hnd : Named kn 1 kw c.2
  hz : vs.length ≤ 8
theorem ItemsIn.mono' {kn kn' : List (Addr × Obj)} (hs : ∀ p ∈ kn, p ∈ kn') {its : List Value} {sk : List (Str × Value)} (h : ItemsIn kn its sk) : ItemsIn kn' its sk := h.mono hs
def CallOk (kn : List (Addr × Obj)) (v : Value) (c : List PyData × List (Str × PyData)) : Prop := ∃ a p n vs its kw sk ca cp cn, CallIn kn v c a p n vs its kw sk ca cp cn
theorem CallOk.mono {kn kn' : List (Addr × Obj)} (hs : ∀ p ∈ kn, p ∈ kn') {v : Value} {c : List PyData × List (Str × PyData)} (h : CallOk kn v c) : CallOk kn' v c :=
  let ⟨a, p, n, vs, its, kw, sk, ca, cp, cn, h⟩ := h
  ⟨a, p, n, vs, its, kw, sk, ca, cp, cn, h.va, hs _ h.la, hs _ h.lp, hs _ h.ln, h.hT.mono hs, h.hit.mono hs, h.hkw, h.hnd.mono hs, h.hz⟩
inductive CallsOk (kn : List (Addr × Obj)) : List Value → List (List PyData × List (Str × PyData)) → Prop
  | nil : CallsOk kn [] []
  | cons {v : Value} {c : List PyData × List (Str × PyData)} {vs : List Value} {cs : List (List PyData × List (Str × PyData))} : CallOk kn v c → CallsOk kn vs cs → CallsOk kn (v :: vs) (c :: cs)
theorem CallsOk.mono {kn kn' : List (Addr × Obj)} (hs : ∀ p ∈ kn, p ∈ kn') {vs : List Value} {cs : List (List PyData × List (Str × PyData))} (h : CallsOk kn vs cs) : CallsOk kn' vs cs := by
  induction h with
  | nil => exact .nil
  | cons a _ ih => exact .cons (a.mono hs) ih
theorem CallsOk.snoc {kn : List (Addr × Obj)} {vs : List Value} {cs : List (List PyData × List (Str × PyData))} {v : Value} {c : List PyData × List (Str × PyData)} (h : CallsOk kn vs cs) (k : CallOk kn v c) : CallsOk kn (vs ++ [v]) (cs ++ [c]) := by
  induction h with
  | nil => exact .cons k .nil
  | cons a _ ih => exact .cons a ih
theorem CallsOk.length {kn : List (Addr × Obj)} {vs : List Value} {cs : List (List PyData × List (Str × PyData))} (h : CallsOk kn vs cs) : vs.length = cs.length := by
  induction h with
  | nil => rfl
  | cons _ _ ih => simp [ih]
theorem CallsOk.get {kn : List (Addr × Obj)} {vs : List Value} {cs : List (List PyData × List (Str × PyData))} (h : CallsOk kn vs cs) : ∀ {i : Nat} {v : Value}, vs[i]? = some v → ∃ c, cs[i]? = some c ∧ CallOk kn v c := by
  induction h with
  | nil => intro i v h; simp at h
  | cons a _ ih =>
    intro i v h
    cases i with
    | zero => simp at h; subst h; exact ⟨_, rfl, a⟩
    | succ i => exact ih (by simpa using h)
theorem named_sorted {kn : List (Addr × Obj)} {n : Nat} {kw sk : List (Str × Value)} {nd : List (Str × PyData)} (h : KwOk kw sk) (k : Named kn n kw nd) : ∃ sd, Named kn n sk sd ∧ NdOk nd sd := by
  cases h with
  | nil => cases k; exact ⟨_, .nil, .nil⟩
  | n v => cases k with | cons o a r => cases r; exact ⟨_, .cons o a .nil, .n _⟩
  | k v => cases k with | cons o a r => cases r; exact ⟨_, .cons o a .nil, .k _⟩
  | nk v u => cases k with | cons o a r => cases r with | cons o2 a2 r2 => cases r2; exact ⟨_, .cons o2 a2 (.cons o a .nil), .nk _ _⟩
  | kn v u => cases k with | cons o a r => cases r with | cons o2 a2 r2 => cases r2; exact ⟨_, .cons o a (.cons o2 a2 .nil), .kn _ _⟩
theorem Named.up {kn : List (Addr × Obj)} {n k : Nat} (hk : n ≤ k) {kw : List (Str × Value)} {kd : List (Str × PyData)} (h : Named kn n kw kd) : Named kn k kw kd := by
  induction h with
  | nil => exact .nil
  | cons o a _ ih => exact .cons o (a.up hk) ih
end Mine
end

-- part S8
section
open PySem PySem.W PyProof.Rows
set_option Elab.async false
set_option maxRecDepth 100000
set_option linter.unusedVariables false
namespace Mine
open PySem.Calls
/-- the engine stops here -/
def Hold (P : Prop) : Prop := P
theorem hold {P : Prop} (h : Hold P) : P := h
theorem unhold {P : Prop} (h : P) : Hold P := h
structure OffK (kn : List (Addr × Obj)) (cx ci cl : Addr) : Prop where
  x : ∀ p ∈ kn, p.1 ≠ cx
  i : ∀ p ∈ kn, p.1 ≠ ci
  c : ∀ p ∈ kn, p.1 ≠ cl
abbrev OffK.cA {kn : List (Addr × Obj)} {cx ci cl : Addr} (_ : OffK kn cx ci cl) : Addr := cl
theorem OffK.app {kn kn' : List (Addr × Obj)} {cx ci cl : Addr} (a : OffK kn cx ci cl) (b : OffK kn' cx ci cl) : OffK (kn ++ kn') cx ci cl :=
  ⟨fun p hp => (List.mem_append.mp hp).elim (a.x p) (b.x p), fun p hp => (List.mem_append.mp hp).elim (a.i p) (b.i p), fun p hp => (List.mem_append.mp hp).elim (a.c p) (b.c p)⟩
theorem grew_ne {h₀ h h' : Heap} {L a : Addr} {o : Obj} {news tl : List (Addr × Obj)} (N : News h₀ L h news) (hm : (a, o) ∈ news) (g : Grew h h' tl) : ∀ p ∈ tl, p.1 ≠ a := fun p hp e => by
  have e1 := (N _ hm).1
  have e2 := (g.new p hp).2
  rw [e] at e2; rw [e2] at e1; cases e1
def NotCell (o : Obj) : Prop := ∀ v, o.data ≠ .cell v
theorem off_cell {h₀ h : Heap} {L a : Addr} {o : Obj} {v : Option Value} {news kn : List (Addr × Obj)} (N : News h₀ L h news) (hm : (a, o) ∈ news) (hd : o.data = .cell v) (hk : ∀ p ∈ kn, p ∈ news) (hn : ∀ p ∈ kn, NotCell p.2) : ∀ p ∈ kn, p.1 ≠ a := fun p hp e => by
  have e1 := (N _ hm).1
  have e2 := (N _ (hk p hp)).1
  rw [e] at e2; rw [e2] at e1
  exact hn p hp v (by rw [Option.some.inj e1]; exact hd)
/-- the first loop's invariant -/
def Inv1 (m0 : Str → Option Value) (S cx ci cl : Addr) (i : Nat) (m₁ : Str → Option Value) (ex₁ : List (Addr × Obj)) : Prop :=
  LocJ m0 (Str.ofString "places") (Str.ofString "named") m₁ ∧ ∃ o1 o2 xs c kn cs, ex₁ = (cx, o2) :: (ci, o1) :: (cl, listOf (xs : List Value).toArray c) :: kn ∧ (∃ v, o2.data = .cell v) ∧ (∃ v, o1.data = .cell v) ∧ CallsOk kn xs cs ∧ xs.length = 4 + 3 * i ∧ OffK kn cx ci cl ∧ ∃ so, (S, so) ∈ kn
theorem Inv1.start {m0 : Str → Option Value} {so : Obj} {S cx ci cl : Addr} {o1 o2 : Obj} {xs : List Value} {c : Nat} {kn : List (Addr × Obj)} {v1 v2 : Option Value} (h1 : o2.data = .cell v1) (h2 : o1.data = .cell v2) (hc : ∃ cs, CallsOk kn xs cs) (hl : xs.length = 4) (hx : ∀ p ∈ kn, p.1 ≠ cx) (hi : ∀ p ∈ kn, p.1 ≠ ci) (hcl : ∀ p ∈ kn, p.1 ≠ cl) (hS : (S, so) ∈ kn) :
    Inv1 m0 S cx ci cl 0 m0 ((cx, o2) :: (ci, o1) :: (cl, listOf xs.toArray c) :: kn) :=
  let ⟨cs, hcs⟩ := hc
  ⟨LocJ.start, o1, o2, xs, c, kn, cs, rfl, ⟨_, h1⟩, ⟨_, h2⟩, hcs, hl, ⟨hx, hi, hcl⟩, so, hS⟩
theorem own_off {kn own : List (Addr × Obj)} {wr : List Addr} {S cx ci cl : Addr} {so o1 o2 o3 : Obj} {kn' : List (Addr × Obj)} (ok : OffK kn cx ci cl) (hS : (S, so) ∈ kn) (off : ∀ p ∈ (cx, o2) :: (ci, o1) :: (cl, o3) :: kn', p.1 ∉ wr) (ho : ∀ p ∈ own, p.1 ∈ wr ∨ p.1 = S) : OffK own cx ci cl := by
  refine ⟨fun p hp e => ?_, fun p hp e => ?_, fun p hp e => ?_⟩
  · rcases ho p hp with h | h
    · exact off _ (.head _) (by rw [← e]; exact h)
    · exact ok.x _ hS (by rw [← h]; exact e)
  · rcases ho p hp with h | h
    · exact off _ (.tail _ (.head _)) (by rw [← e]; exact h)
    · exact ok.i _ hS (by rw [← h]; exact e)
  · rcases ho p hp with h | h
    · exact off _ (.tail _ (.tail _ (.head _))) (by rw [← e]; exact h)
    · exact ok.c _ hS (by rw [← h]; exact e)
theorem ints_get {vs : List Value} {ns : List Int} (h : IntsAre vs ns) : ∀ {i : Nat} {v : Value}, vs[i]? = some v → ∃ n t, v = .int n t := by
  induction h with
  | nil => intro i v h; simp at h
  | cons n t _ ih =>
    intro i v h
    cases i with
    | zero => simp at h; exact ⟨n, t, h.symm⟩
    | succ i => exact ih (by simpa using h)
theorem ints_lt {vs : List Value} {ns : List Int} (h : IntsAre vs (ns.take 4)) {i : Nat} {v : Value} (hv : vs[i]? = some v) : i < 4 := by
  have h1 := h.length
  obtain ⟨hi, _⟩ := List.getElem?_eq_some_iff.mp hv
  rw [List.length_take] at h1
  omega
theorem off_wr {h₀ h : Heap} {L : Addr} {own kn news : List (Addr × Obj)} {wr : List Addr} (N : News h₀ L h news) (ho : ∀ p ∈ own, p ∈ news) (hk : ∀ p ∈ kn, p ∈ news) (hw : ∀ b ∈ wr, ∃ o, (b, o) ∈ own ∧ IterO o) (hc : ∀ p ∈ kn, ¬ IterO p.2) : ∀ p ∈ kn, p.1 ∉ wr := fun p hp hb => by
  obtain ⟨o, h1, h2⟩ := hw _ hb
  have e1 := (N _ (ho _ h1)).1
  have e2 := (N _ (hk p hp)).1
  rw [e2] at e1
  exact hc p hp (by rw [Option.some.inj e1]; exact h2)
theorem off_dis {own tl : List (Addr × Obj)} {wr : List Addr} (hw : ∀ b ∈ wr, ∃ o, (b, o) ∈ own ∧ IterO o) (dis : ∀ q ∈ own, ∀ p ∈ tl, p.1 ≠ q.1) : ∀ p ∈ tl, p.1 ∉ wr := fun p hp hb => by
  obtain ⟨o, h1, _⟩ := hw _ hb
  exact dis _ h1 p hp rfl
def JPl (e1 e2 e3 : Addr × Obj) (T : List (Addr × Obj)) (i : Nat) (ys : List Value) (news : List (Addr × Obj)) : Prop := ∃ tl ds, news = e1 :: e2 :: e3 :: (tl ++ T) ∧ Things tl 1 ys ds ∧ ys.length ≤ i ∧ OffK tl e1.1 e2.1 e3.1 ∧ ∀ q ∈ T, ∀ p ∈ tl, p.1 ≠ q.1
theorem JPl.start {e1 e2 e3 : Addr × Obj} {T : List (Addr × Obj)} : JPl e1 e2 e3 T 0 [] (e1 :: e2 :: e3 :: T) := ⟨[], [], rfl, .nil, Nat.le_refl _, ⟨(fun p h => by cases h), (fun p h => by cases h), (fun p h => by cases h)⟩, fun q _ p h => by cases h⟩
end Mine
end

-- part S9
section
open PySem PySem.W PyProof.Rows
open Lean Elab Tactic Meta
set_option Elab.async false
set_option maxRecDepth 100000
set_option linter.unusedVariables false
namespace Mine
open PySem.Calls PySem.SeqAt
theorem grew_dis {h₀ h h' : Heap} {L : Addr} {news tl : List (Addr × Obj)} (N : News h₀ L h news) (g : Grew h h' tl) : ∀ q ∈ news, ∀ p ∈ tl, p.1 ≠ q.1 := fun q hq p hp => grew_ne N (o := q.2) hq g p hp
theorem fmod3 (a : Int) : 0 ≤ a.fmod 3 ∧ a.fmod 3 < 3 := ⟨Int.fmod_nonneg_of_pos a (by decide), Int.fmod_lt_of_pos a (by decide)⟩
section
variable {w : World} {p : Program} {loose : List Str} {mean : ExcName → Option Value} {mg mb : Str → Option Value}
  {dp un : Nat} {gd : Option (List Code)} {cn : Str} {cs : Scope} {a : Addr} {ccd : Value} {cl : List (Str × Addr)} {outer : List Env} {A₀ : Around} {base h₀ : Heap} {L : Addr} {m : Str → Option Value} {s : Shared} {Q E : Value → Shared → Prop}
variable {news kn : List (Addr × Obj)} {n : Nat} {v : Value} {d : PyData}
theorem thing_use {x y : Int} {tx ty : Tok} (B : Below A₀ base outer h₀) (F : Fr h₀ L s.heap m) (X : (hd.heap_39 w.params).In h₀) (T : Top p loose mean mg mb h₀) (hk : cs.kind = .function) (hd : dp + 12 < recursionLimit) (hu : un + 230 < cLine) (N : News h₀ L s.heap news)
  (hret : ∀ r d h' tk' tl, Fr h₀ L h' m → News h₀ L h' (tl ++ news) → TIn tl 1 r d → (∀ q ∈ news, ∀ p ∈ tl, p.1 ≠ q.1) → Q r { s with heap := h', toks := tk' }) :
  wpAny (model PySem.Challenge.rw_ki0001_01.row.prog w) (ktrTop dp un gd cn cs L a ccd cl outer) (call (.ref 59) [.int x tx, .int y ty]) Q E s :=
  thing_sum B F X T hk hd hu fun r d h' tk' tl g hr => hret r d h' tk' tl (fr_stays F g.st) (news_grew F N g) hr (grew_dis N g)
theorem fellow_use (B : Below A₀ base outer h₀) (F : Fr h₀ L s.heap m) (X : (hd.heap_39 w.params).In h₀) (T : Top p loose mean mg mb h₀) (hk : cs.kind = .function) (hd : dp + 12 < recursionLimit) (hu : un + 230 < cLine) (N : News h₀ L s.heap news) (hkn : ∀ p ∈ kn, p ∈ news) (hv : TIn kn n v d)
  (hret : ∀ r d' h' tk', Fr h₀ L h' m → News h₀ L h' news → TIn kn n r d' → Q r { s with heap := h', toks := tk' }) :
  wpAny (model PySem.Challenge.rw_ki0001_01.row.prog w) (ktrTop dp un gd cn cs L a ccd cl outer) (call (.ref 73) [v]) Q E s :=
  fellow_sum B F X T hk hd hu (fun p hp => (N p (hkn p hp)).1) hv fun r d' h' tk' g hr => hret r d' h' tk' (stay_both F N g).1 (stay_both F N g).2 hr
theorem thing_step {e1 e2 e3 : Addr × Obj} {TT tl : List (Addr × Obj)} {I C D : Addr} {oI oC : Obj} {ys : List Value} {ds : List PyData} {j : Nat} {x y : Int} {tx ty : Tok} {s₁ : Shared} (B : Below A₀ base outer h₀) (F : Fr h₀ L s.heap m) (X : (hd.heap_39 w.params).In h₀) (T : Top p loose mean mg mb h₀) (hk : cs.kind = .function) (hd : dp + 12 < recursionLimit) (hu : un + 230 < cLine) (hs : ∃ tk, s = { s₁ with toks := tk })
    (N : News h₀ L s.heap ((I, oI) :: (C, oC) :: (D, LCg.lst ys) :: e1 :: e2 :: e3 :: (tl ++ TT))) (off : LCg.Off3 I C D (e1 :: e2 :: e3 :: (tl ++ TT))) (hth : Things tl 1 ys ds) (hyl : ys.length ≤ j) (otl : OffK tl e1.1 e2.1 e3.1) (odt : ∀ q ∈ TT, ∀ p ∈ tl, p.1 ≠ q.1) :
    wpAny (model PySem.Challenge.rw_ki0001_01.row.prog w) (ktrTop dp un gd cn cs L a ccd cl outer) (call (.ref 59) [.int x tx, .int y ty]) (LCg.CompEnd h₀ L m s₁ I oI C oC D (LCg.lst ys) (fun _ => True) (fun y news' => JPl e1 e2 e3 TT (j + 1) (ys ++ [y]) news')) E s := by
  obtain ⟨tk, rfl⟩ := hs
  refine thing_use B F X T hk hd hu N fun r d h' tk' tl2 F' N' hr dis => ?_
  have o3 := off.mem
  refine ⟨h', tk', e1 :: e2 :: e3 :: ((tl2 ++ tl) ++ TT), rfl, F', fun p hp => N' p ?_, LCg.Off3.of fun p hp => ?_, trivial, tl2 ++ tl, ds ++ [d], rfl, ?_, by simp; omega, ?_, ?_⟩
  · simp only [List.mem_cons, List.mem_append] at hp ⊢
    rcases hp with h | h | h | h | h | h | (h | h) | h <;> simp [h]
  · simp only [List.mem_cons, List.mem_append] at hp
    rcases hp with h | h | h | (h | h) | h
    · exact o3 p (by simp [h])
    · exact o3 p (by simp [h])
    · exact o3 p (by simp [h])
    · exact ⟨dis (I, oI) (.head _) p h, dis (C, oC) (.tail _ (.head _)) p h, dis (D, LCg.lst ys) (.tail _ (.tail _ (.head _))) p h⟩
    · exact o3 p (by simp [h])
    · exact o3 p (by simp [h])
  · exact (hth.mono fun p h => List.mem_append_right _ h).append (.cons (hr.mono fun p h => List.mem_append_left _ h) .nil)
  · exact OffK.app ⟨fun p hp => dis e1 (.tail _ (.tail _ (.tail _ (.head _)))) p hp, fun p hp => dis e2 (.tail _ (.tail _ (.tail _ (.tail _ (.head _))))) p hp, fun p hp => dis e3 (.tail _ (.tail _ (.tail _ (.tail _ (.tail _ (.head _)))))) p hp⟩ otl
  · intro q hq p hp
    rcases List.mem_append.mp hp with hp | hp
    · exact dis q (by simp only [List.mem_cons, List.mem_append]; simp [hq]) p hp
    · exact odt q hq p hp
theorem news_in {pre KT tl : List (Addr × Obj)} {h : Heap} (N : News h₀ L h (tl ++ (pre ++ KT))) : News h₀ L h (pre ++ (tl ++ KT)) := fun p hp => N p (by
  simp only [List.mem_append] at hp ⊢
  rcases hp with h | h | h <;> simp [h])
theorem offk_dis {e1 e2 e3 : Addr × Obj} {news tl : List (Addr × Obj)} (dis : ∀ q ∈ news, ∀ p ∈ tl, p.1 ≠ q.1) (h1 : e1 ∈ news) (h2 : e2 ∈ news) (h3 : e3 ∈ news) : OffK tl e1.1 e2.1 e3.1 := ⟨dis _ h1, dis _ h2, dis _ h3⟩
theorem fmod2 (a : Int) : a.fmod 2 = 0 ∨ a.fmod 2 = 1 := by
  have h1 := Int.fmod_nonneg_of_pos a (b := 2) (by decide)
  have h2 := Int.fmod_lt_of_pos a (b := 2) (by decide)
  omega
theorem pick2 (p q : Value) (a b : Int) : ∃ zs, (slicePick #[p, q] (some (a.fmod 2)) (some (2 - b.fmod 2)) none).toList = zs ∧ (zs = [p, q] ∨ zs = [p] ∨ zs = [q] ∨ zs = []) := by
  refine ⟨_, rfl, ?_⟩
  rcases fmod2 a with h | h <;> rcases fmod2 b with h2 | h2 <;> rw [h, h2]
  · exact .inl rfl
  · exact .inr (.inl rfl)
  · exact .inr (.inr (.inl rfl))
  · exact .inr (.inr (.inr rfl))
theorem named_slice {value slice : PySem.Expr} {l : Addr} {p q : Value} {a b : Int} {ta tb : Tok} {prog : Program} {A : Around} (F : Fr h₀ L s.heap m) (N : News h₀ L s.heap news) (hl : s.heap.IsList l #[p, q])
    (h : ∀ D h' zs, Fr h₀ L h' m → News h₀ L h' ((D, listOf (zs : List Value).toArray 0) :: news) → (∀ p ∈ news, p.1 < D) → (zs = [p, q] ∨ zs = [p] ∨ zs = [q] ∨ zs = []) → Q (.ref D) { s with heap := h' })
    (hs : subscripted slice false (.ref l) (.ref s.heap.objs.size) = operate [.ref s.heap.objs.size, .ref l] (getItem (.ref l) (.ref s.heap.objs.size))) (ht : ∀ r, letTemporaryGo value (.ref l) r = pure ()) :
    wpAny (model prog w) A (subscriptTail value slice (.ref l) (.ref s.heap.objs.size)) Q E { s with heap := s.heap.push { cls := .type "slice", data := .fields #[.int (a.fmod 2) ta, .int (2 - b.fmod 2) tb, .none] } } := by
  obtain ⟨zs, e, hz⟩ := pick2 p q a b
  exact W.kmk_slice_lit F N hl (.int _ _) (.int _ _) e (fun D h' F' N' l1 => h D h' zs F' N' l1 hz) hs ht (by show 2 ≤ _; rw [sizeLine_eq]; omega)
def JFe (N0 kn : List (Addr × Obj)) (n i : Nat) (ys : List Value) (news : List (Addr × Obj)) : Prop := news = N0 ∧ ∃ ds, Things kn n ys ds ∧ ys.length ≤ i
theorem fellow_step {N0 : List (Addr × Obj)} {I C D l : Addr} {oI oC : Obj} {its : Array Value} {ys : List Value} {ds : List PyData} {j : Nat} {s₁ : Shared} (B : Below A₀ base outer h₀) (F : Fr h₀ L s.heap m) (X : (hd.heap_39 w.params).In h₀) (T : Top p loose mean mg mb h₀) (hk : cs.kind = .function) (hd : dp + 12 < recursionLimit) (hu : un + 230 < cLine) (hs : ∃ tk, s = { s₁ with toks := tk })
    (N : News h₀ L s.heap ((I, oI) :: (C, oC) :: (D, LCg.lst ys) :: N0)) (off : LCg.Off3 I C D N0) (hS : LCg.SrcAt h₀ l its N0) (hkn : ∀ p ∈ kn, p ∈ N0) (hv : TIn kn n v d) (hth : Things kn n ys ds) (hyl : ys.length ≤ j) :
    wpAny (model PySem.Challenge.rw_ki0001_01.row.prog w) (ktrTop dp un gd cn cs L a ccd cl outer) (call (.ref 73) [v]) (LCg.CompEnd h₀ L m s₁ I oI C oC D (LCg.lst ys) (LCg.SrcAt h₀ l its) (fun y news' => JFe N0 kn n (j + 1) (ys ++ [y]) news')) E s := by
  obtain ⟨tk, rfl⟩ := hs
  refine fellow_use B F X T hk hd hu N (fun p hp => .tail _ (.tail _ (.tail _ (hkn p hp)))) hv fun r d' h' tk' F' N' hr => ?_
  exact ⟨h', tk', N0, rfl, F', N', off, hS, rfl, ds ++ [d'], hth.append (.cons hr .nil), by simp; omega⟩
theorem names_ok {kw : List (Str × Value)} (h : kw.map (·.1) = [nS, kS] ∨ kw.map (·.1) = [kS, nS] ∨ kw.map (·.1) = [nS] ∨ kw.map (·.1) = [kS] ∨ kw.map (·.1) = []) : ∃ sk, KwOk kw sk := by
  rcases h with h | h | h | h | h
  · match kw, h with
    | [(a, u), (b, v)], h => simp at h; obtain ⟨rfl, rfl⟩ := h; exact ⟨_, .nk _ _⟩
  · match kw, h with
    | [(a, u), (b, v)], h => simp at h; obtain ⟨rfl, rfl⟩ := h; exact ⟨_, .kn _ _⟩
  · match kw, h with
    | [(a, u)], h => simp at h; subst h; exact ⟨_, .n _⟩
  · match kw, h with
    | [(a, u)], h => simp at h; subst h; exact ⟨_, .k _⟩
  · match kw, h with
    | [], h => exact ⟨_, .nil⟩
theorem addL {l b : Addr} {vs us : List Value} {prog : Program} {A : Around} (F : Fr h₀ L s.heap m) (N : News h₀ L s.heap news) (hl : s.heap.IsList l vs.toArray) (hb : s.heap.IsList b us.toArray) (hz : vs.length + us.length ≤ 64)
    (h : ∀ D h', Fr h₀ L h' m → News h₀ L h' ((D, listOf (vs ++ us).toArray 0) :: news) → (∀ p ∈ news, p.1 < D) → Q (.ref D) { s with heap := h' }) : wpAny (model prog w) A (binaryOp .Add (.ref l) (.ref b)) Q E s :=
  add_lists (hsz := by rw [sizeLine_eq]; omega) F N hl hb fun h' F' N' => h _ h' F' N' fun p hp => Heap.lt_size (N p hp).1
theorem items_things {kp kn : List (Addr × Obj)} {its : List Value} {kw : List (Str × Value)} {nd : List (Str × PyData)} (h : ItemsIn kp its kw) (k : Named kn 1 kw nd) : Things (kp ++ kn) 2 its (nd.map pairD) := by
  induction h generalizing nd with
  | nil => cases k; exact .nil
  | cons hm _ ih =>
    cases k with
    | cons o a r => exact .cons (.pair (List.mem_append_left _ hm) o (a.mono fun _ h => List.mem_append_right _ h)) (ih r)
theorem sm3 (a : Int) : Builtin.Range.small 0 (a.fmod 3) 1 = true := small_one (by decide) (by decide) (by have := fmod3 a; omega) (by have := fmod3 a; omega)
theorem sz3 (a : Int) : (a.fmod 3 - 0).toNat ≤ sizeLine := by have := fmod3 a; rw [sizeLine_eq]; omega
theorem j01 {a : Int} {j : Nat} (h : j < (a.fmod 3 - 0).toNat) : j = 0 ∨ j = 1 := by have := fmod3 a; omega
theorem n3 (a : Int) : (a.fmod 3 - 0).toNat ≤ 2 := by have := fmod3 a; omega
end
end Mine
end

-- part S10
section
open PySem PySem.W PyProof.Rows
set_option Elab.async false
set_option maxRecDepth 100000
set_option linter.unusedVariables false
namespace Mine
open PySem.Calls PyProof.Rows.LCg
theorem walks_imp {prog : Program} {w : World} {A : Around} {I : Addr} {fp wr : List Addr} {n k : Nat} {P P' : Nat → Value → Prop} {St : Nat → Heap → Prop} (W : Walks prog w A I fp wr n P St) (hn : n = k) (imp : ∀ i v, i < n → P i v → P' i v) : Walks prog w A I fp wr k P' St := by
  subst hn
  exact ⟨W.sub, W.frame, fun i s Q E hi st hQ => W.item i s Q E hi st fun v h' tk hP => hQ v h' tk (imp i v hi hP), W.done, W.self⟩
theorem ItemsIn.app {kn : List (Addr × Obj)} {a b : List Value} {x y : List (Str × Value)} (h : ItemsIn kn a x) (k : ItemsIn kn b y) : ItemsIn kn (a ++ b) (x ++ y) := by
  induction h with
  | nil => exact k
  | cons hm _ ih => exact .cons hm ih
theorem ItemsIn.rev {kn : List (Addr × Obj)} {a : List Value} {x : List (Str × Value)} (h : ItemsIn kn a x) : ItemsIn kn a.reverse x.reverse := by
  induction h with
  | nil => exact .nil
  | cons hm _ ih => rw [List.reverse_cons, List.reverse_cons]; exact ih.app (.cons hm .nil)
section
variable {prog : Program} {w : World} {A : Around} {E : Value → Shared → Prop} {s : Shared} {h₀ : Heap} {L : Addr} {m : Str → Option Value} {env : Env}
theorem psrc_rev {elt : PySem.Expr} {ifs : List PySem.Expr} {x x₂ : Str} {scope : Scope} {cl : List (Str × Addr)} {Q : Value → Shared → Prop} {s₁ : Shared} {l : Addr} {arr : List Value} {kw : List (Str × Value)} {kn cst ex : List (Addr × Obj)} (hh : A.handled = none)
    (hl : s₁.heap.IsList l arr.toArray) (hlc : (∃ o, h₀.get? l = some o) ∨ ∃ o, (l, o) ∈ cst) (hit : ItemsIn kn arr kw) (hkn : KnOk kn s₁.heap) (hcov : ∀ p ∈ kn, (∃ o, h₀.get? p.1 = some o) ∨ ∃ o, (p.1, o) ∈ cst)
    (hz : arr.length ≤ 64) (F : Fr h₀ L s₁.heap m) (N : News h₀ L s₁.heap (cst ++ ex)) (J : Nat → List Value → List (Addr × Obj) → Prop) (hJ : J 0 [] ex)
    (turn : ∀ s₂, (∃ g, s₂ = { s₁ with heap := g }) → ∀ i ys ex xn t u I oI C oC D m₂ h tk (E' : Value → Shared → Prop), kw.reverse[i]? = some (xn, u) → J i ys ex → NsObj oC m₂ → m₂ x = some (.str xn t) → m₂ x₂ = some u → Fr h₀ L h m → News h₀ L h ((I, oI) :: (C, oC) :: (D, lst ys) :: (cst ++ ex)) → Off3 I C D (cst ++ ex) →
      ((@Ne Nat I C) ∧ (@Ne Nat I D) ∧ (@Ne Nat C D)) →
      wpAny (model prog w) A (forIn ifs true fun c r => if r = true then do let ok ← isTrue c (compEnvC scope cl C env) (eval c (compEnvC scope cl C env)); pure (ForInStep.yield ok) else pure (ForInStep.yield r)) (fun ok s₃ =>
        if ok = true then wpAny (model prog w) A (eval elt (compEnvC scope cl C env)) (fun y s₄ => PEnd h₀ L m { s₂ with heap := h, toks := tk } I oI C oC D (lst ys) cst (J (i + 1) (ys ++ [y])) s₄) E' s₃
        else PEnd h₀ L m { s₂ with heap := h, toks := tk } I oI C oC D (lst ys) cst (J (i + 1) ys) s₃) E' { s₂ with heap := h, toks := tk })
    (fin : ∀ D h tk ys ex', Fr h₀ L h m → News h₀ L h ((D, lst ys) :: (cst ++ ex')) → Off1 D (cst ++ ex') → J kw.length ys ex' → Q (.ref D) { s₁ with heap := h, toks := tk }) :
    wpAny (model prog w) A (call (.type "reversed") [.ref l]) (fun xv s₂ => wpAny (model prog w) A (pyIter xv) (PSrc prog w A h₀ L m env elt ifs x x₂ scope cl Q) E s₂) E s₁ := by
  have ll : l < s₁.heap.objs.size := by obtain ⟨o, e, _⟩ := hl; exact Heap.lt_size e
  refine call_reversed_list hl ?_
  have up : ∀ b o, s₁.heap.get? b = some o → (s₁.heap.push (revObj l ((arr.toArray.size : Int) - 1))).get? b = some o := fun b o e => Heap.get?_push_of_some _ e
  have W0 := Walks.listRev (prog := prog) (w := w) (A := A) hh s₁.heap.objs.size l (Nat.ne_of_lt ll) arr.toArray
  have hst : (0 ≤ arr.toArray.size) ∧ (s₁.heap.push (revObj l ((arr.toArray.size : Int) - 1))).IsRevIter s₁.heap.objs.size l ((arr.toArray.size : Int) - 1 - ((0 : Nat) : Int)) ∧ (s₁.heap.push (revObj l ((arr.toArray.size : Int) - 1))).IsList l arr.toArray :=
    ⟨Nat.zero_le _, ⟨_, Heap.get?_push_size _ rfl, rfl, by simp [revObj]⟩, hl.push _⟩
  refine W0.self 0 _ _ _ hst ?_
  have W1 := walks_imp (k := arr.reverse.length) (P' := fun i v => arr.reverse[i]? = some v) W0 (by simp) (fun i v hi hP => by
    rw [List.getElem?_reverse (by simpa using hi)]
    simpa using hP)
  refine psrc_core (s₂ := { s₁ with heap := s₁.heap.push (revObj l ((arr.toArray.size : Int) - 1)) }) hh W1 (fun i s Q E elts k pos T st q => letGo_rev st.2.1 q)
    (fun i h st => by obtain ⟨o, e, _⟩ := st.2.1; exact ⟨o, e⟩) hst (fun b hb => ?_) hit.rev (fun p hp => up _ _ (hkn p hp)) hcov (fun p hp => Nat.ne_of_lt (Heap.lt_size (hkn p hp))) (by simpa using hz)
    (F.push _) (N.grown up) (Nat.ne_of_lt F.ns.lt) ?_ (fun p hp => Nat.ne_of_lt (Heap.lt_size (N p hp).1)) J hJ (turn _ ⟨_, rfl⟩) (by simpa using fin)
  · rcases List.mem_cons.mp hb with e | hb
    · exact .inl e
    · rw [List.mem_singleton.mp hb]; exact .inr hlc
  · cases q : h₀.get? s₁.heap.objs.size with
    | none => rfl
    | some o => exact absurd (Heap.lt_size (F.keep _ _ q)) (Nat.lt_irrefl _)
end
def JPr (kn : List (Addr × Obj)) (rkw : List (Str × Value)) (e1 e2 e3 : Addr) (i : Nat) (ys : List Value) (ex : List (Addr × Obj)) : Prop :=
  ∃ kw' nd', ItemsIn ex ys kw' ∧ kw'.map (·.1) = (rkw.take i).map (·.1) ∧ Named kn 1 kw' nd' ∧ ys.length ≤ i ∧ OffK ex e1 e2 e3 ∧ ∀ p ∈ ex, ¬ IterO p.2
theorem JPr.start {kn : List (Addr × Obj)} {rkw : List (Str × Value)} {e1 e2 e3 : Addr} : JPr kn rkw e1 e2 e3 0 [] [] := ⟨[], [], .nil, by simp, .nil, Nat.le_refl _, ⟨(fun p h => by cases h), (fun p h => by cases h), (fun p h => by cases h)⟩, fun p h => by cases h⟩
theorem Named.snoc {kn : List (Addr × Obj)} {n : Nat} {kw : List (Str × Value)} {kd : List (Str × PyData)} (h : Named kn n kw kd) {x : Str} {v : Value} {d : PyData} (o : PyData.strOk x = true) (t : TIn kn n v d) : Named kn n (kw ++ [(x, v)]) (kd ++ [(x, d)]) := by
  induction h with
  | nil => exact .cons o t .nil
  | cons a b _ ih => exact .cons a b ih
theorem JPr.step {kn : List (Addr × Obj)} {rkw : List (Str × Value)} {e1 e2 e3 : Addr} {i : Nat} {ys : List Value} {ex : List (Addr × Obj)} (h : JPr kn rkw e1 e2 e3 i ys ex) {xn : Str} {t : Tok} {u r : Value} {d : PyData} {P : Addr} {k : Nat} (hk : rkw[i]? = some (xn, u)) (o : PyData.strOk xn = true) (hr : TIn kn 1 r d) (n1 : P ≠ e1) (n2 : P ≠ e2) (n3 : P ≠ e3) :
    JPr kn rkw e1 e2 e3 (i + 1) (ys ++ [.ref P]) ((P, tupO [.str xn t, r] k) :: ex) := by
  obtain ⟨kw', nd', a, b, c, e, f, g⟩ := h
  refine ⟨kw' ++ [(xn, r)], nd' ++ [(xn, d)], (a.mono fun p h => .tail _ h).app (.cons (.head _) .nil), ?_, c.snoc o hr, by simp; omega, ⟨fun p hp => ?_, fun p hp => ?_, fun p hp => ?_⟩, fun p hp => ?_⟩
  · rw [List.map_append, b, List.take_add_one, hk]; simp
  · rcases List.mem_cons.mp hp with rfl | hp
    · exact n1
    · exact f.x p hp
  · rcases List.mem_cons.mp hp with rfl | hp
    · exact n2
    · exact f.i p hp
  · rcases List.mem_cons.mp hp with rfl | hp
    · exact n3
    · exact f.c p hp
  · rcases List.mem_cons.mp hp with rfl | hp
    · rintro (h | h) <;> simp at h
    · exact g p hp
theorem Named.app {kn : List (Addr × Obj)} {n : Nat} {a b : List (Str × Value)} {x y : List (Str × PyData)} (h : Named kn n a x) (k : Named kn n b y) : Named kn n (a ++ b) (x ++ y) := by
  induction h with
  | nil => exact k
  | cons o t _ ih => exact .cons o t ih
theorem Named.rev {kn : List (Addr × Obj)} {n : Nat} {a : List (Str × Value)} {x : List (Str × PyData)} (h : Named kn n a x) : Named kn n a.reverse x.reverse := by
  induction h with
  | nil => exact .nil
  | cons o t _ ih => rw [List.reverse_cons, List.reverse_cons]; exact ih.app (.cons o t .nil)
theorem Named.get2 {kn : List (Addr × Obj)} {n : Nat} {kw : List (Str × Value)} {kd : List (Str × PyData)} (h : Named kn n kw kd) : ∀ {i : Nat} {x : Str} {u : Value}, kw[i]? = some (x, u) → ∃ d, TIn kn n u d ∧ PyData.strOk x = true := by
  induction h with
  | nil => intro i x u h; simp at h
  | cons o a _ ih =>
    intro i x u h
    cases i with
    | zero => simp at h; obtain ⟨rfl, rfl⟩ := h; exact ⟨_, a, o⟩
    | succ i => exact ih (by simpa using h)
theorem pick_items {Pn Pk : Addr} {kn kv : List (Addr × Obj)} {r1 r2 : Value} {d1 d2 : PyData} {t1 t2 : Tok} {k1 k2 : Nat} {zs : List Value} (hn : (Pn, tupO [.str nS t1, r1] k1) ∈ kn) (hk : (Pk, tupO [.str kS t2, r2] k2) ∈ kn) (h1 : TIn kv 1 r1 d1) (h2 : TIn kv 1 r2 d2)
    (hz : zs = [.ref Pn, .ref Pk] ∨ zs = [.ref Pn] ∨ zs = [.ref Pk] ∨ zs = []) : ∃ kw sk nd, ItemsIn kn zs kw ∧ KwOk kw sk ∧ Named kv 1 kw nd ∧ zs.length ≤ 2 ∧ ∀ kw' : List (Str × Value), kw'.map (·.1) = kw.reverse.map (·.1) → ∃ sk', KwOk kw' sk' := by
  rcases hz with rfl | rfl | rfl | rfl
  · exact ⟨_, _, _, .cons hn (.cons hk .nil), .nk _ _, .cons ok_n h1 (.cons ok_k h2 .nil), Nat.le_refl _, fun kw' h => names_ok (.inr (.inl h))⟩
  · exact ⟨_, _, _, .cons hn .nil, .n _, .cons ok_n h1 .nil, Nat.le_of_ble_eq_true rfl, fun kw' h => names_ok (.inr (.inr (.inl h)))⟩
  · exact ⟨_, _, _, .cons hk .nil, .k _, .cons ok_k h2 .nil, Nat.le_of_ble_eq_true rfl, fun kw' h => names_ok (.inr (.inr (.inr (.inl h))))⟩
  · exact ⟨_, _, _, .nil, .nil, .nil, Nat.zero_le _, fun kw' h => names_ok (.inr (.inr (.inr (.inr h))))⟩
end Mine
end

-- part S11
section
open PySem PySem.W PyProof.Rows
set_option Elab.async false
set_option maxRecDepth 100000
set_option linter.unusedVariables false
namespace Mine
open PySem.Calls PyProof.Rows.LCg
theorem notIter_list {its : Array Value} {c : Nat} : ¬ IterO (W.listOf its c) := by rintro (h | h) <;> simp [W.listOf] at h
theorem notIter_tup {vs : List Value} {k : Nat} : ¬ IterO (tupO vs k) := by rintro (h | h) <;> simp at h
/-- the end of a turn of the first loop -/
theorem asm1 {G : Prop} {h₀ h : Heap} {L : Addr} {own kn tl tl1 tl2 ex3 : List (Addr × Obj)} {wr : List Addr} {m0 m' : Str → Option Value} {S cx ci cl lc De Ds lb D3 D2 la Dn nm Pk Pn D : Addr} {o1 o2 so : Obj} {xs ys ys2 ys3 zs : List Value} {c i : Nat} {r1 r2 : Value} {t1 t2 : Tok} {v1 v2 : Option Value}
    {cs : List (List PyData × List (Str × PyData))} {ds ds2 : List PyData} {kwz skz kw3 : List (Str × Value)} {ndz nd3 : List (Str × PyData)}
    (N : News h₀ L h ((lc, W.listOf #[.ref Ds, .ref De] 0) :: (De, W.listOf #[] 0) :: (Ds, W.listOf (ys ++ zs).toArray 0) :: (lb, W.listOf #[.ref D2, .ref D3] 0) :: (D3, lst ys3) :: (D2, lst ys2) :: (la, W.listOf #[.ref D, .ref Dn] 0) :: (Dn, W.listOf zs.toArray 0) ::
      (nm, W.listOf #[.ref Pn, .ref Pk] 0) :: (Pk, tupO [.str kS t2, r2] 0) :: (Pn, tupO [.str nS t1, r1] 0) :: (D, lst ys) :: (cx, o2) :: (ci, o1) :: (cl, W.listOf (((xs.toArray.push (.ref la)).push (.ref lb)).push (.ref lc)) (c + 1 + 1 + 1)) :: (tl2 ++ (tl1 ++ (tl ++ (kn ++ own))) ++ ex3)))
    (hm : LocJ m0 (Str.ofString "places") (Str.ofString "named") m') (hv2 : o2.data = .cell v2) (hv1 : o1.data = .cell v1) (hcs : CallsOk kn xs cs) (hxl : xs.length = 4 + 3 * i) (hS : (S, so) ∈ kn)
    (oAll : OffK (tl2 ++ (tl1 ++ (tl ++ (kn ++ own)))) cx ci cl) (ok3 : OffK ex3 cx ci cl)
    (hw : ∀ b ∈ wr, ∃ o, (b, o) ∈ own ∧ IterO o) (off : ∀ p ∈ kn, p.1 ∉ wr) (offc : cx ∉ wr ∧ ci ∉ wr ∧ cl ∉ wr) (dis2 : ∀ q ∈ own, ∀ p ∈ tl2, p.1 ≠ q.1) (dis1 : ∀ q ∈ own, ∀ p ∈ tl1, p.1 ≠ q.1) (odt : ∀ q ∈ own, ∀ p ∈ tl, p.1 ≠ q.1) (hit3 : ∀ p ∈ ex3, ¬ IterO p.2)
    (hth : Things tl 1 ys ds) (hth2 : Things tl 1 ys2 ds2) (hiz : ItemsIn [(Pn, tupO [.str nS t1, r1] 0), (Pk, tupO [.str kS t2, r2] 0)] zs kwz) (hkz : KwOk kwz skz) (hnz : Named (tl2 ++ tl1) 1 kwz ndz) (hi3 : ItemsIn ex3 ys3 kw3) (hk3 : ∃ sk, KwOk kw3 sk) (hnm3 : Named (tl2 ++ tl1) 1 kw3 nd3)
    (l1 : ys.length ≤ 2) (l2 : ys2.length ≤ 2) (l3 : zs.length ≤ 2)
    (nl : [lc, De, Ds, lb, D3, D2, la, Dn, nm, Pk, Pn, D].all (fun a => decide ((@Ne Nat a cl))) = true)
    (fin : ∀ ex', News h₀ L h (ex' ++ own) → (∀ p ∈ ex', p.1 ∉ wr) → Inv1 m0 S cx ci cl (i + 1) m' ex' → G) : G := by
  let lits : List (Addr × Obj) := [(lc, W.listOf #[.ref Ds, .ref De] 0), (De, W.listOf #[] 0), (Ds, W.listOf (ys ++ zs).toArray 0), (lb, W.listOf #[.ref D2, .ref D3] 0), (D3, lst ys3), (D2, lst ys2), (la, W.listOf #[.ref D, .ref Dn] 0), (Dn, W.listOf zs.toArray 0),
      (nm, W.listOf #[.ref Pn, .ref Pk] 0), (Pk, tupO [.str kS t2, r2] 0), (Pn, tupO [.str nS t1, r1] 0), (D, lst ys)]
  let know := tl2 ++ (tl1 ++ (tl ++ kn))
  have ex : ((xs.toArray.push (Value.ref la)).push (Value.ref lb)).push (Value.ref lc) = (xs ++ [Value.ref la] ++ [Value.ref lb] ++ [Value.ref lc]).toArray := by simp
  rw [ex] at N
  have mem : ∀ p, p ∈ lits ∨ p ∈ know ∨ p ∈ ex3 ∨ p ∈ own → p ∈ ((lc, W.listOf #[.ref Ds, .ref De] 0) :: (De, W.listOf #[] 0) :: (Ds, W.listOf (ys ++ zs).toArray 0) :: (lb, W.listOf #[.ref D2, .ref D3] 0) :: (D3, lst ys3) :: (D2, lst ys2) :: (la, W.listOf #[.ref D, .ref Dn] 0) :: (Dn, W.listOf zs.toArray 0) ::
      (nm, W.listOf #[.ref Pn, .ref Pk] 0) :: (Pk, tupO [.str kS t2, r2] 0) :: (Pn, tupO [.str nS t1, r1] 0) :: (D, lst ys) :: (cx, o2) :: (ci, o1) :: (cl, W.listOf (xs ++ [Value.ref la] ++ [Value.ref lb] ++ [Value.ref lc]).toArray (c + 1 + 1 + 1)) :: (tl2 ++ (tl1 ++ (tl ++ (kn ++ own))) ++ ex3)) := by
    intro p hp
    rcases hp with h | h | h | h
    · exact List.mem_append_left (bs := (cx, o2) :: (ci, o1) :: (cl, W.listOf (xs ++ [Value.ref la] ++ [Value.ref lb] ++ [Value.ref lc]).toArray (c + 1 + 1 + 1)) :: (tl2 ++ (tl1 ++ (tl ++ (kn ++ own))) ++ ex3)) (as := lits) h
    · refine List.mem_append_right (as := lits) (List.mem_cons_of_mem _ (List.mem_cons_of_mem _ (List.mem_cons_of_mem _ ?_)))
      simp only [know, List.mem_append] at h ⊢
      rcases h with h | h | h | h
      · exact .inl (.inl h)
      · exact .inl (.inr (.inl h))
      · exact .inl (.inr (.inr (.inl h)))
      · exact .inl (.inr (.inr (.inr (.inl h))))
    · exact List.mem_append_right (as := lits) (List.mem_cons_of_mem _ (List.mem_cons_of_mem _ (List.mem_cons_of_mem _ (List.mem_append_right _ h))))
    · refine List.mem_append_right (as := lits) (List.mem_cons_of_mem _ (List.mem_cons_of_mem _ (List.mem_cons_of_mem _ ?_)))
      simp only [List.mem_append]
      exact .inl (.inr (.inr (.inr (.inr h))))
  have mcx := N (cx, o2) (List.mem_append_right (as := lits) (.head _))
  have nc : ∀ p ∈ lits, NotCell p.2 := by
    intro p hp
    simp only [lits, List.mem_cons, List.not_mem_nil, or_false] at hp
    rcases hp with rfl | rfl | rfl | rfl | rfl | rfl | rfl | rfl | rfl | rfl | rfl | rfl <;> nofun
  have ni : ∀ p ∈ lits, ¬ IterO p.2 := by
    intro p hp
    simp only [lits, List.mem_cons, List.not_mem_nil, or_false] at hp
    rcases hp with rfl | rfl | rfl | rfl | rfl | rfl | rfl | rfl | rfl | rfl | rfl | rfl <;> first | exact notIter_list | exact notIter_tup
  have nlc : ∀ p ∈ lits, p.1 ≠ cl := by
    intro p hp
    simp only [List.all_cons, List.all_nil, Bool.and_true, Bool.and_eq_true, decide_eq_true_eq] at nl
    simp only [lits, List.mem_cons, List.not_mem_nil, or_false] at hp
    obtain ⟨n1, n2, n3, n4, n5, n6, n7, n8, n9, n10, n11, n12⟩ := nl
    rcases hp with rfl | rfl | rfl | rfl | rfl | rfl | rfl | rfl | rfl | rfl | rfl | rfl <;> assumption
  have olits : OffK lits cx ci cl := ⟨off_cell N (List.mem_append_right (as := lits) (.head _)) hv2 (fun p hp => mem p (.inl hp)) nc, off_cell N (List.mem_append_right (as := lits) (.tail _ (.head _))) hv1 (fun p hp => mem p (.inl hp)) nc, nlc⟩
  have oknow : OffK know cx ci cl := by
    have sk : ∀ p ∈ know, p ∈ tl2 ++ (tl1 ++ (tl ++ (kn ++ own))) := fun p h => by
      simp only [know, List.mem_append] at h ⊢
      rcases h with h | h | h | h
      · exact .inl h
      · exact .inr (.inl h)
      · exact .inr (.inr (.inl h))
      · exact .inr (.inr (.inr (.inl h)))
    exact ⟨fun p hp => oAll.x p (sk p hp), fun p hp => oAll.i p (sk p hp), fun p hp => oAll.c p (sk p hp)⟩
  have subk : ∀ p ∈ know, p ∈ lits ++ know ++ ex3 := fun p hp => List.mem_append_left _ (List.mem_append_right _ hp)
  have subkn : ∀ p ∈ kn, p ∈ lits ++ know ++ ex3 := fun p hp => subk p (by simp only [know, List.mem_append]; exact .inr (.inr (.inr hp)))
  have subtl : ∀ p ∈ tl, p ∈ lits ++ know ++ ex3 := fun p hp => subk p (by simp only [know, List.mem_append]; exact .inr (.inr (.inl hp)))
  have sub21 : ∀ p ∈ tl2 ++ tl1, p ∈ lits ++ know ++ ex3 := fun p hp => subk p (by
    simp only [know, List.mem_append] at hp ⊢
    rcases hp with h | h
    · exact .inl h
    · exact .inr (.inl h))
  have subl : ∀ p ∈ lits, p ∈ lits ++ know ++ ex3 := fun p hp => List.mem_append_left _ (List.mem_append_left _ hp)
  have sub3 : ∀ p ∈ ex3, p ∈ lits ++ know ++ ex3 := fun p hp => List.mem_append_right _ hp
  have mPn : (Pn, tupO [.str nS t1, r1] 0) ∈ lits := .tail _ (.tail _ (.tail _ (.tail _ (.tail _ (.tail _ (.tail _ (.tail _ (.tail _ (.tail _ (.head _))))))))))
  have mPk : (Pk, tupO [.str kS t2, r2] 0) ∈ lits := .tail _ (.tail _ (.tail _ (.tail _ (.tail _ (.tail _ (.tail _ (.tail _ (.tail _ (.head _)))))))))
  have subP : ∀ p ∈ [(Pn, tupO [.str nS t1, r1] 0), (Pk, tupO [.str kS t2, r2] 0)], p ∈ lits ++ know ++ ex3 := fun p hp => subl p (by
    simp only [List.mem_cons, List.not_mem_nil, or_false] at hp
    rcases hp with rfl | rfl
    · exact mPn
    · exact mPk)
  obtain ⟨sk3, hk3⟩ := hk3
  have c1 : CallOk (lits ++ know ++ ex3) (.ref la) (ds, ndz) := ⟨la, D, Dn, ys, zs, kwz, skz, 0, ys.length, 0, rfl,
    subl _ (.tail _ (.tail _ (.tail _ (.tail _ (.tail _ (.tail _ (.head _))))))),
    subl _ (.tail _ (.tail _ (.tail _ (.tail _ (.tail _ (.tail _ (.tail _ (.tail _ (.tail _ (.tail _ (.tail _ (.head _)))))))))))),
    subl _ (.tail _ (.tail _ (.tail _ (.tail _ (.tail _ (.tail _ (.tail _ (.head _)))))))),
    (hth.mono subtl).up (by omega), hiz.mono subP, hkz, hnz.mono sub21, by omega⟩
  have c2 : CallOk (lits ++ know ++ ex3) (.ref lb) (ds2, nd3) := ⟨lb, D2, D3, ys2, ys3, kw3, sk3, 0, ys2.length, ys3.length, rfl,
    subl _ (.tail _ (.tail _ (.tail _ (.head _)))),
    subl _ (.tail _ (.tail _ (.tail _ (.tail _ (.tail _ (.head _)))))),
    subl _ (.tail _ (.tail _ (.tail _ (.tail _ (.head _))))),
    (hth2.mono subtl).up (by omega), hi3.mono sub3, hk3, hnm3.mono sub21, by omega⟩
  have c3 : CallOk (lits ++ know ++ ex3) (.ref lc) (ds ++ ndz.map pairD, []) := ⟨lc, Ds, De, ys ++ zs, [], [], [], 0, 0, 0, rfl,
    subl _ (.head _), subl _ (.tail _ (.tail _ (.head _))), subl _ (.tail _ (.head _)),
    ((hth.mono subtl).up (by omega)).append ((items_things hiz hnz).mono fun p hp => (List.mem_append.mp hp).elim (subP p) (sub21 p)), .nil, .nil, .nil, by rw [List.length_append]; omega⟩
  refine fin ((cx, o2) :: (ci, o1) :: (cl, W.listOf (xs ++ [Value.ref la] ++ [Value.ref lb] ++ [Value.ref lc]).toArray (c + 1 + 1 + 1)) :: (lits ++ know ++ ex3)) (fun p hp => N p ?_) (fun p hp => ?_) ⟨hm, o1, o2, _, _, _, cs ++ [_] ++ [_] ++ [_], rfl, ⟨_, hv2⟩, ⟨_, hv1⟩, (((hcs.mono subkn).snoc c1).snoc c2).snoc c3, by simp; omega, (olits.app oknow).app ok3, so, subkn _ hS⟩
  · rcases List.mem_append.mp hp with hp | hp
    · rcases List.mem_cons.mp hp with rfl | hp
      · exact List.mem_append_right (as := lits) (.head _)
      rcases List.mem_cons.mp hp with rfl | hp
      · exact List.mem_append_right (as := lits) (.tail _ (.head _))
      rcases List.mem_cons.mp hp with rfl | hp
      · exact List.mem_append_right (as := lits) (.tail _ (.tail _ (.head _)))
      · refine mem p ?_
        rcases List.mem_append.mp hp with hp | hp
        · rcases List.mem_append.mp hp with hp | hp
          · exact .inl hp
          · exact .inr (.inl hp)
        · exact .inr (.inr (.inl hp))
    · exact mem p (.inr (.inr (.inr hp)))
  · rcases List.mem_cons.mp hp with rfl | hp
    · exact offc.1
    rcases List.mem_cons.mp hp with rfl | hp
    · exact offc.2.1
    rcases List.mem_cons.mp hp with rfl | hp
    · exact offc.2.2
    rcases List.mem_append.mp hp with hp | hp
    · rcases List.mem_append.mp hp with hp | hp
      · exact off_wr N (fun p hp => mem p (.inr (.inr (.inr hp)))) (fun p hp => mem p (.inl hp)) hw ni p hp
      · simp only [know, List.mem_append] at hp
        rcases hp with hp | hp | hp | hp
        · exact off_dis hw dis2 p hp
        · exact off_dis hw dis1 p hp
        · exact off_dis hw odt p hp
        · exact off p hp
    · exact off_wr N (fun p hp => mem p (.inr (.inr (.inr hp)))) (fun p hp => mem p (.inr (.inr (.inl hp)))) hw hit3 p hp
end Mine
end

-- part K1
section
open PySem PySem.W PyProof.Rows
set_option Elab.async false
set_option maxRecDepth 100000
set_option linter.unusedVariables false
namespace Mine
open PySem.Calls
section
variable {w : World} {p : Program} {loose : List Str} {mean : ExcName → Option Value} {mg mb : Str → Option Value}
  {dp un : Nat} {gd : Option (List Code)} {cn : Str} {cs : Scope} {a : Addr} {ccd : Value} {cl : List (Str × Addr)} {outer : List Env} {A₀ : Around} {base h₀ : Heap} {L : Addr} {m : Str → Option Value} {s : Shared} {Q E : Value → Shared → Prop}
variable {kn news : List (Addr × Obj)} {n : Nat} {kw sk : List (Str × Value)} {sd : List (Str × PyData)} {self : Value} {vs : List Value} {ds : List PyData}
theorem hash_all (hvl : vs.length ≤ 8) (B : Below A₀ base outer h₀) (F : Fr h₀ L s.heap m) (X : (hd.heap_39 w.params).In h₀) (T : Top p loose mean mg mb h₀) (hk : cs.kind = .function) (hd : dp + 16 < recursionLimit) (hu : un + 260 < cLine) (hkn : KnOk kn s.heap) (hkw : KwOk kw sk) (hsd : Named kn n sk sd) (hT : Things kn (n + 1) vs ds)
  (hret : ∀ D its h' tk' tl, Grew s.heap h' tl → (D, tupO its 0) ∈ tl → Atoms (tl ++ kn) (n + 1) its (atomsP ds sd) → Q (.ref D) { s with heap := h', toks := tk' }) :
  wpAny (model PySem.Challenge.rw_ki0001_01.row.prog w) (ktrTop dp un gd cn cs L a ccd cl outer) (call (.ref 35) vs kw) Q E s := by
  by_cases hne : kw = []
  · subst hne
    cases hkw
    cases hsd
    cases hT with
    | nil => exact hash_o_e B F X T hk hd hu hkn hret
    | cons a b => exact hash_o_c (by rw [sizeLine_eq]; omega) hvl B F X T hk hd hu hkn (.cons a b) hret
  · cases hT with
    | nil => exact hash_k_e B F X T hk hd hu hkn hkw hne hsd hret
    | cons a b => exact hash_k_c (by rw [sizeLine_eq]; omega) hvl B F X T hk hd hu hkn hkw hne hsd (.cons a b) hret
theorem meth_all (hvl : vs.length ≤ 8) (B : Below A₀ base outer h₀) (F : Fr h₀ L s.heap m) (X : (hd.heap_39 w.params).In h₀) (T : Top p loose mean mg mb h₀) (hk : cs.kind = .function) (hd : dp + 16 < recursionLimit) (hu : un + 260 < cLine) (hkn : KnOk kn s.heap) (hkw : KwOk kw sk) (hsd : Named kn n sk sd) (hT : Things kn (n + 1) vs ds)
  (hret : ∀ D its h' tk' tl, Grew s.heap h' tl → (D, tupO its 0) ∈ tl → Atoms (tl ++ kn) (n + 1) its (atomsP ds sd) → Q (.ref D) { s with heap := h', toks := tk' }) :
  wpAny (model PySem.Challenge.rw_ki0001_01.row.prog w) (ktrTop dp un gd cn cs L a ccd cl outer) (call (.ref 42) (self :: vs) kw) Q E s := by
  by_cases hne : kw = []
  · subst hne
    cases hkw
    cases hsd
    cases hT with
    | nil => exact meth_o_e B F X T hk hd hu hkn hret
    | cons a b => exact meth_o_c (by rw [sizeLine_eq]; omega) hvl B F X T hk hd hu hkn (.cons a b) hret
  · cases hT with
    | nil => exact meth_k_e B F X T hk hd hu hkn hkw hne hsd hret
    | cons a b => exact meth_k_c (by rw [sizeLine_eq]; omega) hvl B F X T hk hd hu hkn hkw hne hsd (.cons a b) hret
theorem typed_all (hvl : vs.length ≤ 8) (B : Below A₀ base outer h₀) (F : Fr h₀ L s.heap m) (X : (hd.heap_39 w.params).In h₀) (T : Top p loose mean mg mb h₀) (hk : cs.kind = .function) (hd : dp + 16 < recursionLimit) (hu : un + 260 < cLine) (hkn : KnOk kn s.heap) (hkw : KwOk kw sk) (hsd : Named kn n sk sd) (hT : Things kn (n + 1) vs ds)
  (hret : ∀ D its h' tk' tl, Grew s.heap h' tl → (D, tupO its 0) ∈ tl → Atoms (tl ++ kn) (n + 1) its (atomsT ds sd) → Q (.ref D) { s with heap := h', toks := tk' }) :
  wpAny (model PySem.Challenge.rw_ki0001_01.row.prog w) (ktrTop dp un gd cn cs L a ccd cl outer) (call (.ref 47) vs kw) Q E s := by
  by_cases hne : kw = []
  · subst hne
    cases hkw
    cases hsd
    cases hT with
    | nil => exact typed_o_e B F X T hk hd hu hkn hret
    | cons a b => exact typed_o_c (by rw [sizeLine_eq]; omega) hvl B F X T hk hd hu hkn (.cons a b) hret
  · cases hT with
    | nil => exact typed_k_e B F X T hk hd hu hkn hkw hne hsd hret
    | cons a b => exact typed_k_c (by rw [sizeLine_eq]; omega) hvl B F X T hk hd hu hkn hkw hne hsd (.cons a b) hret
theorem tmeth_all (hvl : vs.length ≤ 8) (B : Below A₀ base outer h₀) (F : Fr h₀ L s.heap m) (X : (hd.heap_39 w.params).In h₀) (T : Top p loose mean mg mb h₀) (hk : cs.kind = .function) (hd : dp + 16 < recursionLimit) (hu : un + 260 < cLine) (hkn : KnOk kn s.heap) (hkw : KwOk kw sk) (hsd : Named kn n sk sd) (hT : Things kn (n + 1) vs ds)
  (hret : ∀ D its h' tk' tl, Grew s.heap h' tl → (D, tupO its 0) ∈ tl → Atoms (tl ++ kn) (n + 1) its (atomsT ds sd) → Q (.ref D) { s with heap := h', toks := tk' }) :
  wpAny (model PySem.Challenge.rw_ki0001_01.row.prog w) (ktrTop dp un gd cn cs L a ccd cl outer) (call (.ref 52) (self :: vs) kw) Q E s := by
  by_cases hne : kw = []
  · subst hne
    cases hkw
    cases hsd
    cases hT with
    | nil => exact tmeth_o_e B F X T hk hd hu hkn hret
    | cons a b => exact tmeth_o_c (by rw [sizeLine_eq]; omega) hvl B F X T hk hd hu hkn (.cons a b) hret
  · cases hT with
    | nil => exact tmeth_k_e B F X T hk hd hu hkn hkw hne hsd hret
    | cons a b => exact tmeth_k_c (by rw [sizeLine_eq]; omega) hvl B F X T hk hd hu hkn hkw hne hsd (.cons a b) hret
end
end Mine
end

-- part K2
section
open PySem PySem.W PyProof.Rows
set_option Elab.async false
set_option maxRecDepth 100000
set_option linter.unusedVariables false
namespace Mine
open PySem.Calls
def KeyIn (kn : List (Addr × Obj)) (v : Value) (ks : List KA) : Prop := ∃ a its, v = .ref a ∧ (a, tupO its 0) ∈ kn ∧ Atoms kn 2 its ks
theorem KeyIn.mono {kn kn' : List (Addr × Obj)} (hs : ∀ p ∈ kn, p ∈ kn') {v : Value} {ks : List KA} (h : KeyIn kn v ks) : KeyIn kn' v ks := let ⟨a, its, e, m, x⟩ := h; ⟨a, its, e, hs _ m, x.mono hs⟩
def KeyP (kn : List (Addr × Obj)) (v : Value) (c : List PyData × List (Str × PyData)) : Prop := ∃ sd, NdOk c.2 sd ∧ KeyIn kn v (atomsP c.1 sd)
def KeyT (kn : List (Addr × Obj)) (v : Value) (c : List PyData × List (Str × PyData)) : Prop := ∃ sd, NdOk c.2 sd ∧ KeyIn kn v (atomsT c.1 sd)
theorem KeyP.mono {kn kn' : List (Addr × Obj)} (hs : ∀ p ∈ kn, p ∈ kn') {v : Value} {c : List PyData × List (Str × PyData)} (h : KeyP kn v c) : KeyP kn' v c := let ⟨sd, a, b⟩ := h; ⟨sd, a, b.mono hs⟩
theorem KeyT.mono {kn kn' : List (Addr × Obj)} (hs : ∀ p ∈ kn, p ∈ kn') {v : Value} {c : List PyData × List (Str × PyData)} (h : KeyT kn v c) : KeyT kn' v c := let ⟨sd, a, b⟩ := h; ⟨sd, a, b.mono hs⟩
/-- the list bears the keys of the first calls -/
def KeysAre (R : Value → List PyData × List (Str × PyData) → Prop) (vs : List Value) (cs : List (List PyData × List (Str × PyData))) (k : Nat) : Prop := vs.length = k ∧ ∀ (j : Nat) (v : Value) (c : List PyData × List (Str × PyData)), vs[j]? = some v → cs[j]? = some c → R v c
theorem KeysAre.nil {R : Value → List PyData × List (Str × PyData) → Prop} {cs : List (List PyData × List (Str × PyData))} : KeysAre R [] cs 0 := ⟨rfl, fun j v c h => by simp at h⟩
theorem KeysAre.imp {R R' : Value → List PyData × List (Str × PyData) → Prop} {vs : List Value} {cs : List (List PyData × List (Str × PyData))} {k : Nat} (h : KeysAre R vs cs k) (i : ∀ v c, R v c → R' v c) : KeysAre R' vs cs k := ⟨h.1, fun j v c a b => i _ _ (h.2 j v c a b)⟩
theorem KeysAre.snoc {R : Value → List PyData × List (Str × PyData) → Prop} {vs : List Value} {cs : List (List PyData × List (Str × PyData))} {k : Nat} (h : KeysAre R vs cs k) {v : Value} {c : List PyData × List (Str × PyData)} (hc : cs[k]? = some c) (r : R v c) : KeysAre R (vs ++ [v]) cs (k + 1) := by
  refine ⟨by simp [h.1], fun j u d hj hd => ?_⟩
  by_cases hlt : j < vs.length
  · rw [List.getElem?_append_left hlt] at hj
    exact h.2 j u d hj hd
  · have e : j = vs.length := by
      obtain ⟨hl, _⟩ := List.getElem?_eq_some_iff.mp hj
      rw [List.length_append] at hl
      have : ([v] : List Value).length = 1 := rfl
      omega
    subst e
    rw [List.getElem?_append_right (Nat.le_refl _), Nat.sub_self] at hj
    simp at hj
    subst hj
    rw [h.1, hc] at hd
    cases hd
    exact r
section
variable {M : Model} {A : Around} {E : Value → Shared → Prop} {s : Shared} {K : Frag}
theorem star_call {f : Value} {first : List Value} {pos : Pos} {Q : Value → Shared → Prop} {args : List (Bool × Sem Value)} {kws : List (Option Str × Sem Value)} (hst : args.any (·.1) = true) (hk : W.keepIn K f = true)
    (h : wpAny M A (evalArgs f true args kws) (fun a s₁ => K.In s₁.heap ∧ wpAny M A (call f (first ++ a.pos) a.kw) Q E s₁) E s) : wpAny M A (callWith pos f first args kws) Q E s := by
  unfold callWith
  refine wpAny_bind (wpAny_holding (wpAny_mono h (fun a s₁ h₁ => wpAny_bind (wpAny_standAt ?_)) fun _ _ x => x))
  obtain ⟨k, hk', L⟩ := W.keeps_K hk _ h₁.1
  simp only [hst, Bool.true_or]
  refine wpAny_bind (L.here ?_)
  have tail : ∀ {t : Sem Value}, wpAny M A t Q E s₁ → wpAny M A (t >>= fun r => holding [r] point >>= fun _ => pure r) Q E s₁ :=
    fun ht => wpAny_bind (wpAny_mono ht (fun r s₂ hr => wpAny_bind (wpAny_holding (wpAny_point (wpAny_pure hr)))) fun _ _ x => x)
  have marked (mk : Value) : wpAny M A (callMarked mk f (first ++ a.pos) a.kw) Q E s₁ := by unfold callMarked; exact Calls.wpAny_keep h₁.2
  rcases hk' with rfl | rfl | rfl <;> dsimp only <;> first | exact tail (marked _) | exact tail (wpAny_operating h₁.2)
end
section
variable {w : World} {p : Program} {loose : List Str} {mean : ExcName → Option Value} {mg mb : Str → Option Value}
  {dp un : Nat} {gd : Option (List Code)} {cn : Str} {cs : Scope} {a : Addr} {ccd : Value} {cl : List (Str × Addr)} {outer : List Env} {A₀ : Around} {base h₀ : Heap} {L : Addr} {m : Str → Option Value} {s : Shared} {Q E : Value → Shared → Prop}
variable {kn news : List (Addr × Obj)} {kw sk : List (Str × Value)} {sd : List (Str × PyData)} {self : Value} {vs : List Value} {ds : List PyData} {nd : List (Str × PyData)}
theorem hash_use (hvl : vs.length ≤ 8) (B : Below A₀ base outer h₀) (F : Fr h₀ L s.heap m) (X : (hd.heap_39 w.params).In h₀) (T : Top p loose mean mg mb h₀) (hk : cs.kind = .function) (hd : dp + 16 < recursionLimit) (hu : un + 260 < cLine) (N : News h₀ L s.heap news) (hkn : ∀ p ∈ kn, p ∈ news) (hkw : KwOk kw sk) (hnd : Named kn 1 kw nd) (hT : Things kn 2 vs ds)
  (hret : ∀ D h' tk' tl, Fr h₀ L h' m → News h₀ L h' (tl ++ news) → KeyP (tl ++ kn) (.ref D) (ds, nd) → (∀ q ∈ news, ∀ p ∈ tl, p.1 ≠ q.1) → Q (.ref D) { s with heap := h', toks := tk' }) :
  wpAny (model PySem.Challenge.rw_ki0001_01.row.prog w) (ktrTop dp un gd cn cs L a ccd cl outer) (call (.ref 35) vs kw) Q E s := by
  obtain ⟨sd, hsd, hok⟩ := named_sorted hkw hnd
  exact hash_all hvl B F X T hk hd hu (fun p hp => (N p (hkn p hp)).1) hkw hsd hT fun D its h' tk' tl g hm ha => hret D h' tk' tl (fr_stays F g.st) (news_grew F N g) ⟨sd, hok, D, its, rfl, List.mem_append_left _ hm, ha⟩ (grew_dis N g)
theorem meth_use (hvl : vs.length ≤ 8) (B : Below A₀ base outer h₀) (F : Fr h₀ L s.heap m) (X : (hd.heap_39 w.params).In h₀) (T : Top p loose mean mg mb h₀) (hk : cs.kind = .function) (hd : dp + 16 < recursionLimit) (hu : un + 260 < cLine) (N : News h₀ L s.heap news) (hkn : ∀ p ∈ kn, p ∈ news) (hkw : KwOk kw sk) (hnd : Named kn 1 kw nd) (hT : Things kn 2 vs ds)
  (hret : ∀ D h' tk' tl, Fr h₀ L h' m → News h₀ L h' (tl ++ news) → KeyP (tl ++ kn) (.ref D) (ds, nd) → (∀ q ∈ news, ∀ p ∈ tl, p.1 ≠ q.1) → Q (.ref D) { s with heap := h', toks := tk' }) :
  wpAny (model PySem.Challenge.rw_ki0001_01.row.prog w) (ktrTop dp un gd cn cs L a ccd cl outer) (call (.ref 42) (self :: vs) kw) Q E s := by
  obtain ⟨sd, hsd, hok⟩ := named_sorted hkw hnd
  exact meth_all hvl B F X T hk hd hu (fun p hp => (N p (hkn p hp)).1) hkw hsd hT fun D its h' tk' tl g hm ha => hret D h' tk' tl (fr_stays F g.st) (news_grew F N g) ⟨sd, hok, D, its, rfl, List.mem_append_left _ hm, ha⟩ (grew_dis N g)
theorem typed_use (hvl : vs.length ≤ 8) (B : Below A₀ base outer h₀) (F : Fr h₀ L s.heap m) (X : (hd.heap_39 w.params).In h₀) (T : Top p loose mean mg mb h₀) (hk : cs.kind = .function) (hd : dp + 16 < recursionLimit) (hu : un + 260 < cLine) (N : News h₀ L s.heap news) (hkn : ∀ p ∈ kn, p ∈ news) (hkw : KwOk kw sk) (hnd : Named kn 1 kw nd) (hT : Things kn 2 vs ds)
  (hret : ∀ D h' tk' tl, Fr h₀ L h' m → News h₀ L h' (tl ++ news) → KeyT (tl ++ kn) (.ref D) (ds, nd) → (∀ q ∈ news, ∀ p ∈ tl, p.1 ≠ q.1) → Q (.ref D) { s with heap := h', toks := tk' }) :
  wpAny (model PySem.Challenge.rw_ki0001_01.row.prog w) (ktrTop dp un gd cn cs L a ccd cl outer) (call (.ref 47) vs kw) Q E s := by
  obtain ⟨sd, hsd, hok⟩ := named_sorted hkw hnd
  exact typed_all hvl B F X T hk hd hu (fun p hp => (N p (hkn p hp)).1) hkw hsd hT fun D its h' tk' tl g hm ha => hret D h' tk' tl (fr_stays F g.st) (news_grew F N g) ⟨sd, hok, D, its, rfl, List.mem_append_left _ hm, ha⟩ (grew_dis N g)
theorem tmeth_use (hvl : vs.length ≤ 8) (B : Below A₀ base outer h₀) (F : Fr h₀ L s.heap m) (X : (hd.heap_39 w.params).In h₀) (T : Top p loose mean mg mb h₀) (hk : cs.kind = .function) (hd : dp + 16 < recursionLimit) (hu : un + 260 < cLine) (N : News h₀ L s.heap news) (hkn : ∀ p ∈ kn, p ∈ news) (hkw : KwOk kw sk) (hnd : Named kn 1 kw nd) (hT : Things kn 2 vs ds)
  (hret : ∀ D h' tk' tl, Fr h₀ L h' m → News h₀ L h' (tl ++ news) → KeyT (tl ++ kn) (.ref D) (ds, nd) → (∀ q ∈ news, ∀ p ∈ tl, p.1 ≠ q.1) → Q (.ref D) { s with heap := h', toks := tk' }) :
  wpAny (model PySem.Challenge.rw_ki0001_01.row.prog w) (ktrTop dp un gd cn cs L a ccd cl outer) (call (.ref 52) (self :: vs) kw) Q E s := by
  obtain ⟨sd, hsd, hok⟩ := named_sorted hkw hnd
  exact tmeth_all hvl B F X T hk hd hu (fun p hp => (N p (hkn p hp)).1) hkw hsd hT fun D its h' tk' tl g hm ha => hret D h' tk' tl (fr_stays F g.st) (news_grew F N g) ⟨sd, hok, D, its, rfl, List.mem_append_left _ hm, ha⟩ (grew_dis N g)
end
end Mine
end

-- part K3
section
open PySem PySem.W PyProof.Rows
set_option Elab.async false
set_option maxRecDepth 100000
set_option linter.unusedVariables false
namespace Mine
open PySem.Calls
theorem allLt_mem {d : Addr} : ∀ {l : List (Addr × Obj)}, W.AllLt d l → ∀ p ∈ l, p.1 < d
  | [], _, p, h => by cases h
  | q :: r, x, p, h => by
    rcases List.mem_cons.mp h with rfl | h
    · exact x.1
    · exact allLt_mem x.2 p h
structure Off6 (kn : List (Addr × Obj)) (cx ci p1 p2 p3 p4 : Addr) : Prop where
  x : ∀ p ∈ kn, p.1 ≠ cx
  i : ∀ p ∈ kn, p.1 ≠ ci
  a : ∀ p ∈ kn, p.1 ≠ p1
  b : ∀ p ∈ kn, p.1 ≠ p2
  c : ∀ p ∈ kn, p.1 ≠ p3
  d : ∀ p ∈ kn, p.1 ≠ p4
theorem Off6.app {kn kn' : List (Addr × Obj)} {cx ci p1 p2 p3 p4 : Addr} (h : Off6 kn cx ci p1 p2 p3 p4) (k : Off6 kn' cx ci p1 p2 p3 p4) : Off6 (kn ++ kn') cx ci p1 p2 p3 p4 :=
  ⟨fun p hp => (List.mem_append.mp hp).elim (h.x p) (k.x p), fun p hp => (List.mem_append.mp hp).elim (h.i p) (k.i p), fun p hp => (List.mem_append.mp hp).elim (h.a p) (k.a p), fun p hp => (List.mem_append.mp hp).elim (h.b p) (k.b p), fun p hp => (List.mem_append.mp hp).elim (h.c p) (k.c p), fun p hp => (List.mem_append.mp hp).elim (h.d p) (k.d p)⟩
theorem Off6.dis {news tl : List (Addr × Obj)} {cx ci p1 p2 p3 p4 : Addr} (dis : ∀ q ∈ news, ∀ p ∈ tl, p.1 ≠ q.1) {o1 o2 o3 o4 o5 o6 : Obj} (h1 : (cx, o1) ∈ news) (h2 : (ci, o2) ∈ news) (h3 : (p1, o3) ∈ news) (h4 : (p2, o4) ∈ news) (h5 : (p3, o5) ∈ news) (h6 : (p4, o6) ∈ news) : Off6 tl cx ci p1 p2 p3 p4 :=
  ⟨dis _ h1, dis _ h2, dis _ h3, dis _ h4, dis _ h5, dis _ h6⟩
/-- the second loop's invariant -/
def Inv2 (m0 : Str → Option Value) (cx ci p1 p2 p3 p4 cl : Addr) (xs : List Value) (c0 : Nat) (cs : List (List PyData × List (Str × PyData))) (i : Nat) (m₁ : Str → Option Value) (ex₁ : List (Addr × Obj)) : Prop :=
  LocJ m0 (Str.ofString "named") (Str.ofString "call") m₁ ∧ ∃ o1 o2 k1 k2 k3 k4 n1 n2 n3 n4 kn, ex₁ = (cx, o2) :: (ci, o1) :: (p1, W.listOf (k1 : List Value).toArray n1) :: (p2, W.listOf (k2 : List Value).toArray n2) :: (p3, W.listOf (k3 : List Value).toArray n3) :: (p4, W.listOf (k4 : List Value).toArray n4) :: kn ∧
    (∃ v, o2.data = .cell v) ∧ (∃ v, o1.data = .cell v) ∧ CallsOk kn xs cs ∧ (cl, W.listOf xs.toArray c0) ∈ kn ∧ KeysAre (KeyP kn) k1 cs i ∧ KeysAre (KeyT kn) k2 cs i ∧ KeysAre (KeyP kn) k3 cs i ∧ KeysAre (KeyT kn) k4 cs i ∧ Off6 kn cx ci p1 p2 p3 p4
theorem news_rot2 {h₀ h : Heap} {L : Addr} {t d c b a x i l : Addr × Obj} {kn : List (Addr × Obj)} (N : News h₀ L h (t :: d :: c :: b :: a :: x :: i :: l :: kn)) : News h₀ L h (x :: i :: a :: b :: c :: d :: t :: l :: kn) := fun p hp => N p (by
  simp only [List.mem_cons] at hp ⊢
  rcases hp with h | h | h | h | h | h | h | h | h <;> simp [h])
theorem Inv2.start {h₀ h : Heap} {L : Addr} {m0 : Str → Option Value} {t d c b a x i l : Addr} {vt : List Value} {o1 o2 : Obj} {v1 v2 : Option Value} {xs : List Value} {c0 : Nat} {cs : List (List PyData × List (Str × PyData))} {kn : List (Addr × Obj)}
    (N : News h₀ L h ((x, o2) :: (i, o1) :: (a, W.listOf #[] 0) :: (b, W.listOf #[] 0) :: (c, W.listOf #[] 0) :: (d, W.listOf #[] 0) :: (t, tupO vt 0) :: (l, W.listOf xs.toArray c0) :: kn))
    (hv2 : o2.data = .cell v2) (hv1 : o1.data = .cell v1) (hcs : CallsOk kn xs cs) (ok : OffK kn x i l)
    (lT : @LT.lt Nat _ d t ∧ @LT.lt Nat _ c t ∧ @LT.lt Nat _ b t ∧ @LT.lt Nat _ a t ∧ @LT.lt Nat _ x t ∧ @LT.lt Nat _ i t ∧ @LT.lt Nat _ l t ∧ W.AllLt t kn) (l4 : @LT.lt Nat _ c d ∧ @LT.lt Nat _ b d ∧ @LT.lt Nat _ a d ∧ @LT.lt Nat _ x d ∧ @LT.lt Nat _ i d ∧ @LT.lt Nat _ l d ∧ W.AllLt d kn) (l3 : @LT.lt Nat _ b c ∧ @LT.lt Nat _ a c ∧ @LT.lt Nat _ x c ∧ @LT.lt Nat _ i c ∧ @LT.lt Nat _ l c ∧ W.AllLt c kn)
    (l2 : @LT.lt Nat _ a b ∧ @LT.lt Nat _ x b ∧ @LT.lt Nat _ i b ∧ @LT.lt Nat _ l b ∧ W.AllLt b kn) (l1 : @LT.lt Nat _ x a ∧ @LT.lt Nat _ i a ∧ @LT.lt Nat _ l a ∧ W.AllLt a kn) (nx : @Ne Nat x l) (ni : @Ne Nat i l) :
    Inv2 m0 x i a b c d l xs c0 cs 0 m0 ((x, o2) :: (i, o1) :: (a, W.listOf #[] 0) :: (b, W.listOf #[] 0) :: (c, W.listOf #[] 0) :: (d, W.listOf #[] 0) :: (t, tupO vt 0) :: (l, W.listOf xs.toArray c0) :: kn) := by
  have sub : ∀ p ∈ kn, p ∈ (t, tupO vt 0) :: (l, W.listOf xs.toArray c0) :: kn := fun p h => .tail _ (.tail _ h)
  have two : ∀ z : Addr, @Ne Nat t z → @Ne Nat l z → (∀ p ∈ kn, p.1 ≠ z) → ∀ p ∈ (t, tupO vt 0) :: (l, W.listOf xs.toArray c0) :: kn, p.1 ≠ z := fun z h1 h2 h3 p hp => by
    rcases List.mem_cons.mp hp with rfl | hp
    · exact h1
    rcases List.mem_cons.mp hp with rfl | hp
    · exact h2
    · exact h3 p hp
  obtain ⟨a1, a2, a3, a4, a5, a6, a7, a8⟩ := lT
  obtain ⟨b1, b2, b3, b4, b5, b6, b7⟩ := l4
  obtain ⟨e1, e2, e3, e4, e5, e6⟩ := l3
  obtain ⟨f1, f2, f3, f4, f5⟩ := l2
  obtain ⟨g1, g2, g3, g4⟩ := l1
  refine ⟨LocJ.start, o1, o2, [], [], [], [], 0, 0, 0, 0, _, rfl, ⟨_, hv2⟩, ⟨_, hv1⟩, hcs.mono sub, .tail _ (.head _), .nil, .nil, .nil, .nil, ?_⟩
  exact ⟨two _ (Nat.ne_of_gt a5) (Ne.symm nx) ok.x, two _ (Nat.ne_of_gt a6) (Ne.symm ni) ok.i, two _ (Nat.ne_of_gt a4) (Nat.ne_of_lt g3) (fun p hp => Nat.ne_of_lt (allLt_mem g4 p hp)), two _ (Nat.ne_of_gt a3) (Nat.ne_of_lt f4) (fun p hp => Nat.ne_of_lt (allLt_mem f5 p hp)),
    two _ (Nat.ne_of_gt a2) (Nat.ne_of_lt e5) (fun p hp => Nat.ne_of_lt (allLt_mem e6 p hp)), two _ (Nat.ne_of_gt a1) (Nat.ne_of_lt b6) (fun p hp => Nat.ne_of_lt (allLt_mem b7 p hp))⟩
end Mine
end

-- part K4
section
open PySem PySem.W PyProof.Rows
set_option Elab.async false
set_option maxRecDepth 100000
set_option linter.unusedVariables false
namespace Mine
open PySem.Calls
section
variable {prog : Program} {w : World} {A : Around} {E : Value → Shared → Prop} {s : Shared} {h₀ : Heap} {L l : Addr} {m : Str → Option Value} {news kn : List (Addr × Obj)} {its : List Value} {kw sk : List (Str × Value)} {c : Nat} {Q : Value → Shared → Prop}
theorem dict_use (hh : A.handled = none) (F : Fr h₀ L s.heap m) (N : News h₀ L s.heap news) (hbig : h₀.NoLimit) (hl : (l, W.listOf its.toArray c) ∈ news) (hkn : ∀ p ∈ kn, p ∈ news) (hit : ItemsIn kn its kw) (hkw : KwOk kw sk)
    (h : ∀ D o h' tk, Fr h₀ L h' m → News h₀ L h' ((D, o) :: news) → o.IsDictOf (strKind prog w) kw → (D == sysModules) = false → (∀ p ∈ news, p.1 < D) → Q (.ref D) { s with heap := h', toks := tk }) :
    wpAny (model prog w) A (call (.type "dict") [.ref l]) Q E s := by
  refine dict_pairs hh (N _ hl).1 (fun p hp => (N p (hkn p hp)).1) hit hkw.nodup (Nat.le_trans hkw.len (by decide)) fun h' tk o ho hod st => ?_
  have fr := fr_new F (Nat.le_refl s.heap.objs.size)
  refine h _ o h' tk (fr_stays F st) (fun p hp => ?_) hod (F.notModules (modules_low hbig)) fun p hp => Heap.lt_size (N p hp).1
  rcases List.mem_cons.mp hp with rfl | hp
  · exact ⟨ho, Ne.symm fr.2, fr.1⟩
  · exact ⟨st _ _ (N p hp).1, (N p hp).2⟩
end
theorem own_off6 {kn own kn' : List (Addr × Obj)} {wr : List Addr} {S cx ci p1 p2 p3 p4 : Addr} {so o1 o2 q1 q2 q3 q4 : Obj} (ok : Off6 kn cx ci p1 p2 p3 p4) (hS : (S, so) ∈ kn) (off : ∀ p ∈ (cx, o2) :: (ci, o1) :: (p1, q1) :: (p2, q2) :: (p3, q3) :: (p4, q4) :: kn', p.1 ∉ wr) (ho : ∀ p ∈ own, p.1 ∈ wr ∨ p.1 = S) : Off6 own cx ci p1 p2 p3 p4 := by
  have key : ∀ z : Addr, z ∉ wr → (∀ p ∈ kn, p.1 ≠ z) → ∀ p ∈ own, p.1 ≠ z := fun z h1 h2 p hp e => by
    rcases ho p hp with h | h
    · exact h1 (by rw [← e]; exact h)
    · exact h2 _ hS (by rw [← h]; exact e)
  exact ⟨key _ (off _ (.head _)) ok.x, key _ (off _ (.tail _ (.head _))) ok.i, key _ (off _ (.tail _ (.tail _ (.head _)))) ok.a, key _ (off _ (.tail _ (.tail _ (.tail _ (.head _))))) ok.b, key _ (off _ (.tail _ (.tail _ (.tail _ (.tail _ (.head _)))))) ok.c, key _ (off _ (.tail _ (.tail _ (.tail _ (.tail _ (.tail _ (.head _))))))) ok.d⟩
theorem news_dup3 {h₀ h : Heap} {L : Addr} {news : List (Addr × Obj)} {a b c : Addr × Obj} (N : News h₀ L h news) (ha : a ∈ news) (hb : b ∈ news) (hc : c ∈ news) : News h₀ L h (a :: b :: c :: news) := fun p hp => by
  rcases List.mem_cons.mp hp with rfl | hp
  · exact N _ ha
  rcases List.mem_cons.mp hp with rfl | hp
  · exact N _ hb
  rcases List.mem_cons.mp hp with rfl | hp
  · exact N _ hc
  · exact N _ hp
end Mine
end

-- part K5
section
open PySem PySem.W PyProof.Rows
set_option Elab.async false
set_option maxRecDepth 100000
set_option linter.unusedVariables false
namespace Mine
section
variable {prog : Program} {w : World} {A : Around} {E : Value → Shared → Prop}
/-- one value ahead of the starred list -/
theorem star_args1b {s : Shared} {f : Value} {z x y : Sem Value} {pos : Pos} {Q : Args → Shared → Prop}
    (h : wpAny (model prog w) A z (fun iv s₀ => wpAny (model prog w) A x (fun v s₁ => ∃ l its c, v = .ref l ∧ s₁.heap.get? l = some (listOf its.toArray c) ∧ its.length ≤ 64 ∧ ∀ h', s₁.heap.StaysIn h' → ∀ h0, h'.StaysIn h0 → h0 = h'.push { cls := .type "dict", data := .dict #[] } →
      wpAny (model prog w) A y (fun u s₂ => ∃ a kw, u = .ref a ∧ s₂ = { s₁ with heap := h0 } ∧ h0.DictOf (strKind prog w) a kw ∧ (a == sysModules) = false ∧ a < h'.objs.size ∧ kw.length ≤ 64 ∧
        ∀ h'', h'.StaysIn h'' → Q ⟨iv :: its, kw⟩ { s₁ with heap := h'' }) E { s₁ with heap := h0 }) E s₀) E s) :
    wpAny (model prog w) A (evalArgs f true [(false, z), (true, (do let v ← x; standAt pos; pure v))] [(none, y)]) Q E s := by
  unfold evalArgs
  refine wpAny_bind (m := spliced _) (Calls.spliced_cons ?_)
  refine wpAny_mono h (fun iv s₀ h₀ => ?_) fun _ _ e => e
  refine W.ks_spliced (wpAny_mono h₀ (fun v s₁ h₁ => ?_) fun _ _ e => e)
  obtain ⟨l, its, c, rfl, hl, hz, hy⟩ := h₁
  refine readLate_list hl hz fun h1 st1 => ?_
  refine Calls.spliced_nil ?_
  refine wpAny_bind (wpAny_pure ?_)
  dsimp only
  refine wpAny_holding ?_
  rw [if_neg (by simp)]
  refine wpAny_bind (merged_kw fun h0 st0 e0 => wpAny_mono (hy h1 st1 h0 st0 e0) (fun u s₂ h₂ => ?_) fun _ _ e => e)
  obtain ⟨a, kw, rfl, rfl, ha, hS, hlt, hk, hq⟩ := h₂
  refine ⟨a, kw, rfl, ha, by rw [e0]; exact Heap.DictOf.new h1, hS, Nat.ne_of_gt hlt, hk, fun h2 hd2 hs2 => ?_⟩
  have st2 : h1.StaysIn h2 := fun b o e => (hs2.2 b (Nat.ne_of_lt (Heap.lt_size e))).trans (st0 _ _ e)
  refine wpAny_bind (wpAny_pure ?_)
  refine wpAny_bind (wpAny_holding (keywords_in hd2 (wpAny_pure ?_)))
  rw [List.append_nil]
  exact hq h2 st2

section
variable {K : Frag} {s : Shared} {h₀ : Heap} {L : Addr} {m : Str → Option Value} {news : List (Addr × Obj)} {Q : Value → Shared → Prop} {f : Value} {l D : Addr} {vs : List Value} {c : Nat} {od : Obj} {kw : List (Str × Value)} {x y z : Sem Value} {pos pos' pos'' : Pos}
theorem news_stays {h h' : Heap} (N : News h₀ L h news) (st : h.StaysIn h') : News h₀ L h' news := fun p hp => ⟨st _ _ (N p hp).1, (N p hp).2⟩
theorem star0 (hk : W.keepIn K f = true) (X : K.In h₀) (F : Fr h₀ L s.heap m) (N : News h₀ L s.heap news) (hl : (l, W.listOf vs.toArray c) ∈ news) (hz : vs.length ≤ 64) (hD : (D, od) ∈ news) (hod : od.IsDictOf (strKind prog w) kw) (hsm : (D == sysModules) = false) (hkl : kw.length ≤ 64)
    (h : wpAny (model prog w) A x (fun v s₁ => Hold (v = .ref l ∧ s₁.heap = s.heap ∧ ∀ h0, Fr h₀ L h0 m → wpAny (model prog w) A y (fun u s₂ => Hold (u = .ref D ∧ s₂ = { s₁ with heap := h0 } ∧
      ∀ h', Fr h₀ L h' m → News h₀ L h' news → wpAny (model prog w) A (call f vs kw) Q E { s₁ with heap := h' })) E { s₁ with heap := h0 })) E s) :
    wpAny (model prog w) A (callWith pos f [] [(true, (do let v ← x; standAt pos'; pure v))] [(none, (do let v ← y; standAt pos''; pure v))]) Q E s := by
  refine star_call (K := K) rfl hk (star_args0 (wpAny_mono h (fun v s₁ h₁ => ?_) fun _ _ e => e))
  obtain ⟨rfl, e, hy⟩ := h₁
  refine ⟨l, vs, c, rfl, by rw [e]; exact (N _ hl).1, hz, fun h0 st0 e0 => ?_⟩
  rw [e] at st0
  refine wpAny_bind (wpAny_mono (hy h0 (fr_stays F st0)) (fun u s₂ h₂ => ?_) fun _ _ e => e)
  obtain ⟨rfl, rfl, hc⟩ := h₂
  refine wpAny_bind (wpAny_standAt (wpAny_pure ?_))
  refine ⟨D, kw, rfl, rfl, ?_, hsm, ?_, hkl, fun h' st' => ?_⟩
  · exact Heap.dictOf_iff.mpr ⟨od, st0 _ _ (N _ hD).1, hod⟩
  · rw [e]; exact Heap.lt_size (N _ hD).1
  · rw [e] at st'
    exact ⟨X.keeps (fr_stays F st').keep, hc h' (fr_stays F st') (news_stays N st')⟩
theorem star1 {iv : Value} (hk : W.keepIn K f = true) (X : K.In h₀) (F : Fr h₀ L s.heap m) (N : News h₀ L s.heap news) (hl : (l, W.listOf vs.toArray c) ∈ news) (hz : vs.length ≤ 64) (hD : (D, od) ∈ news) (hod : od.IsDictOf (strKind prog w) kw) (hsm : (D == sysModules) = false) (hkl : kw.length ≤ 64)
    (h : wpAny (model prog w) A z (fun iv s₀ => wpAny (model prog w) A x (fun v s₁ => Hold (v = .ref l ∧ s₁.heap = s.heap ∧ ∀ h0, Fr h₀ L h0 m → wpAny (model prog w) A y (fun u s₂ => Hold (u = .ref D ∧ s₂ = { s₁ with heap := h0 } ∧
      ∀ h', Fr h₀ L h' m → News h₀ L h' news → wpAny (model prog w) A (call f (iv :: vs) kw) Q E { s₁ with heap := h' })) E { s₁ with heap := h0 })) E s₀) E s) :
    wpAny (model prog w) A (callWith pos f [] [(false, z), (true, (do let v ← x; standAt pos'; pure v))] [(none, (do let v ← y; standAt pos''; pure v))]) Q E s := by
  refine star_call (K := K) rfl hk (star_args1b (wpAny_mono h (fun iv s₀ h₀ => wpAny_mono h₀ (fun v s₁ h₁ => ?_) fun _ _ e => e) fun _ _ e => e))
  obtain ⟨rfl, e, hy⟩ := h₁
  refine ⟨l, vs, c, rfl, by rw [e]; exact (N _ hl).1, hz, fun h1 st1 h0 st0 e0 => ?_⟩
  rw [e] at st1
  have st2 : s.heap.StaysIn h0 := fun b o x => st0 _ _ (st1 _ _ x)
  refine wpAny_bind (wpAny_mono (hy h0 (fr_stays F st2)) (fun u s₂ h₂ => ?_) fun _ _ e => e)
  obtain ⟨rfl, rfl, hc⟩ := h₂
  refine wpAny_bind (wpAny_standAt (wpAny_pure ?_))
  refine ⟨D, kw, rfl, rfl, ?_, hsm, ?_, hkl, fun h' st' => ?_⟩
  · exact Heap.dictOf_iff.mpr ⟨od, st2 _ _ (N _ hD).1, hod⟩
  · exact Heap.lt_size (st1 _ _ (N _ hD).1)
  · have st3 : s.heap.StaysIn h' := fun b o x => st' _ _ (st1 _ _ x)
    exact ⟨X.keeps (fr_stays F st3).keep, hc h' (fr_stays F st3) (news_stays N st3)⟩
end
end
end Mine
end

-- part K6
section
open PySem PySem.W PyProof.Rows
set_option Elab.async false
set_option maxRecDepth 100000
set_option linter.unusedVariables false
namespace Mine
open PySem.Calls
/-- the end of a turn of the second loop -/
theorem asm2 {G : Prop} {h₀ h : Heap} {L : Addr} {own kn tl0 tl1 tl2 tl3 : List (Addr × Obj)} {wr : List Addr} {m0 m' : Str → Option Value} {D a p n cx ci p1 p2 p3 p4 cl R0 R1 R2 R3 : Addr} {od oa op on o1 o2 q1 q2 q3 q4 : Obj} {xs k1 k2 k3 k4 : List Value} {c0 c1 c2 c3 c4 i : Nat} {v1 v2 : Option Value} {v w : Nat}
    {cs : List (List PyData × List (Str × PyData))} {c : List PyData × List (Str × PyData)}
    (N : News h₀ L h ((D, od) :: (a, oa) :: (p, op) :: (n, on) :: (cx, o2) :: (ci, o1) :: (p1, W.listOf (k1.toArray.push (.ref R0)) c1) :: (p2, W.listOf (k2.toArray.push (.ref R1)) c2) :: (p3, W.listOf (k3.toArray.push (.ref R2)) c3) :: (p4, W.listOf (k4.toArray.push (.ref R3)) c4) :: (tl3 ++ (tl2 ++ (tl1 ++ (tl0 ++ (kn ++ own)))))))
    (hm : LocJ m0 (Str.ofString "named") (Str.ofString "call") m') (hv2 : o2.data = .cell v2) (hv1 : o1.data = .cell v1) (hcs : CallsOk kn xs cs) (hcl : (cl, W.listOf xs.toArray c0) ∈ kn) (hc : cs[i]? = some c)
    (hk1 : KeysAre (KeyP kn) k1 cs i) (hk2 : KeysAre (KeyT kn) k2 cs i) (hk3 : KeysAre (KeyP kn) k3 cs i) (hk4 : KeysAre (KeyT kn) k4 cs i)
    (r0 : KeyP (tl0 ++ kn) (.ref R0) c) (r1 : KeyT (tl1 ++ kn) (.ref R1) c) (r2 : KeyP (tl2 ++ kn) (.ref R2) c) (r3 : KeyT (tl3 ++ kn) (.ref R3) c)
    (oT : Off6 (tl3 ++ (tl2 ++ (tl1 ++ (tl0 ++ (kn ++ own))))) cx ci p1 p2 p3 p4)
    (hw : ∀ b ∈ wr, ∃ o, (b, o) ∈ own ∧ IterO o) (off : ∀ p ∈ (cx, q1) :: (ci, q2) :: (p1, W.listOf k1.toArray v) :: (p2, W.listOf k2.toArray w) :: (p3, q3) :: (p4, q4) :: kn, p.1 ∉ wr)
    (d0 : ∀ q ∈ own, ∀ p ∈ tl0, p.1 ≠ q.1) (d1 : ∀ q ∈ own, ∀ p ∈ tl1, p.1 ≠ q.1) (d2 : ∀ q ∈ own, ∀ p ∈ tl2, p.1 ≠ q.1) (d3 : ∀ q ∈ own, ∀ p ∈ tl3, p.1 ≠ q.1)
    (fin : ∀ ex', News h₀ L h (ex' ++ own) → (∀ p ∈ ex', p.1 ∉ wr) → Inv2 m0 cx ci p1 p2 p3 p4 cl xs c0 cs (i + 1) m' ex' → G) : G := by
  let kn' := tl3 ++ (tl2 ++ (tl1 ++ (tl0 ++ kn)))
  have s0 : ∀ p ∈ tl0 ++ kn, p ∈ kn' := fun p hp => List.mem_append_right _ (List.mem_append_right _ (List.mem_append_right _ hp))
  have sk : ∀ p ∈ kn, p ∈ kn' := fun p hp => s0 p (List.mem_append_right _ hp)
  have s1 : ∀ p ∈ tl1 ++ kn, p ∈ kn' := fun p hp => (List.mem_append.mp hp).elim (fun h => List.mem_append_right _ (List.mem_append_right _ (List.mem_append_left _ h))) (sk p)
  have s2 : ∀ p ∈ tl2 ++ kn, p ∈ kn' := fun p hp => (List.mem_append.mp hp).elim (fun h => List.mem_append_right _ (List.mem_append_left _ h)) (sk p)
  have s3 : ∀ p ∈ tl3 ++ kn, p ∈ kn' := fun p hp => (List.mem_append.mp hp).elim (fun h => List.mem_append_left _ h) (sk p)
  have sT : ∀ p ∈ kn', p ∈ tl3 ++ (tl2 ++ (tl1 ++ (tl0 ++ (kn ++ own)))) := fun p hp => by
    simp only [kn', List.mem_append] at hp ⊢
    rcases hp with h | h | h | h | h <;> simp [h]
  have so : ∀ p ∈ own, p ∈ tl3 ++ (tl2 ++ (tl1 ++ (tl0 ++ (kn ++ own)))) := fun p hp => by
    simp only [List.mem_append]; simp [hp]
  have e : ∀ (k : List Value) (R : Addr), k.toArray.push (Value.ref R) = (k ++ [Value.ref R]).toArray := fun k R => by simp
  rw [e, e, e, e] at N
  refine fin ((cx, o2) :: (ci, o1) :: (p1, W.listOf (k1 ++ [Value.ref R0]).toArray c1) :: (p2, W.listOf (k2 ++ [Value.ref R1]).toArray c2) :: (p3, W.listOf (k3 ++ [Value.ref R2]).toArray c3) :: (p4, W.listOf (k4 ++ [Value.ref R3]).toArray c4) :: kn') (fun q hq => N q ?_) (fun q hq => ?_)
    ⟨hm, o1, o2, _, _, _, _, _, _, _, _, _, rfl, ⟨_, hv2⟩, ⟨_, hv1⟩, hcs.mono sk, sk _ hcl, (hk1.imp fun _ _ h => h.mono sk).snoc hc (r0.mono s0), (hk2.imp fun _ _ h => h.mono sk).snoc hc (r1.mono s1), (hk3.imp fun _ _ h => h.mono sk).snoc hc (r2.mono s2), (hk4.imp fun _ _ h => h.mono sk).snoc hc (r3.mono s3),
      ⟨fun p hp => oT.x p (sT p hp), fun p hp => oT.i p (sT p hp), fun p hp => oT.a p (sT p hp), fun p hp => oT.b p (sT p hp), fun p hp => oT.c p (sT p hp), fun p hp => oT.d p (sT p hp)⟩⟩
  · refine .tail _ (.tail _ (.tail _ (.tail _ ?_)))
    rcases List.mem_append.mp hq with hq | hq
    · rcases List.mem_cons.mp hq with rfl | hq
      · exact .head _
      refine .tail _ ?_
      rcases List.mem_cons.mp hq with rfl | hq
      · exact .head _
      refine .tail _ ?_
      rcases List.mem_cons.mp hq with rfl | hq
      · exact .head _
      refine .tail _ ?_
      rcases List.mem_cons.mp hq with rfl | hq
      · exact .head _
      refine .tail _ ?_
      rcases List.mem_cons.mp hq with rfl | hq
      · exact .head _
      refine .tail _ ?_
      rcases List.mem_cons.mp hq with rfl | hq
      · exact .head _
      exact .tail _ (sT q hq)
    · exact .tail _ (.tail _ (.tail _ (.tail _ (.tail _ (.tail _ (so q hq))))))
  · rcases List.mem_cons.mp hq with rfl | hq
    · exact off (cx, q1) (.head _)
    rcases List.mem_cons.mp hq with rfl | hq
    · exact off (ci, q2) (.tail _ (.head _))
    rcases List.mem_cons.mp hq with rfl | hq
    · exact off (p1, W.listOf k1.toArray v) (.tail _ (.tail _ (.head _)))
    rcases List.mem_cons.mp hq with rfl | hq
    · exact off (p2, W.listOf k2.toArray w) (.tail _ (.tail _ (.tail _ (.head _))))
    rcases List.mem_cons.mp hq with rfl | hq
    · exact off (p3, q3) (.tail _ (.tail _ (.tail _ (.tail _ (.head _)))))
    rcases List.mem_cons.mp hq with rfl | hq
    · exact off (p4, q4) (.tail _ (.tail _ (.tail _ (.tail _ (.tail _ (.head _))))))
    simp only [kn', List.mem_append] at hq
    rcases hq with h | h | h | h | h
    · exact off_dis hw d3 q h
    · exact off_dis hw d2 q h
    · exact off_dis hw d1 q h
    · exact off_dis hw d0 q h
    · exact off q (.tail _ (.tail _ (.tail _ (.tail _ (.tail _ (.tail _ h))))))
end Mine
end

-- part K7
section
open PySem PySem.W PyProof.Rows
set_option Elab.async false
set_option maxRecDepth 100000
set_option linter.unusedVariables false
namespace Mine
open PySem.Calls
theorem ItemsIn.len {kn : List (Addr × Obj)} {its : List Value} {kw : List (Str × Value)} (h : ItemsIn kn its kw) : its.length = kw.length := h.length
section
variable {w : World} {p : Program} {loose : List Str} {mean : ExcName → Option Value} {mg mb : Str → Option Value}
  {dp un : Nat} {gd : Option (List Code)} {cn : Str} {cs : Scope} {a : Addr} {ccd : Value} {cl : List (Str × Addr)} {outer : List Env} {A₀ : Around} {base h₀ : Heap} {L : Addr} {m : Str → Option Value} {s : Shared} {Q E : Value → Shared → Prop}
variable {kn news : List (Addr × Obj)} {v u : Value} {c d : List PyData × List (Str × PyData)} {b : Bool}
theorem same_use (B : Below A₀ base outer h₀) (F : Fr h₀ L s.heap m) (X : (hd.heap_39 w.params).In h₀) (T : Top p loose mean mg mb h₀) (hk : cs.kind = .function) (hd : dp + 16 < recursionLimit) (hu : un + 260 < cLine) (N : News h₀ L s.heap news) (hkn : ∀ p ∈ kn, p ∈ news) (hv : CallOk kn v c) (hu2 : CallOk kn u d)
  (hret : ∀ h' tk', Fr h₀ L h' m → News h₀ L h' news → Q (.bool (sameD c d b)) { s with heap := h', toks := tk' }) :
  wpAny (model PySem.Challenge.rw_ki0001_01.row.prog w) (ktrTop dp un gd cn cs L a ccd cl outer) (call (.ref 85) [v, u, .bool b]) Q E s := by
  obtain ⟨a1, p1, n1, vs, i1, k1, sk1, ca1, cp1, cn1, rfl, la1, lp1, ln1, hT1, hit1, hkw1, hnd1, hz1⟩ := hv
  obtain ⟨a2, p2, n2, us, i2, k2, sk2, ca2, cp2, cn2, rfl, la2, lp2, ln2, hT2, hit2, hkw2, hnd2, hz2⟩ := hu2
  have L' := fun {a : Addr} {xs : List Value} {n : Nat} (h : (a, W.listOf xs.toArray n) ∈ kn) => News.isList N (hkn _ h)
  exact same_sum B F X T hk hd hu (L' la1) (L' la2) (L' lp1) (L' lp2) (L' ln1) (L' ln2) (fun p hp => (N p (hkn p hp)).1)
    (hT1.up (by omega)) (hT2.up (by omega)) hit1 hit2 (hnd1.up (by omega)) (hnd2.up (by omega)) hz1 hz2
    (by rw [hit1.length]; exact hkw1.len) (by rw [hit2.length]; exact hkw2.len)
    fun h' tk' g => hret h' tk' (stay_both F N g).1 (stay_both F N g).2
theorem keyP_use (F : Fr h₀ L s.heap m) (X : (hd.heap_39 w.params).In h₀) (hu : un + 200 < cLine) (N : News h₀ L s.heap news) (hkn : ∀ p ∈ kn, p ∈ news) (hv : KeyP kn v c) (hu2 : KeyP kn u d)
  (h : Q (.bool (sameD c d false)) s) : wpAny (model PySem.Challenge.rw_ki0001_01.row.prog w) (ktrTop dp un gd cn cs L a ccd cl outer) (compareOp .Eq v u) Q E s := by
  revert X; k_fill; intro X
  obtain ⟨sd1, ok1, a1, i1, rfl, m1, x1⟩ := hv
  obtain ⟨sd2, ok2, a2, i2, rfl, m2, x2⟩ := hu2
  rw [show sameD c d false = sameD (c.1, c.2) (d.1, d.2) false from rfl, ← keyP_eq ok1 ok2] at h
  exact key_eq (fun p hp => (N p (hkn p hp)).1) ⟨_, _, _, (X.keeps F.keep) 24 _ (by k_is)⟩ (N _ (hkn _ m1)).1 (N _ (hkn _ m2)).1 x1 x2 (by decide) (by show un + 80 < cLine; omega) h
theorem keyT_use (F : Fr h₀ L s.heap m) (X : (hd.heap_39 w.params).In h₀) (hu : un + 200 < cLine) (N : News h₀ L s.heap news) (hkn : ∀ p ∈ kn, p ∈ news) (hv : KeyT kn v c) (hu2 : KeyT kn u d)
  (h : Q (.bool (sameD c d true)) s) : wpAny (model PySem.Challenge.rw_ki0001_01.row.prog w) (ktrTop dp un gd cn cs L a ccd cl outer) (compareOp .Eq v u) Q E s := by
  revert X; k_fill; intro X
  obtain ⟨sd1, ok1, a1, i1, rfl, m1, x1⟩ := hv
  obtain ⟨sd2, ok2, a2, i2, rfl, m2, x2⟩ := hu2
  rw [show sameD c d true = sameD (c.1, c.2) (d.1, d.2) true from rfl, ← keyT_eq ok1 ok2] at h
  exact key_eq (fun p hp => (N p (hkn p hp)).1) ⟨_, _, _, (X.keeps F.keep) 24 _ (by k_is)⟩ (N _ (hkn _ m1)).1 (N _ (hkn _ m2)).1 x1 x2 (by decide) (by show un + 80 < cLine; omega) h
end
/-- four names turn -/
def Loc4 (m0 : Str → Option Value) (x1 x2 x3 x4 : Str) (m₁ : Str → Option Value) : Prop := ∃ a b c d : Option Value, m₁ = fun y => if y = x4 then d else if y = x3 then c else if y = x2 then b else if y = x1 then a else m0 y
theorem Loc4.of {m0 m' : Str → Option Value} {x1 x2 x3 x4 : Str} (h : ∀ y, ¬ y = x4 → ¬ y = x3 → ¬ y = x2 → ¬ y = x1 → m' y = m0 y) : Loc4 m0 x1 x2 x3 x4 m' := ⟨m' x1, m' x2, m' x3, m' x4, by
  funext y
  by_cases h4 : y = x4
  · subst h4; simp
  · by_cases h3 : y = x3
    · subst h3; simp [h4]
    · by_cases h2 : y = x2
      · subst h2; simp [h4, h3]
      · by_cases h1 : y = x1
        · subst h1; simp [h4, h3, h2]
        · simp [h4, h3, h2, h1, h y h4 h3 h2 h1]⟩
theorem Loc4.start {m0 : Str → Option Value} {x1 x2 x3 x4 : Str} : Loc4 m0 x1 x2 x3 x4 m0 := Loc4.of fun _ _ _ _ _ => rfl
/-- the third loop's invariant: all stands but the two cells -/
def Inv3 (m0 : Str → Option Value) (cx ci : Addr) (R : List (Addr × Obj)) (m₁ : Str → Option Value) (ex₁ : List (Addr × Obj)) : Prop :=
  Loc4 m0 (Str.ofString "one") (Str.ofString "j") (Str.ofString "like") (Str.ofString "alike") m₁ ∧ ∃ o1 o2, ex₁ = (cx, o2) :: (ci, o1) :: R ∧ (∃ v, o2.data = .cell v) ∧ (∃ v, o1.data = .cell v)
theorem KeysAre.get {R : Value → List PyData × List (Str × PyData) → Prop} {vs : List Value} {cs : List (List PyData × List (Str × PyData))} {k : Nat} (h : KeysAre R vs cs k) {j : Nat} {c : List PyData × List (Str × PyData)} (hj : j < k) (hc : cs[j]? = some c) : ∃ v, vs[j]? = some v ∧ R v c := by
  have hl : j < vs.length := by rw [h.1]; exact hj
  exact ⟨vs[j], List.getElem?_eq_getElem hl, h.2 j _ c (List.getElem?_eq_getElem hl) hc⟩
section
variable {prog : Program} {w : World} {A : Around} {E : Value → Shared → Prop} {s : Shared} {h₀ : Heap} {L : Addr} {news : List (Addr × Obj)} {Q : Value → Shared → Prop}
theorem item_use {value slice : PySem.Expr} {l : Addr} {vs : List Value} {c : Nat} {k : Int} {u : Tok} {v : Value} (N : News h₀ L s.heap news) (hl : (l, W.listOf vs.toArray c) ∈ news) (h0 : 0 ≤ k) (hhi : k < 64) (hx : vs[k.toNat]? = some v) (h : Q v s)
    (hs : subscripted slice false (.ref l) (.int k u) = operate [.ref l, .int k u] (getItem (.ref l) (.int k u))) :
    wpAny (model prog w) A (subscriptTail value slice (.ref l) (.int k u)) Q E s :=
  tail_any (News.isList N hl).typeIs slot_list_getitem.lookup (wpAny_getItem_list (News.isList N hl) h0 (by omega) (by simpa using hx) h) hs
end
theorem news_dup1 {h₀ h : Heap} {L : Addr} {news : List (Addr × Obj)} {a : Addr × Obj} (N : News h₀ L h news) (ha : a ∈ news) : News h₀ L h (a :: news) := fun p hp => by
  rcases List.mem_cons.mp hp with rfl | hp
  · exact N _ ha
  · exact N _ hp
end Mine
end

-- part K8
section
open PySem PySem.W PyProof.Rows
set_option Elab.async false
set_option maxRecDepth 100000
set_option linter.unusedVariables false
namespace Mine
open PySem.Calls
theorem KeyP.ref {kn : List (Addr × Obj)} {v : Value} {c : List PyData × List (Str × PyData)} (h : KeyP kn v c) : ∃ a, v = .ref a ∧ KeyP kn (.ref a) c := by
  obtain ⟨sd, ok, a, its, rfl, m, x⟩ := h
  exact ⟨a, rfl, sd, ok, a, its, rfl, m, x⟩
theorem KeyT.ref {kn : List (Addr × Obj)} {v : Value} {c : List PyData × List (Str × PyData)} (h : KeyT kn v c) : ∃ a, v = .ref a ∧ KeyT kn (.ref a) c := by
  obtain ⟨sd, ok, a, its, rfl, m, x⟩ := h
  exact ⟨a, rfl, sd, ok, a, its, rfl, m, x⟩
theorem CallOk.ref {kn : List (Addr × Obj)} {v : Value} {c : List PyData × List (Str × PyData)} (h : CallOk kn v c) : ∃ a, v = .ref a ∧ CallOk kn (.ref a) c := by
  obtain ⟨a, p, n, vs, its, kw, sk, ca, cp, cn, rfl, h1, h2, h3, h4, h5, h6, h7, h8⟩ := h
  exact ⟨a, rfl, a, p, n, vs, its, kw, sk, ca, cp, cn, rfl, h1, h2, h3, h4, h5, h6, h7, h8⟩
def Loc3 (m0 : Str → Option Value) (x1 x2 x3 : Str) (m₁ : Str → Option Value) : Prop := ∃ a b c : Option Value, m₁ = fun y => if y = x3 then c else if y = x2 then b else if y = x1 then a else m0 y
theorem Loc3.of {m0 m' : Str → Option Value} {x1 x2 x3 : Str} (h : ∀ y, ¬ y = x3 → ¬ y = x2 → ¬ y = x1 → m' y = m0 y) : Loc3 m0 x1 x2 x3 m' := ⟨m' x1, m' x2, m' x3, by
  funext y
  by_cases h3 : y = x3
  · subst h3; simp
  · by_cases h2 : y = x2
    · subst h2; simp [h3]
    · by_cases h1 : y = x1
      · subst h1; simp [h3, h2]
      · simp [h3, h2, h1, h y h3 h2 h1]⟩
theorem Loc3.start {m0 : Str → Option Value} {x1 x2 x3 : Str} : Loc3 m0 x1 x2 x3 m0 := Loc3.of fun _ _ _ _ => rfl
section
variable {prog : Program} {w : World} {A : Around} {E : Value → Shared → Prop} {s : Shared} {Q : Value → Shared → Prop}
theorem ne_self {c : Bool} (h : Q (.bool false) s) : wpAny (model prog w) A (compareOp .NotEq (.bool c) (.bool c)) Q E s := ne_bool (by rw [bne_self_eq_false]; exact h)
end
theorem small_i {i : Nat} (h : i < 20) : Builtin.Range.small 0 (i : Int) 1 = true := small_one (by decide) (by decide) (by omega) (by omega)
/-- what stands for two calls -/
theorem two_calls {kn : List (Addr × Obj)} {xs k1 k2 k3 k4 : List Value} {cs : List (List PyData × List (Str × PyData))} {n : Nat} (hcs : CallsOk kn xs cs) (hn : xs.length = n) (hk1 : KeysAre (KeyP kn) k1 cs n) (hk2 : KeysAre (KeyT kn) k2 cs n) (hk3 : KeysAre (KeyP kn) k3 cs n) (hk4 : KeysAre (KeyT kn) k4 cs n) {j : Nat} (hj : j < n) :
    ∃ c a A1 A2 A3 A4, xs[j]? = some (.ref a) ∧ CallOk kn (.ref a) c ∧ k1[j]? = some (.ref A1) ∧ k2[j]? = some (.ref A2) ∧ k3[j]? = some (.ref A3) ∧ k4[j]? = some (.ref A4) ∧ KeyP kn (.ref A1) c ∧ KeyT kn (.ref A2) c ∧ KeyP kn (.ref A3) c ∧ KeyT kn (.ref A4) c := by
  have hl : j < xs.length := by omega
  obtain ⟨c, hc, ok⟩ := hcs.get (List.getElem?_eq_getElem hl)
  obtain ⟨a, ea, ok⟩ := ok.ref
  obtain ⟨v1, e1, r1⟩ := hk1.get hj hc
  obtain ⟨v2, e2, r2⟩ := hk2.get hj hc
  obtain ⟨v3, e3, r3⟩ := hk3.get hj hc
  obtain ⟨v4, e4, r4⟩ := hk4.get hj hc
  obtain ⟨A1, rfl, r1⟩ := r1.ref
  obtain ⟨A2, rfl, r2⟩ := r2.ref
  obtain ⟨A3, rfl, r3⟩ := r3.ref
  obtain ⟨A4, rfl, r4⟩ := r4.ref
  exact ⟨c, a, A1, A2, A3, A4, by rw [List.getElem?_eq_getElem hl, ea], ok, e1, e2, e3, e4, r1, r2, r3, r4⟩
end Mine
end

-- part M1
section
open PySem PySem.W PyProof.Rows
open Lean Elab Tactic Meta
set_option Elab.async false
set_option maxRecDepth 100000
set_option linter.unusedVariables false
set_option pp.deepTerms false
set_option pp.deepTerms.threshold 12
set_option pp.maxSteps 60000
namespace Mine
local macro_rules | `(tactic| walk_at $s:str) => `(tactic| k_extra $s)
open PySem.Calls PySem.SeqAt PyProof.Rows.LCg
theorem news_rot {h₀ h : Heap} {L : Addr} {a x1 x2 x3 x4 x5 x6 x7 x8 x9 x10 x11 x12 x13 x14 x15 b c : Addr × Obj} (N : News h₀ L h [a, x1, x2, x3, x4, x5, x6, x7, x8, x9, x10, x11, x12, x13, x14, x15, b, c]) : News h₀ L h (b :: c :: a :: [x1, x2, x3, x4, x5, x6, x7, x8, x9, x10, x11, x12, x13, x14, x15]) := fun p hp => N p (by
  simp only [List.mem_cons, List.not_mem_nil, or_false] at hp ⊢
  rcases hp with h | h | h | h | h | h | h | h | h | h | h | h | h | h | h | h | h | h <;> simp only [h, true_or, or_true])
theorem len4 {vs : List Value} (h : ∀ {i : Nat} {v : Value}, vs[i]? = some v → i < 4) : vs.length ≤ 4 := Nat.le_of_not_lt fun k => Nat.lt_irrefl 4 (h (List.getElem?_eq_getElem k))
local macro_rules | `(tactic| k_all) => `(tactic| assumption)
theorem wordsM1w_1 : True := by
  k_with_none
  k_with "exec Assign cons ListComp" => (k_here; refine hold ?_)
  k_with "eval ListComp" => (k_here; refine hold ?_)
  k_with "call ref" => (k_here; (with_reducible show wpAny _ _ (call (Value.ref 59) _) _ _ _); refine hold ?_)
  k_with "call ref" => (k_here; (with_reducible show wpAny _ _ (call (Value.ref 73) _) _ _ _); refine hold ?_)
  k_with "subscriptTail Name Slice ref ref" => (k_here; (with_reducible show wpAny _ _ (subscriptTail _ (PySem.Expr.Slice (some _) (some _) none _) (Value.ref _) (Value.ref _)) _ _ _); k_dflt (refine' named_slice (by k_asm) (by k_asm) (by kmk_list) ?_ (by with_unfolding_all rfl) (by kmk_pure)); intro D' h' zs F' N' l1 hzs; (try k_lt l1); (try k_sweep))
  k_with "call builtin:list.append" => (k_here; (with_reducible show wpAny _ _ (call (Value.builtin _) [Value.ref _, _]) _ _ _); k_dflt (refine' append_K (by k_asm) (by k_asm) (by k_upd) ?_ (by (simp only [List.size_toArray, List.length_append, List.length_cons, List.length_nil, sizeLine_eq]; omega)); k_whole); intro h' F' N'; (try k_sweep))
  k_with "binaryOp Add ref ref" => (k_here; k_dflt (refine' addL (by k_asm) (by k_asm) (by exact News.isList (by k_asm) (by k_mem)) (by exact News.isList (by k_asm) (by k_mem)) (by omega) ?_); intro D' h' F' N' l1; (try k_lt l1); (try k_sweep))
  k_with "call type:dict" => (k_here; refine hold ?_)
  k_with "call type:reversed" => (k_here; refine hold ?_)
  k_with "call type:range" => (k_here; refine hold ?_)
  k_with "call ref" => (k_here; (with_reducible show wpAny _ _ (call (Value.ref 85) _) _ _ _); refine hold ?_)
  k_with "compareOp Eq ref ref" => (k_here; refine hold ?_)
  k_with "compareOp NotEq bool bool" => (k_here; refine ne_self ?_)
  k_with "subscriptTail Name Name ref int" => (k_here; (with_reducible show wpAny _ _ (subscriptTail _ _ (Value.ref _) (Value.int _ _)) _ _ _); k_dflt (refine' item_use (by k_asm) (by k_mem) (by omega) (by omega) (by assumption) ?_ (by with_unfolding_all rfl); k_whole))
  k_with "exec For Tuple Call cons nil" => (k_here; k_dflt (refine' For_pairs (by k_asm) (by exact rfl) ?_ (by exact fun _ => rfl) (by passes_own)))
  trivial
set_option maxHeartbeats 4000000 in
theorem main_law : PySem.Challenge.rw_ki0001_01.Holds := hd (by
  k_go0
  all_goals try k_fold
  k_steps
  rename Fr _ _ _ _ => F1
  rename News _ _ _ _ => N1
  rename Top _ _ _ _ _ _ => T1
  rename Frag.In _ _ => X1
  rename World => w1
  rename Shared => s₁
  rename IntsAre _ _ => hI1
  have N1' := news_rot N1
  obtain ⟨nc1, nc2⟩ : (@Ne Nat (s₁.heap.objs.size + 1 + 1) _) ∧ (@Ne Nat (s₁.heap.objs.size + 1) _) := by
    rename _ < _ ∧ _ => l9
    have l8 := l9.2.2.2.2.2.2.2.2.2.2.2.2.2.2.2
    exact ⟨Nat.ne_of_lt l8.1, Nat.ne_of_lt l8.2⟩
  have hwl : ∀ {i : Nat} {v : Value}, _[i]? = some v → i < 4 := fun {i v} h => ints_lt hI1 h
  have hw4 := len4 (fun {i v} h => hwl (i := i) (v := v) h)
  refine enum_forAt rfl (by k_mem) F1 N1' (Inv1 _ _ _ _ _) (Inv1.start (by assumption) (by assumption) ?hC rfl ?hx ?hi ?hc (.tail _ (.tail _ (.tail _ (.tail _ (.tail _ (.tail _ (.tail _ (.tail _ (.tail _ (.tail _ (.tail _ (.tail _ (.tail _ (.tail _ (.head _)))))))))))))))) ?_ ?_
  case hx => exact off_cell N1' (.head _) (by assumption) (fun p hp => .tail _ (.tail _ (.tail _ hp))) (by repeat (first | exact List.forall_mem_nil _ | refine List.forall_mem_cons.mpr ⟨nofun, ?_⟩))
  case hi => exact off_cell N1' (.tail _ (.head _)) (by assumption) (fun p hp => .tail _ (.tail _ (.tail _ hp))) (by repeat (first | exact List.forall_mem_nil _ | refine List.forall_mem_cons.mpr ⟨nofun, ?_⟩))
  case hc =>
    rename _ < _ ∧ _ => l9
    repeat (first | exact List.forall_mem_nil _ | (refine List.forall_mem_cons.mpr ⟨Nat.ne_of_lt (And.left l9), ?_⟩; replace l9 := l9.2))
  case hC =>
    exact ⟨[([.int 1], []), ([.bool true], []), ([], [(nS, .int 1)]), ([.tuple [.str nS, .int 1]], [])],
      .cons ⟨_, _, _, _, [], [], [], _, _, _, ⟨rfl, by k_mem, by k_mem, by k_mem, .cons (.int _ _) .nil, .nil, .nil, .nil, Nat.le_of_ble_eq_true rfl⟩⟩
      (.cons ⟨_, _, _, _, [], [], [], _, _, _, ⟨rfl, by k_mem, by k_mem, by k_mem, .cons (.bool _) .nil, .nil, .nil, .nil, Nat.le_of_ble_eq_true rfl⟩⟩
      (.cons ⟨_, _, _, [], _, _, _, _, _, _, ⟨rfl, by k_mem, by k_mem, by k_mem, .nil, .cons (by k_mem) .nil, .n _, .cons ok_n (.int _ _) .nil, Nat.le_of_ble_eq_true rfl⟩⟩
      (.cons ⟨_, _, _, _, [], [], [], _, _, _, ⟨rfl, by k_mem, by k_mem, by k_mem, .cons (.pair (by k_mem) ok_n (.int _ _)) .nil, .nil, .nil, .nil, Nat.le_of_ble_eq_true rfl⟩⟩ .nil)))⟩
  · rintro i t b m₁ ex₁ own wr h tk hb hJ off hw ho F2 N2 Q' hq
    obtain ⟨⟨oa, ob, rfl⟩, o1, o2, xs, c, kn, cs, rfl, ⟨v2, d2⟩, ⟨v1, d1⟩, hcs, hxl, ok, so, hS⟩ := hJ
    have hi4 := hwl hb
    have hxs : xs.length ≤ 20 := by omega
    obtain ⟨xv, tx, rfl⟩ := ints_get hI1 hb
    have oo := own_off ok hS off ho
    have oT := ok.app oo
    obtain ⟨tX, tI, tC⟩ := oT
    simp only [List.cons_append, List.append_eq] at N2
    clear F1 N1' N1
    k_steps
    refine unhold ?_
    rename Fr _ _ _ _ => F3
    rename News _ _ _ _ => N3
    refine LCg.Assign_ListComp_U (F₀ := F3) (by rfl) (by with_unfolding_all rfl) (by with_unfolding_all rfl) (by decide) (by rfl) (by decide) (by rfl) (by rfl) (by rfl) ?_
    k_steps
    refine unhold ?_
    refine call_range_1 ?_
    refine CompSrc.range rfl (F3.push _) (N3.grown fun b o e => Heap.get?_push_of_some _ e) (IsRange.new _ _ _ _ _ _ _) ?hsm (rangeSize_nat 0 _) ?hsz fun g => compRest_ind (JPl _ _ _ _) ?_ ?_ _ 0 [] _ (Nat.zero_add _) JPl.start
    case hsm => exact sm3 _
    case hsz => exact sz3 _
    · rintro j ys news v I oI C oC D m₂ h4 tk4 E' hj ⟨tl, ds, rfl, hth, hyl, otl, odt⟩ ⟨tv, rfl⟩ hoC hmx F4 N4 off4 ⟨n1, n2, n3⟩
      rcases j01 hj with rfl | rfl
      · rw [show (0:Int) + ((0:Nat):Int) = 0 from rfl] at hmx
        k_steps
        refine unhold ?_
        exact thing_step (A₀ := callerA) (below_caller _) F4 X1 T1 rfl (by decide +kernel) (by decide +kernel) ⟨_, rfl⟩ N4 off4 hth hyl otl odt
      · rw [show (0:Int) + ((1:Nat):Int) = 1 from rfl] at hmx
        k_steps
        refine unhold ?_
        exact thing_step (A₀ := callerA) (below_caller _) F4 X1 T1 rfl (by decide +kernel) (by decide +kernel) ⟨_, rfl⟩ N4 off4 hth hyl otl odt
    · rintro ys news ⟨tl, ds, rfl, hth, hyl, otl, odt⟩
      intro D h4 tk4 F4 N4 o4
      try simp only [List.append_eq] at N4
      repeat (rename _ < _ ∧ _ => zz; clear zz)
      have B0 := below_caller s₁.heap
      have oTl := otl.app ⟨tX, tI, tC⟩
      have nD3 := o4.2.2.1
      have nD2 := o4.2.1
      have nD1 := o4.1
      dsimp only at nD1 nD2 nD3
      k_steps
      refine unhold ?_
      rename Fr _ _ _ _ => F5
      rename News _ _ _ _ => N5
      refine thing_use B0 F5 X1 T1 rfl (by decide +kernel) (by decide +kernel) N5 ?_
      rintro r1 dr1 h6 tk6 tl1 F6 N6 hr1 dis1
      replace N6 := news_in (pre := [_, _, _, _]) N6
      simp only [List.cons_append, List.nil_append, List.append_eq] at N6
      k_steps
      refine unhold ?_
      rename Fr _ _ _ _ => F7
      rename News _ _ _ _ => N7
      refine thing_use B0 F7 X1 T1 rfl (by decide +kernel) (by decide +kernel) N7 ?_
      rintro r2 dr2 h8 tk8 tl2 F8 N8 hr2 dis2
      replace N8 := news_in (pre := [_, _, _, _, _]) N8
      simp only [List.cons_append, List.nil_append, List.append_eq] at N8
      have oAll := (offk_dis dis2 (.tail _ (.tail _ (.head _))) (.tail _ (.tail _ (.tail _ (.head _)))) (.tail _ (.tail _ (.tail _ (.tail _ (.head _)))))).app ((offk_dis dis1 (.tail _ (.head _)) (.tail _ (.tail _ (.head _))) (.tail _ (.tail _ (.tail _ (.head _))))).app oTl)
      have zX := oAll.x
      have zI := oAll.i
      have zC := oAll.c
      k_steps
      rename Fr _ _ _ _ => F9
      rename News _ _ _ _ => N9
      refine unhold ?_
      refine LCg.ListComp_U (F₀ := F9) (by with_unfolding_all rfl) (by decide) (by rfl) (by decide) (by rfl) ?_
      refine nameX_L F9 rfl ?_
      refine CompSrc.ledger rfl F9 N9 (by k_mem) (by simp only [List.size_toArray, sizeLine_eq]; have := n3 (xv + (i : Int)); omega) fun g => compRest_ind (JFe _ tl 1) ?_ ?_ _ 0 [] _ (Nat.zero_add _) ⟨rfl, [], .nil, Nat.le_refl _⟩
      · rintro j ys2 news v I oI C oC D2 m₂ h10 tk10 E' hj ⟨rfl, ds2, hth2, hyl2⟩ hv hoC hmx F10 N10 off10 ⟨n1, n2, n3'⟩
        obtain ⟨dv, hdv, tv⟩ := hth.get (show ys[j]? = some v by simpa using hv)
        k_steps
        refine unhold ?_
        exact fellow_step B0 F10 X1 T1 rfl (by decide +kernel) (by decide +kernel) ⟨_, rfl⟩ N10 off10 (.inr ⟨_, by k_mem, rfl, _, rfl⟩) (fun p hp => by simp only [List.mem_cons, List.mem_append]; simp [hp]) tv hth2 hyl2
      · rintro ys2 news ⟨rfl, ds2, hth2, hyl2⟩
        intro D2 h10 tk10 F10 N10 o10
        k_steps
        refine unhold ?_
        rename Fr _ _ _ _ => F11
        rename News _ _ _ _ => N11
        refine ListComp_pairsF F11 (by with_unfolding_all rfl) (by decide) rfl (by decide) rfl rfl (by decide) ?_ (fun _ => rfl)
        k_steps
        refine unhold ?_
        rename (_ : List Value) = _ ∨ _ => hzs
        obtain ⟨kwz, skz, ndz, hiz, hkz, hnz, hlz, hrz⟩ := pick_items (kn := [(_, tupO [.str nS tk4, r1] 0), (_, tupO [.str kS tk6, r2] 0)]) (kv := tl2 ++ tl1) (.head _) (.tail _ (.head _)) (hr1.mono fun p h => List.mem_append_right _ h) (hr2.mono fun p h => List.mem_append_left _ h) hzs
        refine psrc_rev (cst := _) (ex := []) rfl (News.isList N11 (by k_mem)) (.inr ⟨_, by k_mem⟩) (hiz.mono (fun p hp => by
          simp only [List.mem_cons, List.not_mem_nil, or_false] at hp
          rcases hp with rfl | rfl
          · exact .tail _ (.tail _ (.tail _ (.tail _ (.tail _ (.head _)))))
          · exact .tail _ (.tail _ (.tail _ (.tail _ (.head _)))))) (fun p hp => (N11 p hp).1) (fun p hp => .inr ⟨_, hp⟩) (by omega) F11 (by rw [List.append_nil]; exact N11) (JPr (tl2 ++ tl1) kwz.reverse (s₁.heap.objs.size + 1 + 1) (s₁.heap.objs.size + 1) oAll.cA) JPr.start ?_ ?_
        · rintro s₂ ⟨g, rfl⟩ i3 ys3 ex3 xn t3 u3 I3 oI3 C3 oC3 D3 m3 h12 tk12 E' hk3 hJ hoC hma hmb F12 N12 off12 ⟨n1, n2, n3'⟩
          obtain ⟨du, tu, oku⟩ := hnz.rev.get2 hk3
          refine wpAny_tests_nil ?_
          rw [if_pos rfl]
          simp only [List.cons_append] at N12
          k_steps
          refine unhold ?_
          refine fellow_use B0 F12 X1 T1 rfl (by decide +kernel) (by decide +kernel) N12 (fun p hp => by
            simp only [List.mem_cons, List.mem_append] at hp ⊢
            rcases hp with hp | hp <;> simp [hp]) tu ?_
          rintro r3 d3 h13 tk13 F13 N13 hr3
          k_steps
          rename Fr _ _ _ _ => F14
          rename News _ _ _ _ => N14
          refine PEnd.intro F14 N14 ((_, tupO [.str xn t3, r3] 0) :: ex3) (fun p hp => ?_) (Off3.of fun p hp => ?_) (hJ.step (P := _) (k := 0) hk3 oku hr3 ?_ ?_ ?_)
          · simp only [List.mem_cons, List.mem_append] at hp ⊢
            grind
          · rcases List.mem_cons.mp hp with rfl | hp
            · refine ⟨?_, ?_, ?_⟩ <;> k_ne
            · exact off12.mem p (by simp only [List.mem_append]; exact .inr hp)
          · k_ne
          · k_ne
          · dsimp only [OffK.cA]; k_ne
        · rintro D3 h12 tk12 ys3 ex3 F12 N12 o12 ⟨kw3, nd3, hi3, hn3, hnm3, hl3, ok3, hit3⟩
          have zC3 := (OffK.app oAll ok3).c
          simp only [List.cons_append] at N12
          have nD5 : @Ne Nat _ D3 := o12.2.2.2.2.2.2.2.2.2.1
          have nD6 : @Ne Nat _ D2 := o10.2.2.2.2.2.2.2.2.1
          dsimp only at nD5 nD6
          have hy2 : ys.length ≤ 2 := Nat.le_trans hyl (n3 _)
          have hy22 : ys2.length ≤ 2 := Nat.le_trans hyl2 (Nat.le_trans (by simp) hy2)
          k_steps
          rename Fr _ _ _ _ => F13
          rename News _ _ _ _ => N13
          rw [List.length_reverse.symm.trans (by rfl : _ = kwz.reverse.length), List.take_length] at hn3
          refine asm1 N13 (LocJ.of ?hm) (by assumption) (by assumption) hcs hxl hS oAll ok3 hw (fun p hp => off p (.tail _ (.tail _ (.tail _ hp)))) ⟨off _ (.head _), off _ (.tail _ (.head _)), off _ (.tail _ (.tail _ (.head _)))⟩ (fun q hq => dis2 q ?d2) (fun q hq => dis1 q ?d1) (fun q hq => odt q (List.mem_append_right _ hq)) hit3 hth hth2 hiz hkz hnz hi3 (hrz _ hn3) hnm3 hy2 hy22 hlz ?nl (fun ex' Nx ox jx => hq _ _ _ _ F13 Nx ox jx)
          case hm =>
            intro y hy1 hy2
            simp only [hy1, hy2, if_false]
          case d2 => simp only [List.mem_cons, List.mem_append]; simp [hq]
          case d1 => simp only [List.mem_cons, List.mem_append]; simp [hq]
          case nl =>
            simp only [List.all_cons, List.all_nil, Bool.and_true, Bool.and_eq_true, decide_eq_true_eq]
            refine ⟨?_, ?_, ?_, ?_, ?_, ?_, ?_, ?_, ?_, ?_, ?_, ?_⟩ <;> k_ne
  · rintro h tk m' ex' F2 N2 ⟨⟨oa, ob, rfl⟩, o1, o2, xs, c, kn, cs, rfl, ⟨v2, d2⟩, ⟨v1, d1⟩, hcs, hxl, ok, so, hS⟩
    have ok' := ok
    obtain ⟨tX, tI, tC⟩ := ok
    repeat (rename _ < _ ∧ _ => zz; clear zz)
    clear F1 N1' N1
    k_steps
    rename Fr _ _ _ _ => F3
    rename News _ _ _ _ => N3
    rename _ < _ ∧ _ => lT
    revert lT
    rename _ < _ ∧ _ => l4
    revert l4
    rename _ < _ ∧ _ => l3
    revert l3
    rename _ < _ ∧ _ => l2
    revert l2
    rename _ < _ ∧ _ => l1
    revert l1
    intro l1 l2 l3 l4 lT
    have N3' := news_rot2 N3
    have g1 := l1.1
    have g2 := l1.2.1
    have g3 := l2.1
    have g4 := l2.2.1
    have g5 := l2.2.2.1
    have g6 := l3.1
    have g7 := l3.2.1
    have g8 := l3.2.2.1
    have g9 := l3.2.2.2.1
    have g10 := l4.1
    have g11 := l4.2.1
    have g12 := l4.2.2.1
    have g13 := l4.2.2.2.1
    have g14 := l4.2.2.2.2.1
    refine enum_forAt rfl (.tail _ (.tail _ (.tail _ (.tail _ (.tail _ (.tail _ (.tail _ (.head _)))))))) F3 N3' (Inv2 _ _ _ _ _ _ _ _ xs c cs) (Inv2.start N3' d2 d1 hcs ok' lT l4 l3 l2 l1 nc1 nc2) ?_ ?_
    · clear lT l4 l3 l2 l1
      rintro i2 t2 b m₁ ex₁ own wr h2 tk2 hb hJ off hw ho F4 N4 Q' hq
      obtain ⟨⟨oa2, ob2, rfl⟩, o3, o4, k1, k2, k3, k4, c1, c2, c3, c4, kn2, rfl, ⟨v4, d4⟩, ⟨v3, d3⟩, hcs2, hcl, hk1, hk2, hk3, hk4, ok6⟩ := hJ
      obtain ⟨cc, hcc, a, p, n, vs, its, kw, sk, ca, cp, cn, rfl, la, lp, ln, hT, hit, hkw, hnd, hz⟩ := hcs2.get hb
      have hl24 : i2 < 20 := by
        obtain ⟨hh, _⟩ := List.getElem?_eq_some_iff.mp hb
        have := hxl
        omega
      have mm := fun (z : Addr) (hz : ∀ p ∈ kn2, p.1 ≠ z) => (⟨hz _ la, hz _ lp, hz _ ln⟩ : (@Ne Nat a z) ∧ (@Ne Nat p z) ∧ (@Ne Nat n z))
      obtain ⟨ax, px, nx⟩ := mm _ ok6.x
      obtain ⟨ai, pi, ni⟩ := mm _ ok6.i
      obtain ⟨aa, pa, na⟩ := mm _ ok6.a
      obtain ⟨ab, pb, nb⟩ := mm _ ok6.b
      obtain ⟨ac, pc, nc⟩ := mm _ ok6.c
      obtain ⟨ad, pd, nd4⟩ := mm _ ok6.d
      clear mm
      have oo := own_off6 ok6 hcl off ho
      have oT := ok6.app oo
      obtain ⟨zx, zi, za, zb, zc, zd⟩ := id oT
      have N5 := news_dup3 N4 (List.mem_append_left _ (.tail _ (.tail _ (.tail _ (.tail _ (.tail _ (.tail _ la))))))) (List.mem_append_left _ (.tail _ (.tail _ (.tail _ (.tail _ (.tail _ (.tail _ lp))))))) (List.mem_append_left _ (.tail _ (.tail _ (.tail _ (.tail _ (.tail _ (.tail _ ln)))))))
      clear N4
      simp only [List.cons_append] at N5
      k_steps
      refine unhold ?_
      rename Fr _ _ _ _ => F6
      rename News _ _ _ _ => N6
      refine dict_use rfl F6 N6 T1.nolimit (by k_mem) (fun p hp => .tail _ (.tail _ (.tail _ (.tail _ (.tail _ (.tail _ (.tail _ (.tail _ (.tail _ (List.mem_append_left _ hp)))))))))) hit hkw ?_
      rintro D od h7 tk7 F7 N7 hod hsm lD
      have aD : @Ne Nat _ D := Nat.ne_of_lt (lD _ (.tail _ (.tail _ (.tail _ (.tail _ (.tail _ (.head _)))))))
      have bD : @Ne Nat _ D := Nat.ne_of_lt (lD _ (.tail _ (.tail _ (.tail _ (.tail _ (.tail _ (.tail _ (.head _))))))))
      have cD : @Ne Nat _ D := Nat.ne_of_lt (lD _ (.tail _ (.tail _ (.tail _ (.tail _ (.tail _ (.tail _ (.tail _ (.head _)))))))))
      have dD : @Ne Nat _ D := Nat.ne_of_lt (lD _ (.tail _ (.tail _ (.tail _ (.tail _ (.tail _ (.tail _ (.tail _ (.tail _ (.head _))))))))))
      dsimp only at aD bD cD dD
      k_steps
      rename Fr _ _ _ _ => F8
      rename News _ _ _ _ => N8
      have B0 := below_caller s₁.heap
      have hvl : vs.length ≤ 8 := by omega
      have hkl : kw.length ≤ 64 := Nat.le_trans hkw.len (by decide)
      have q1 := hk1.1
      have q2 := hk2.1
      have q3 := hk3.1
      have q4 := hk4.1
      refine star0 (by rfl) X1 F8 N8 (.tail _ (.tail _ (.head _))) (Nat.le_trans hvl (by decide)) (.head _) hod hsm hkl ?_
      k_steps
      refine unhold ⟨rfl, rfl, fun h9 F9 => ?_⟩
      refine nameX_L F9 rfl ?_
      refine unhold ⟨rfl, rfl, fun h10 F10 N10 => ?_⟩
      clear F9 F8 N8
      refine hash_use hvl B0 F10 X1 T1 rfl (by decide +kernel) (by decide +kernel) N10 (fun p hp => (.tail _ (.tail _ (.tail _ (.tail _ (.tail _ (.tail _ (.tail _ (.tail _ (.tail _ (.tail _ (List.mem_append_left _ hp)))))))))))) hkw hnd hT ?_
      rintro R0 h11 tk11 tl0 F11 N11 hr0 dis0
      clear F10 N10
      replace N11 := news_in (pre := [_, _, _, _, _, _, _, _, _, _]) N11
      simp only [List.cons_append, List.nil_append, List.append_eq] at N11
      have oT0 := (Off6.dis dis0 (.tail _ (.tail _ (.tail _ (.tail _ (.head _))))) (.tail _ (.tail _ (.tail _ (.tail _ (.tail _ (.head _)))))) (.tail _ (.tail _ (.tail _ (.tail _ (.tail _ (.tail _ (.head _))))))) (.tail _ (.tail _ (.tail _ (.tail _ (.tail _ (.tail _ (.tail _ (.head _)))))))) (.tail _ (.tail _ (.tail _ (.tail _ (.tail _ (.tail _ (.tail _ (.tail _ (.head _))))))))) (.tail _ (.tail _ (.tail _ (.tail _ (.tail _ (.tail _ (.tail _ (.tail _ (.tail _ (.head _))))))))))).app oT
      have zx0 := oT0.x
      have zi0 := oT0.i
      have za0 := oT0.a
      have zb0 := oT0.b
      have zc0 := oT0.c
      have zd0 := oT0.d
      k_steps
      rename Fr _ _ _ _ => H0F
      rename News _ _ _ _ => H0N
      refine star0 (by rfl) X1 H0F H0N (.tail _ (.tail _ (.head _))) (Nat.le_trans hvl (by decide)) (.head _) hod hsm hkl ?_
      k_steps
      refine unhold ⟨rfl, rfl, fun h9 F9 => ?_⟩
      refine nameX_L F9 rfl ?_
      refine unhold ⟨rfl, rfl, fun h10 F10 N10 => ?_⟩
      clear F9 H0F H0N
      refine typed_use hvl B0 F10 X1 T1 rfl (by decide +kernel) (by decide +kernel) N10 (fun p hp => (.tail _ (.tail _ (.tail _ (.tail _ (.tail _ (.tail _ (.tail _ (.tail _ (.tail _ (.tail _ (List.mem_append_right _ (List.mem_append_left _ hp))))))))))))) hkw hnd hT ?_
      rintro R1 h11 tk11 tl1 F11 N11 hr1 dis1
      clear F10 N10
      replace N11 := news_in (pre := [_, _, _, _, _, _, _, _, _, _]) N11
      simp only [List.cons_append, List.nil_append, List.append_eq] at N11
      have oT1 := (Off6.dis dis1 (.tail _ (.tail _ (.tail _ (.tail _ (.head _))))) (.tail _ (.tail _ (.tail _ (.tail _ (.tail _ (.head _)))))) (.tail _ (.tail _ (.tail _ (.tail _ (.tail _ (.tail _ (.head _))))))) (.tail _ (.tail _ (.tail _ (.tail _ (.tail _ (.tail _ (.tail _ (.head _)))))))) (.tail _ (.tail _ (.tail _ (.tail _ (.tail _ (.tail _ (.tail _ (.tail _ (.head _))))))))) (.tail _ (.tail _ (.tail _ (.tail _ (.tail _ (.tail _ (.tail _ (.tail _ (.tail _ (.head _))))))))))).app oT0
      have zx1 := oT1.x
      have zi1 := oT1.i
      have za1 := oT1.a
      have zb1 := oT1.b
      have zc1 := oT1.c
      have zd1 := oT1.d
      k_steps
      rename Fr _ _ _ _ => H1F
      rename News _ _ _ _ => H1N
      refine star1 (iv := .int (i2 : Int) t2) (by rfl) X1 H1F H1N (.tail _ (.tail _ (.head _))) (Nat.le_trans hvl (by decide)) (.head _) hod hsm hkl ?_
      rw [if_neg Bool.false_ne_true]
      k_steps
      refine unhold ⟨rfl, rfl, fun h9 F9 => ?_⟩
      refine nameX_L F9 rfl ?_
      refine unhold ⟨rfl, rfl, fun h10 F10 N10 => ?_⟩
      clear F9 H1F H1N
      refine meth_use hvl B0 F10 X1 T1 rfl (by decide +kernel) (by decide +kernel) N10 (fun p hp => (.tail _ (.tail _ (.tail _ (.tail _ (.tail _ (.tail _ (.tail _ (.tail _ (.tail _ (.tail _ (List.mem_append_right _ (List.mem_append_right _ (List.mem_append_left _ hp)))))))))))))) hkw hnd hT ?_
      rintro R2 h11 tk11 tl2 F11 N11 hr2 dis2
      clear F10 N10
      replace N11 := news_in (pre := [_, _, _, _, _, _, _, _, _, _]) N11
      simp only [List.cons_append, List.nil_append, List.append_eq] at N11
      have oT2 := (Off6.dis dis2 (.tail _ (.tail _ (.tail _ (.tail _ (.head _))))) (.tail _ (.tail _ (.tail _ (.tail _ (.tail _ (.head _)))))) (.tail _ (.tail _ (.tail _ (.tail _ (.tail _ (.tail _ (.head _))))))) (.tail _ (.tail _ (.tail _ (.tail _ (.tail _ (.tail _ (.tail _ (.head _)))))))) (.tail _ (.tail _ (.tail _ (.tail _ (.tail _ (.tail _ (.tail _ (.tail _ (.head _))))))))) (.tail _ (.tail _ (.tail _ (.tail _ (.tail _ (.tail _ (.tail _ (.tail _ (.tail _ (.head _))))))))))).app oT1
      have zx2 := oT2.x
      have zi2 := oT2.i
      have za2 := oT2.a
      have zb2 := oT2.b
      have zc2 := oT2.c
      have zd2 := oT2.d
      k_steps
      rename Fr _ _ _ _ => H2F
      rename News _ _ _ _ => H2N
      refine star1 (iv := .int (i2 : Int) t2) (by rfl) X1 H2F H2N (.tail _ (.tail _ (.head _))) (Nat.le_trans hvl (by decide)) (.head _) hod hsm hkl ?_
      rw [if_neg Bool.false_ne_true]
      k_steps
      refine unhold ⟨rfl, rfl, fun h9 F9 => ?_⟩
      refine nameX_L F9 rfl ?_
      refine unhold ⟨rfl, rfl, fun h10 F10 N10 => ?_⟩
      clear F9 H2F H2N
      refine tmeth_use hvl B0 F10 X1 T1 rfl (by decide +kernel) (by decide +kernel) N10 (fun p hp => (.tail _ (.tail _ (.tail _ (.tail _ (.tail _ (.tail _ (.tail _ (.tail _ (.tail _ (.tail _ (List.mem_append_right _ (List.mem_append_right _ (List.mem_append_right _ (List.mem_append_left _ hp))))))))))))))) hkw hnd hT ?_
      rintro R3 h11 tk11 tl3 F11 N11 hr3 dis3
      clear F10 N10
      replace N11 := news_in (pre := [_, _, _, _, _, _, _, _, _, _]) N11
      simp only [List.cons_append, List.nil_append, List.append_eq] at N11
      have oT3 := (Off6.dis dis3 (.tail _ (.tail _ (.tail _ (.tail _ (.head _))))) (.tail _ (.tail _ (.tail _ (.tail _ (.tail _ (.head _)))))) (.tail _ (.tail _ (.tail _ (.tail _ (.tail _ (.tail _ (.head _))))))) (.tail _ (.tail _ (.tail _ (.tail _ (.tail _ (.tail _ (.tail _ (.head _)))))))) (.tail _ (.tail _ (.tail _ (.tail _ (.tail _ (.tail _ (.tail _ (.tail _ (.head _))))))))) (.tail _ (.tail _ (.tail _ (.tail _ (.tail _ (.tail _ (.tail _ (.tail _ (.tail _ (.head _))))))))))).app oT2
      have zx3 := oT3.x
      have zi3 := oT3.i
      have za3 := oT3.a
      have zb3 := oT3.b
      have zc3 := oT3.c
      have zd3 := oT3.d
      k_steps
      rename Fr _ _ _ _ => FZ
      rename News _ _ _ _ => NZ
      refine asm2 NZ (LocJ.of ?hm) (by assumption) (by assumption) hcs2 hcl hcc hk1 hk2 hk3 hk4 hr0 hr1 hr2 hr3 oT3 hw off (fun q hq => dis0 q ?e0) (fun q hq => dis1 q ?e1) (fun q hq => dis2 q ?e2) (fun q hq => dis3 q ?e3) (fun ex' Nx ox jx => hq _ _ _ _ FZ Nx ox jx)
      case hm =>
        intro y hy1 hy2
        simp only [hy1, hy2, if_false]
      case e0 => simp only [List.mem_cons, List.mem_append]; simp [hq]
      case e1 => simp only [List.mem_cons, List.mem_append]; simp [hq]
      case e2 => simp only [List.mem_cons, List.mem_append]; simp [hq]
      case e3 => simp only [List.mem_cons, List.mem_append]; simp [hq]
    · clear lT l4 l3 l2 l1
      rintro h2 tk2 m₁ ex₁ F4 N4 ⟨⟨oa2, ob2, rfl⟩, o3, o4, k1, k2, k3, k4, c1, c2, c3, c4, kn2, rfl, ⟨v4, d4⟩, ⟨v3, d3⟩, hcs2, hcl, hk1, hk2, hk3, hk4, ok6⟩
      clear F3 N3 N3'
      have B0 := below_caller s₁.heap
      k_steps
      rename Fr _ _ _ _ => F5
      rename News _ _ _ _ => N6
      refine enum_forAt rfl (.tail _ (.tail _ (.tail _ (.tail _ (.tail _ (.tail _ hcl)))))) F5 N6 (fun _ => Inv3 _ _ _ _) ⟨Loc4.start, _, _, rfl, ⟨_, d4⟩, ⟨_, d3⟩⟩ ?_ ?_
      · rintro i3 t3 b m₃ ex₃ own wr h3 tk3 hb hJ off hw ho F6 N7 Q' hq
        obtain ⟨⟨oa3, ob3, oc3, od3, rfl⟩, o5, o6, rfl, ⟨v6, d6⟩, ⟨v5, d5⟩⟩ := hJ
        have hi3 : i3 < xs.length := by
          obtain ⟨hh, _⟩ := List.getElem?_eq_some_iff.mp hb
          exact hh
        have hi20 : i3 < 20 := by
          have := hxl
          omega
        obtain ⟨ci, ai, A1, A2, A3, A4, xi, oki, y1, y2, y3, y4, r1, r2, r3, r4⟩ := two_calls hcs2 rfl hk1 hk2 hk3 hk4 hi3
        obtain rfl : b = .ref ai := by rw [xi] at hb; exact (Option.some.inj hb).symm
        have oo := own_off6 ok6 hcl off ho
        have oT := ok6.app oo
        obtain ⟨zx, zi, za, zb, zc, zd⟩ := id oT
        have clx := ok6.x _ hcl
        have cli := ok6.i _ hcl
        dsimp only at clx cli
        have N8 := news_dup1 N7 (List.mem_append_left _ (.tail _ (.tail _ (.tail _ (.tail _ (.tail _ (.tail _ hcl)))))))
        clear N7 N6
        simp only [List.cons_append] at N8
        k_steps
        refine unhold ?_
        rename Fr _ _ _ _ => F9
        rename News _ _ _ _ => N9
        refine call_range_1 ?_
        refine iter_rangeS (σ := Unit) (n := ((i3 : Int) - 0).toNat) (fun _ m nx => nx = _ ∧ Loc3 _ (Str.ofString "j") (Str.ofString "like") (Str.ofString "alike") m) (fun _ _ => ()) () rfl (IsRange.new _ _ _ _ _ _ _) (small_i hi20) (rangeSize_nat 0 _) (F9.push _) (N9.grown fun b o e => Heap.get?_push_of_some _ e) ⟨rfl, Loc3.start⟩ ?_ ?_
        · rintro k tk' u m₄ nx h4 tk4 own2 hk hoff ⟨rfl, oa4, ob4, oc4, rfl⟩ F10 N10
          have hk2' := mem_rangeKs hk
          obtain ⟨jn, rfl⟩ : ∃ jn : Nat, k = (jn : Int) := ⟨k.toNat, by omega⟩
          have hj3 : jn < xs.length := by omega
          have hj20 : jn < 20 := by omega
          obtain ⟨cj, aj, B1, B2, B3, B4, xj, okj, w1', w2', w3', w4', s1, s2, s3, s4⟩ := two_calls hcs2 rfl hk1 hk2 hk3 hk4 hj3
          simp only [List.cons_append] at N10
          have kn_in : ∀ {a b c d e f g : Addr × Obj}, ∀ p ∈ kn2, p ∈ a :: b :: c :: d :: e :: f :: g :: (kn2 ++ own ++ own2) := fun p hp => .tail _ (.tail _ (.tail _ (.tail _ (.tail _ (.tail _ (.tail _ (List.mem_append_left _ (List.mem_append_left _ hp))))))))
          k_steps
          refine unhold ?_
          rename Fr _ _ _ _ => F11
          rename News _ _ _ _ => N11
          refine same_use B0 F11 X1 T1 rfl (by decide +kernel) (by decide +kernel) N11 kn_in oki okj ?_
          rintro h5 tk5 F12 N12
          k_steps
          refine unhold ?_
          rename Fr _ _ _ _ => F13
          rename News _ _ _ _ => N13
          refine same_use B0 F13 X1 T1 rfl (by decide +kernel) (by decide +kernel) N13 kn_in oki okj ?_
          rintro h6 tk6 F14 N14
          k_steps
          refine unhold ?_
          rename Fr _ _ _ _ => F15
          rename News _ _ _ _ => N15
          refine keyP_use F15 X1 (by decide +kernel) N15 kn_in r1 s1 ?_
          k_steps
          refine unhold ?_
          refine keyP_use F15 X1 (by decide +kernel) N15 kn_in r3 s3 ?_
          k_steps
          refine unhold ?_
          refine keyT_use F15 X1 (by decide +kernel) N15 kn_in r2 s2 ?_
          k_steps
          refine unhold ?_
          refine keyT_use F15 X1 (by decide +kernel) N15 kn_in r4 s4 ?_
          k_steps
          refine InvEndN.intro F15 N15 ⟨rfl, Loc3.of ?_⟩ rfl (fun p hp => List.mem_append_left own2 hp) (fun p hp => .tail _ (.tail _ (.tail _ (.tail _ (.tail _ (.tail _ (.tail _ (List.mem_append_right _ hp))))))))
          intro y hy1 hy2 hy3
          simp only [hy1, hy2, hy3, if_false]
        · rintro m₅ nx h5 tk5 ⟨rfl, oa5, ob5, oc5, rfl⟩ F11 N11
          k_steps
          exact hq _ _ _ (_ :: _ :: _ :: _ :: _ :: _ :: kn2) F11 (fun p hp => N11 p (.tail _ hp)) (fun p hp => by
            rcases List.mem_cons.mp hp with rfl | hp
            · exact off (_, o6) (.head _)
            rcases List.mem_cons.mp hp with rfl | hp
            · exact off (_, o5) (.tail _ (.head _))
            · exact off p (.tail _ (.tail _ hp))) ⟨Loc4.of (fun y h4 h3 h2 h1 => by simp only [h1, h2, h3, h4, if_false]), _, _, rfl, ⟨_, d6⟩, ⟨_, by assumption⟩⟩
      · rintro h5 tk5 m₅ ex₅ F6 N7 ⟨⟨oa3, ob3, oc3, od3, rfl⟩, o5, o6, rfl, ⟨v6, d6⟩, ⟨v5, d5⟩⟩
        k_steps)

end Mine
theorem Mine.wordsM1_off : True := by
  k_with_none
  trivial
end

set_option Elab.async false
theorem PySem.Challenge.cw_ki0001_01_holds : PySem.Challenge.rw_ki0001_01.Holds :=
  Mine.main_law
