import PyProof.Rows.All
import Wide.All
import OpenK.AllK
import Wide.FinOn
import Lean
import PySem.Challenge.RW_wf0065_01
open PySem PySem.W PySem.Calls PyProof.Rows
set_option Elab.async false
set_option compiler.extract_closed false
set_option maxRecDepth 100000
set_option rowWalk.seconds 0
set_option linter.all false
namespace Mine
set_option synthInstance.maxSize 1 in
set_option maxHeartbeats 8000000 in
open_top hd for PySem.Challenge.rw_wf0065_01

theorem at_base : True := by
  w_top off
  k_with_none
  trivial
/-- the end of a def's walk: what is handed back, where it is handed back -/
def Back (R : Result → Shared → Prop) (v : Value) (s' : Shared) : Prop := R (.ok (.ret v)) s'

/-- all that stands in one heap stands in the other, but for the named places -/
def Keep (adr : List Addr) (h h' : Heap) : Prop := ∀ b o, h.get? b = some o → b ∉ adr → h'.get? b = some o

theorem Keep.of {adr : List Addr} {h g h' : Heap} {L : Addr} {m : Str → Option Value} (G : GSub h g adr) (F : Fr g L h' m) : Keep adr h h' :=
  fun b o e n => F.keep b o (G b o e n)
theorem Keep.all {h h' : Heap} (k : Keep [] h h') : ∀ b o, h.get? b = some o → h'.get? b = some o := fun b o e => k b o e List.not_mem_nil

section
variable {h₀ h h' : Heap} {L : Addr} {m : Str → Option Value} {news : List (Addr × Obj)} {wr : List Addr}
theorem Keep.fr (k : Keep wr h h') (F : Fr h₀ L h m) (hL : L ∉ wr) (h0 : ∀ b ∈ wr, h₀.get? b = none) : Fr h₀ L h' m :=
  { ns := F.ns.at' fun o e => k L o e hL, keep := fun b o e => k b o (F.keep b o e) fun z => (Option.some_ne_none o) (e.symm.trans (h0 b z)), above := F.above }
theorem Keep.made (k : Keep wr h h') (N : News h₀ L h news) (off : ∀ p ∈ news, p.1 ∉ wr) : News h₀ L h' news := fun p hp => (N p hp).imp (fun e => k _ _ e (off p hp)) id
theorem Keep.one {d : Addr} (x : Heap.SameBut d h h') : Keep [d] h h' := fun b _ e n => (x.2 b fun q => n (List.mem_singleton.mpr q)).trans e
theorem not_one {a b : Addr} (n : a ≠ b) : a ∉ [b] := fun z => n (List.mem_singleton.mp z)
end
/-- a list is cut at any of its places -/
theorem cut_at {α : Type} {l : List α} {i : Nat} {x : α} (e : l[i]? = some x) : l.take (i + 1) = l.take i ++ [x] ∧ l = l.take i ++ x :: l.drop (i + 1) := by
  have next : l.take (i + 1) = l.take i ++ [x] := by rw [List.take_add_one, e]; rfl
  refine ⟨next, ?_⟩
  have := List.take_append_drop (i + 1) l
  rw [next, List.append_assoc, List.singleton_append] at this
  exact this.symm

/-- where a walk stands at a call: its frame, what was made since, the text's objects -/
structure Stand (K : Frag) (p : Program) (loose : List Str) (mean : ExcName → Option Value) (mg mb : Str → Option Value) (A₀ A : Around) (base h₀ : Heap) (fs : List Env) (env : Env) (L : Addr) (m : Str → Option Value) (led : List (Addr × Obj)) (h : Heap) : Prop where
  below : Below A₀ base fs h₀
  fr : Fr h₀ L h m
  part : K.In h₀
  led : News h₀ L h led
  top : Top p loose mean mg mb h₀
  frames : A.frames = some (env :: fs)
  frame : env.frame = some L
  kind : env.scope.kind = .function
/-- what the walk of a def begins with: its own frame, over a base that lacks the caller's ledger -/
structure Begun (K : Frag) (p : Program) (loose : List Str) (mean : ExcName → Option Value) (mg mb : Str → Option Value) (A : Around) (base h₀ : Heap) (fs : List Env) (led : List (Addr × Obj)) (h : Heap) (all : List (Addr × Obj)) (g : Heap) (L : Addr) (m : Str → Option Value) (h' : Heap) : Prop where
  fr : Fr g L h' m
  made : News g L h' all
  below : Below A base fs g
  part : K.In g
  top : Top p loose mean mg mb g
  sub : GSub h g (led.map (·.1))
  lt : ∀ q ∈ led, q.1 < L
  stays : h₀.StaysIn g
/-- a def that takes what it is given -/
structure Takes (A : Around) (scope : Scope) : Prop where
  room : A.depth < recursionLimit
  co : scope.isCoroutine = false
  gen : scope.isGenerator = false
  kind : scope.kind = .function
/-- the walk of a body: what it hands back goes where the call stood -/
abbrev Run (prog : Program) (w : World) (A : Around) (R : Result → Shared → Prop) (env : Env) (body : List Stmt) (s : Shared) : Prop :=
  wpAny (model prog w) (A.deeper env) (execs body env) (fun f t => Back R (match f with | .ret v => v | _ => .none) t)
    (fun x t => wpAny (model prog w) (A.deeper env) (leaving env x) (fun _ t' => R (.error x) t') (fun x' t' => R (.error x') t') t) s

section
variable {prog : Program} {w : World} {A₀ A : Around} {s : Shared} {base h₀ : Heap} {fs : List Env} {L : Addr} {m mg mb : Str → Option Value} {env : Env} {led : List (Addr × Obj)} {K : Frag} {p : Program} {loose : List Str} {mean : ExcName → Option Value}
variable {R : Result → Shared → Prop} {name qual : Str} {params : Arguments} {body : List Stmt} {scope : Scope} {dV kV doc pm cdv ct : Value} {an : Option Addr} {cl : List (Str × Addr)} {f : Addr} {args : Args} {binds : List (Str × Value)}
theorem hid_of (l : List (Addr × Obj)) {h : Heap} {a : Addr} (e : h.get? a = none) : (hideAll h (l.map (·.1))).get? a = none :=
  Option.eq_none_iff_forall_ne_some.mpr fun _ q => by rw [of_hideAll _ q] at e; cases e
theorem Stand.begun (S : Stand K p loose mean mg mb A₀ A base h₀ fs env L m led s.heap) {h : Heap} {m' : Str → Option Value} {more : List (Addr × Obj)} (ns : h.Ns s.heap.objs.size m') (up : ∀ b o, s.heap.get? b = some o → h.get? b = some o)
    (hm : ∀ q ∈ more, h.get? q.1 = some q.2 ∧ q.1 ≠ s.heap.objs.size ∧ s.heap.get? q.1 = none) : Begun K p loose mean mg mb A base h₀ (env :: fs) led s.heap (more ++ led) (hideAll s.heap (led.map (·.1))) s.heap.objs.size m' h :=
  have G := groundX (R := fun _ _ => True) S.below S.fr S.led S.frames S.frame S.kind
  have lt : ∀ q ∈ led, q.1 < s.heap.objs.size := fun q hq => Heap.lt_size (S.led q hq).1
  { fr := { ns, keep := fun b o e => up b o (of_hideAll _ e), above := Nat.le_of_eq (hideAll_size _ _) }
    made := fun q hq => (List.mem_append.mp hq).elim (fun hq => have ⟨e, n, z⟩ := hm q hq; ⟨e, n, hid_of led z⟩) fun hq => ⟨up _ _ (S.led q hq).1, Nat.ne_of_lt (lt q hq), hideAll_none _ (List.mem_map.mpr ⟨q, hq, rfl⟩)⟩
    below := G.2.1
    part := S.part.keeps G.2.2.1
    top := S.top.keeps G.2.2.1
    sub := fun _ _ => hideAll_get _
    lt, stays := G.2.2.1 }
theorem enterX {o : Obj} (S : Stand K p loose mean mg mb A₀ A base h₀ fs env L m led s.heap) (ho : s.heap.get? f = some o) (hd : o.data = .func (fnX name qual params body scope cl dV kV doc pm an cdv ct)) (hc : s.heap.CodeRec cdv qual)
    (hb : BindsTo s (fnX name qual params body scope cl dV kV doc pm an cdv ct) args binds) (W : Takes A scope) (hl : ∀ y ∈ binds, scope.names.lookup y.1 = some .local) (hn : ∀ y ∈ scope.names, y.2 ≠ .cell)
    (go : ∀ g L' h', Begun K p loose mean mg mb A base h₀ (env :: fs) led s.heap led g L' (fun y => binds.reverse.lookup y) h' → Run prog w A R (envX qual scope L' f cdv cl) body { s with heap := h', toks := s.toks + binds.length }) :
    codeAny (model prog w) A (.call (.ref f) args) R s :=
  codeAny_call_def W.room ho hd (S.top.nolimit.keeps S.fr.keep) hc rfl hb hn hl (fun h' ns up => go _ _ h' (S.begun (more := []) ns up fun _ z => nomatch z)) W.co W.gen W.kind
theorem enterH {oc : Value} {od : Option Addr} {osl : Array (Option Value)} (S : Stand K p loose mean mg mb A₀ A base h₀ fs env L m led s.heap)
    (ho : K.lookup f = some ⟨oc, od, .func (fnOf name qual params body scope dV kV doc pm an cdv ct), osl⟩) (hc : codeIn K cdv qual = true) (hb : BindsTo s (fnOf name qual params body scope dV kV doc pm an cdv ct) args binds)
    (W : Takes A scope) (hl : ∀ y ∈ binds, scope.names.lookup y.1 = some .local) (hn : ∀ y ∈ scope.names, y.2 ≠ .cell)
    (go : ∀ g L' h', Begun K p loose mean mg mb A base h₀ (env :: fs) led s.heap led g L' (fun y => binds.reverse.lookup y) h' → Run prog w A R (envOf qual scope L' f cdv) body { s with heap := h', toks := s.toks + binds.length }) :
    codeAny (model prog w) A (.call (.ref f) args) R s :=
  have X := S.part.keeps S.fr.keep
  enterX (cl := []) S (X _ _ ho) rfl (codeRec_of X hc) hb W hl hn go
end

/-- where a call stands: a frame of a def of the text's, room enough -/
def Here (w : World) (A : Around) (d u : Nat) (s : Shared) (led : List (Addr × Obj)) : Prop :=
  ∃ (dp un : Nat) (gd : Option (List Code)) (env : Env) (outer : List Env) (A₀ : Around) (base h₀ : Heap) (L : Addr) (m mg mb : Str → Option Value) (p : Program) (loose : List Str) (mean : ExcName → Option Value),
    A = { handled := none, depth := dp, frames := some (env :: outer), guards := gd, units := un } ∧ Below A₀ base outer h₀ ∧ Fr h₀ L s.heap m ∧ News h₀ L s.heap led ∧ (hd.heap_39 w.params).In h₀ ∧ Top p loose mean mg mb h₀ ∧ env.frame = some L ∧ env.scope.kind = .function ∧
    dp + d < recursionLimit ∧ un + u < cLine ∧ CodeHd h₀ 70 66 ∧ CodeHd h₀ 77 73

theorem Here.of {w : World} {A : Around} {d u : Nat} {s : Shared} {led : List (Addr × Obj)} {env : Env} {outer : List Env} {A₀ : Around} {base h₀ : Heap} {L : Addr} {m mg mb : Str → Option Value} {p : Program} {loose : List Str} {mean : ExcName → Option Value}
    (h1 : A.handled = none) (h2 : A.frames = some (env :: outer)) (B : Below A₀ base outer h₀) (F : Fr h₀ L s.heap m) (N : News h₀ L s.heap led) (X : (hd.heap_39 w.params).In h₀) (T : Top p loose mean mg mb h₀) (hf : env.frame = some L) (hk : env.scope.kind = .function)
    (hd : A.depth + d < recursionLimit) (hu : A.units + u < cLine) (c1 : CodeHd h₀ 70 66) (c2 : CodeHd h₀ 77 73) : Here w A d u s led := by
  obtain ⟨a, b, c, e, f⟩ := A
  cases h1
  cases h2
  exact ⟨_, _, _, _, _, _, _, _, _, _, _, _, _, _, _, rfl, B, F, N, X, T, hf, hk, hd, hu, c1, c2⟩

local macro_rules | `(tactic| k_room) => `(tactic| ((try simp only [depth_under_make, depth_under_kw, depth_in1, depth_deeper, depth_caller]); omega))
local macro_rules | `(tactic| walk_at "mine here") => `(tactic| (refine' Here.of rfl rfl ?B ?F ?N ?X ?T rfl rfl ?d ?u ?c1 ?c2; (case B => k_asm); (case F => k_asm); (case N => first | exact News.nil | (refine cb_drop (by k_asm) ?_; kcj_all)); (case X => k_asm); (case T => k_asm); (case d => (simp only [depth_under_make, depth_under_kw, depth_in1, depth_deeper, depth_caller]; omega)); (case u => (simp only [units_in1, units_deeper, Around.mark_units, units_caller]; omega)); (case c1 => assumption); (case c2 => assumption)))
local macro_rules | `(tactic| walk_at "mine list") => `(tactic| first | assumption | exact News.isList (by k_asm) (by k_mem) | exact stays_list (Fr.keep (by k_asm)) (by assumption))
local macro_rules | `(tactic| walk_at "mine back") => `(tactic| ((rename Keep [] _ _ => kp9); (try dsimp only at kp9); (have F9 := Fr.keeps (by k_asm) (Keep.all kp9)); (have N9 := News.grown (by k_asm) (Keep.all kp9)); clear kp9; (try k_sweep); (try dsimp only); (try k_fold)))
local macro_rules | `(tactic| walk_at "mine down") => `(tactic| assumption)
local macro_rules | `(tactic| walk_at "mine def") => `(tactic| first | k_is | k_mem)
local macro_rules | `(tactic| walk_at "mine binds") => `(tactic| exact BindsTo.of_eq rfl)
local macro_rules | `(tactic| walk_at "mine takes") => `(tactic| (refine' Takes.mk ?room rfl rfl rfl; (case room => k_room)))
local macro_rules | `(tactic| walk_at "mine locals") => `(tactic| first | exact locs rfl | exact rfl)

theorem at_ops : True := by
  w_top off
  k_with_none
  trivial
local macro_rules | `(tactic| walk_at "mine fact") => `(tactic| first | decide | omega | assumption | (k_fmods; omega) | k_extra "mine fact")
local macro_rules | `(tactic| walk_at "call ref") => `(tactic| (k_here; k_dflt (walk_at "mine call")))

set_option maxHeartbeats 1000000 in
theorem ltC {w : World} {A : Around} {s : Shared} {Q E : Value → Shared → Prop} {a b : Int} {ta tb : Tok}
    (H : Here w A 2 20 s []) (ret : ∀ h' tk', Keep [] s.heap h' → Q (.bool (decide (a < b))) { s with heap := h', toks := tk' }) :
    wpAny (model PySem.Challenge.rw_wf0065_01.row.prog w) A (call (.ref 99) [.int a ta, .int b tb]) Q E s := by
  obtain ⟨dp, un, gd, env, outer, A₀, base, h₀, L, m, mg, mb, p, loose, mean, rfl, B, F, N, X, T, hf, hke, hdp, hun, c1, c2⟩ := H
  revert X; k_fill; intro X
  refine wpAny_call ?_
  k_dflt (refine' enterH (binds := [(Str.ofString "a", .int a ta), (Str.ofString "b", .int b tb)]) ⟨B, F, X, N, T, rfl, hf, hke⟩ (by walk_at "mine def") (by walk_at "mine def") (by walk_at "mine binds") (by walk_at "mine takes") (by walk_at "mine locals") (by decide) ?_; k_whole)
  rintro g L' h' ⟨F', N', B', X', T', G', l1, st'⟩
  clear B F N X T hf c1 c2 st'
  dsimp only [Run]
  k_unmd
  k_fold
  k_steps
  exact ret _ _ (Keep.of G' (by assumption))


set_option maxHeartbeats 1000000 in
theorem addC {w : World} {A : Around} {s : Shared} {Q E : Value → Shared → Prop} {a b : Int} {ta tb : Tok}
    (H : Here w A 2 20 s []) (ret : ∀ t h' tk', Keep [] s.heap h' → Q (.int (a + b) t) { s with heap := h', toks := tk' }) :
    wpAny (model PySem.Challenge.rw_wf0065_01.row.prog w) A (call (.ref 106) [.int a ta, .int b tb]) Q E s := by
  obtain ⟨dp, un, gd, env, outer, A₀, base, h₀, L, m, mg, mb, p, loose, mean, rfl, B, F, N, X, T, hf, hke, hdp, hun, c1, c2⟩ := H
  revert X; k_fill; intro X
  refine wpAny_call ?_
  k_dflt (refine' enterH (binds := [(Str.ofString "a", .int a ta), (Str.ofString "b", .int b tb)]) ⟨B, F, X, N, T, rfl, hf, hke⟩ (by walk_at "mine def") (by walk_at "mine def") (by walk_at "mine binds") (by walk_at "mine takes") (by walk_at "mine locals") (by decide) ?_; k_whole)
  rintro g L' h' ⟨F', N', B', X', T', G', l1, st'⟩
  clear B F N X T hf c1 c2 st'
  dsimp only [Run]
  k_unmd
  k_fold
  k_steps
  exact ret _ _ _ (Keep.of G' (by assumption))


set_option maxHeartbeats 1000000 in
theorem andC {w : World} {A : Around} {s : Shared} {Q E : Value → Shared → Prop} {a b : Int} {ta tb : Tok}
    (H : Here w A 2 20 s []) (ret : ∀ t h' tk', Keep [] s.heap h' → Q (.int (Builtin.bitAnd a b) t) { s with heap := h', toks := tk' }) :
    wpAny (model PySem.Challenge.rw_wf0065_01.row.prog w) A (call (.ref 113) [.int a ta, .int b tb]) Q E s := by
  obtain ⟨dp, un, gd, env, outer, A₀, base, h₀, L, m, mg, mb, p, loose, mean, rfl, B, F, N, X, T, hf, hke, hdp, hun, c1, c2⟩ := H
  revert X; k_fill; intro X
  refine wpAny_call ?_
  k_dflt (refine' enterH (binds := [(Str.ofString "a", .int a ta), (Str.ofString "b", .int b tb)]) ⟨B, F, X, N, T, rfl, hf, hke⟩ (by walk_at "mine def") (by walk_at "mine def") (by walk_at "mine binds") (by walk_at "mine takes") (by walk_at "mine locals") (by decide) ?_; k_whole)
  rintro g L' h' ⟨F', N', B', X', T', G', l1, st'⟩
  clear B F N X T hf c1 c2 st'
  dsimp only [Run]
  k_unmd
  k_fold
  k_steps
  exact ret _ _ _ (Keep.of G' (by assumption))


set_option maxHeartbeats 1000000 in
theorem lshiftC {w : World} {A : Around} {s : Shared} {Q E : Value → Shared → Prop} {a b : Int} {ta tb : Tok}
    (H : Here w A 2 20 s []) (hb0 : 0 ≤ b) (hb1 : b ≤ 60) (ha0 : -(2 ^ 60) ≤ a) (ha1 : a ≤ 2 ^ 60) (ret : ∀ t h' tk', Keep [] s.heap h' → Q (.int (a * 2 ^ b.toNat) t) { s with heap := h', toks := tk' }) :
    wpAny (model PySem.Challenge.rw_wf0065_01.row.prog w) A (call (.ref 120) [.int a ta, .int b tb]) Q E s := by
  obtain ⟨dp, un, gd, env, outer, A₀, base, h₀, L, m, mg, mb, p, loose, mean, rfl, B, F, N, X, T, hf, hke, hdp, hun, c1, c2⟩ := H
  revert X; k_fill; intro X
  refine wpAny_call ?_
  k_dflt (refine' enterH (binds := [(Str.ofString "a", .int a ta), (Str.ofString "b", .int b tb)]) ⟨B, F, X, N, T, rfl, hf, hke⟩ (by walk_at "mine def") (by walk_at "mine def") (by walk_at "mine binds") (by walk_at "mine takes") (by walk_at "mine locals") (by decide) ?_; k_whole)
  rintro g L' h' ⟨F', N', B', X', T', G', l1, st'⟩
  clear B F N X T hf c1 c2 st'
  dsimp only [Run]
  k_unmd
  k_fold
  k_steps
  exact ret _ _ _ (Keep.of G' (by assumption))


set_option maxHeartbeats 1000000 in
theorem mulC {w : World} {A : Around} {s : Shared} {Q E : Value → Shared → Prop} {a b : Int} {ta tb : Tok}
    (H : Here w A 2 20 s []) (ha0 : -(2 ^ 60) ≤ a) (ha1 : a ≤ 2 ^ 60) (hb0 : -(2 ^ 60) ≤ b) (hb1 : b ≤ 2 ^ 60) (ret : ∀ t h' tk', Keep [] s.heap h' → Q (.int (a * b) t) { s with heap := h', toks := tk' }) :
    wpAny (model PySem.Challenge.rw_wf0065_01.row.prog w) A (call (.ref 127) [.int a ta, .int b tb]) Q E s := by
  obtain ⟨dp, un, gd, env, outer, A₀, base, h₀, L, m, mg, mb, p, loose, mean, rfl, B, F, N, X, T, hf, hke, hdp, hun, c1, c2⟩ := H
  revert X; k_fill; intro X
  refine wpAny_call ?_
  k_dflt (refine' enterH (binds := [(Str.ofString "a", .int a ta), (Str.ofString "b", .int b tb)]) ⟨B, F, X, N, T, rfl, hf, hke⟩ (by walk_at "mine def") (by walk_at "mine def") (by walk_at "mine binds") (by walk_at "mine takes") (by walk_at "mine locals") (by decide) ?_; k_whole)
  rintro g L' h' ⟨F', N', B', X', T', G', l1, st'⟩
  clear B F N X T hf c1 c2 st'
  dsimp only [Run]
  k_unmd
  k_fold
  k_steps
  exact ret _ _ _ (Keep.of G' (by assumption))


set_option maxHeartbeats 1000000 in
theorem orC {w : World} {A : Around} {s : Shared} {Q E : Value → Shared → Prop} {a b : Int} {ta tb : Tok}
    (H : Here w A 2 20 s []) (ret : ∀ t h' tk', Keep [] s.heap h' → Q (.int (Builtin.bitOr a b) t) { s with heap := h', toks := tk' }) :
    wpAny (model PySem.Challenge.rw_wf0065_01.row.prog w) A (call (.ref 134) [.int a ta, .int b tb]) Q E s := by
  obtain ⟨dp, un, gd, env, outer, A₀, base, h₀, L, m, mg, mb, p, loose, mean, rfl, B, F, N, X, T, hf, hke, hdp, hun, c1, c2⟩ := H
  revert X; k_fill; intro X
  refine wpAny_call ?_
  k_dflt (refine' enterH (binds := [(Str.ofString "a", .int a ta), (Str.ofString "b", .int b tb)]) ⟨B, F, X, N, T, rfl, hf, hke⟩ (by walk_at "mine def") (by walk_at "mine def") (by walk_at "mine binds") (by walk_at "mine takes") (by walk_at "mine locals") (by decide) ?_; k_whole)
  rintro g L' h' ⟨F', N', B', X', T', G', l1, st'⟩
  clear B F N X T hf c1 c2 st'
  dsimp only [Run]
  k_unmd
  k_fold
  k_steps
  exact ret _ _ _ (Keep.of G' (by assumption))


set_option maxHeartbeats 1000000 in
theorem rshiftC {w : World} {A : Around} {s : Shared} {Q E : Value → Shared → Prop} {a b : Int} {ta tb : Tok}
    (H : Here w A 2 20 s []) (hb0 : 0 ≤ b) (ret : ∀ t h' tk', Keep [] s.heap h' → Q (.int (a.fdiv (2 ^ b.toNat)) t) { s with heap := h', toks := tk' }) :
    wpAny (model PySem.Challenge.rw_wf0065_01.row.prog w) A (call (.ref 141) [.int a ta, .int b tb]) Q E s := by
  obtain ⟨dp, un, gd, env, outer, A₀, base, h₀, L, m, mg, mb, p, loose, mean, rfl, B, F, N, X, T, hf, hke, hdp, hun, c1, c2⟩ := H
  revert X; k_fill; intro X
  refine wpAny_call ?_
  k_dflt (refine' enterH (binds := [(Str.ofString "a", .int a ta), (Str.ofString "b", .int b tb)]) ⟨B, F, X, N, T, rfl, hf, hke⟩ (by walk_at "mine def") (by walk_at "mine def") (by walk_at "mine binds") (by walk_at "mine takes") (by walk_at "mine locals") (by decide) ?_; k_whole)
  rintro g L' h' ⟨F', N', B', X', T', G', l1, st'⟩
  clear B F N X T hf c1 c2 st'
  dsimp only [Run]
  k_unmd
  k_fold
  k_steps
  exact ret _ _ _ (Keep.of G' (by assumption))


set_option maxHeartbeats 1000000 in
theorem subC {w : World} {A : Around} {s : Shared} {Q E : Value → Shared → Prop} {a b : Int} {ta tb : Tok}
    (H : Here w A 2 20 s []) (ret : ∀ t h' tk', Keep [] s.heap h' → Q (.int (a - b) t) { s with heap := h', toks := tk' }) :
    wpAny (model PySem.Challenge.rw_wf0065_01.row.prog w) A (call (.ref 148) [.int a ta, .int b tb]) Q E s := by
  obtain ⟨dp, un, gd, env, outer, A₀, base, h₀, L, m, mg, mb, p, loose, mean, rfl, B, F, N, X, T, hf, hke, hdp, hun, c1, c2⟩ := H
  revert X; k_fill; intro X
  refine wpAny_call ?_
  k_dflt (refine' enterH (binds := [(Str.ofString "a", .int a ta), (Str.ofString "b", .int b tb)]) ⟨B, F, X, N, T, rfl, hf, hke⟩ (by walk_at "mine def") (by walk_at "mine def") (by walk_at "mine binds") (by walk_at "mine takes") (by walk_at "mine locals") (by decide) ?_; k_whole)
  rintro g L' h' ⟨F', N', B', X', T', G', l1, st'⟩
  clear B F N X T hf c1 c2 st'
  dsimp only [Run]
  k_unmd
  k_fold
  k_steps
  exact ret _ _ _ (Keep.of G' (by assumption))


set_option maxHeartbeats 1000000 in
theorem xorC {w : World} {A : Around} {s : Shared} {Q E : Value → Shared → Prop} {a b : Int} {ta tb : Tok}
    (H : Here w A 2 20 s []) (ret : ∀ t h' tk', Keep [] s.heap h' → Q (.int (Builtin.bitXor a b) t) { s with heap := h', toks := tk' }) :
    wpAny (model PySem.Challenge.rw_wf0065_01.row.prog w) A (call (.ref 155) [.int a ta, .int b tb]) Q E s := by
  obtain ⟨dp, un, gd, env, outer, A₀, base, h₀, L, m, mg, mb, p, loose, mean, rfl, B, F, N, X, T, hf, hke, hdp, hun, c1, c2⟩ := H
  revert X; k_fill; intro X
  refine wpAny_call ?_
  k_dflt (refine' enterH (binds := [(Str.ofString "a", .int a ta), (Str.ofString "b", .int b tb)]) ⟨B, F, X, N, T, rfl, hf, hke⟩ (by walk_at "mine def") (by walk_at "mine def") (by walk_at "mine binds") (by walk_at "mine takes") (by walk_at "mine locals") (by decide) ?_; k_whole)
  rintro g L' h' ⟨F', N', B', X', T', G', l1, st'⟩
  clear B F N X T hf c1 c2 st'
  dsimp only [Run]
  k_unmd
  k_fold
  k_steps
  exact ret _ _ _ (Keep.of G' (by assumption))

local macro_rules | `(tactic| walk_at "mine call") => `(tactic| (k_dflt (refine' ltC ?H ?_; (case H => walk_at "mine here"); k_whole); intro h9 tk9 k9; walk_at "mine back"))
local macro_rules | `(tactic| walk_at "mine call") => `(tactic| (k_dflt (refine' addC ?H ?_; (case H => walk_at "mine here"); k_whole); intro t9 h9 tk9 k9; walk_at "mine back"))
local macro_rules | `(tactic| walk_at "mine call") => `(tactic| (k_dflt (refine' andC ?H ?_; (case H => walk_at "mine here"); k_whole); intro t9 h9 tk9 k9; walk_at "mine back"))
local macro_rules | `(tactic| walk_at "mine call") => `(tactic| (k_dflt (refine' lshiftC ?H ?hb0 ?hb1 ?ha0 ?ha1 ?_; (case H => walk_at "mine here"); (case hb0 => walk_at "mine fact"); (case hb1 => walk_at "mine fact"); (case ha0 => walk_at "mine fact"); (case ha1 => walk_at "mine fact"); k_whole); intro t9 h9 tk9 k9; walk_at "mine back"))
local macro_rules | `(tactic| walk_at "mine call") => `(tactic| (k_dflt (refine' mulC ?H ?ha0 ?ha1 ?hb0 ?hb1 ?_; (case H => walk_at "mine here"); (case ha0 => walk_at "mine fact"); (case ha1 => walk_at "mine fact"); (case hb0 => walk_at "mine fact"); (case hb1 => walk_at "mine fact"); k_whole); intro t9 h9 tk9 k9; walk_at "mine back"))
local macro_rules | `(tactic| walk_at "mine call") => `(tactic| (k_dflt (refine' orC ?H ?_; (case H => walk_at "mine here"); k_whole); intro t9 h9 tk9 k9; walk_at "mine back"))
local macro_rules | `(tactic| walk_at "mine call") => `(tactic| (k_dflt (refine' rshiftC ?H ?hb0 ?_; (case H => walk_at "mine here"); (case hb0 => walk_at "mine fact"); k_whole); intro t9 h9 tk9 k9; walk_at "mine back"))
local macro_rules | `(tactic| walk_at "mine call") => `(tactic| (k_dflt (refine' subC ?H ?_; (case H => walk_at "mine here"); k_whole); intro t9 h9 tk9 k9; walk_at "mine back"))
local macro_rules | `(tactic| walk_at "mine call") => `(tactic| (k_dflt (refine' xorC ?H ?_; (case H => walk_at "mine here"); k_whole); intro t9 h9 tk9 k9; walk_at "mine back"))

theorem at_bis : True := by
  w_top off
  k_with_none
  trivial
def BisInv (p : Int → Bool) (ns : List Int) (lo hi : Int) : Prop :=
  (∀ i, i < lo.toNat → p (ns.getD i 0) = true) ∧ (∀ i, hi.toNat ≤ i → i < ns.length → p (ns.getD i 0) = false)
/-- what is true of an item is true of every item ahead of it -/
def Down (p : Int → Bool) (ns : List Int) : Prop := ∀ i j, i ≤ j → j < ns.length → p (ns.getD j 0) = true → p (ns.getD i 0) = true
def cnt (p : Int → Bool) (ns : List Int) : Int := ((ns.countP p : Nat) : Int)

theorem mid_lo {lo hi : Int} (h : lo < hi) : lo ≤ (lo + hi).fdiv 2 ∧ (lo + hi).fdiv 2 < hi := by
  rw [Int.fdiv_eq_ediv_of_nonneg _ (by decide)]; omega
theorem bis_start {p : Int → Bool} {ns : List Int} {n : Int} (hn : n = (ns.length : Int)) : BisInv p ns 0 n :=
  ⟨fun i h => absurd h (by simp), fun i h1 h2 => absurd h2 (by omega)⟩
theorem bis_up {p : Int → Bool} {ns : List Int} {lo hi : Int} (D : Down p ns) (I : BisInv p ns lo hi) (h0 : 0 ≤ lo) (hn : hi ≤ (ns.length : Int)) (h : lo < hi) (ht : p (ns.getD ((lo + hi).fdiv 2).toNat 0) = true) :
    BisInv p ns ((lo + hi).fdiv 2 + 1) hi := by
  have hm := mid_lo h
  exact ⟨fun i hi' => D i _ (by omega) (by omega) ht, I.2⟩
theorem bis_down {p : Int → Bool} {ns : List Int} {lo hi : Int} (D : Down p ns) (I : BisInv p ns lo hi) (ht : p (ns.getD ((lo + hi).fdiv 2).toNat 0) = false) :
    BisInv p ns lo ((lo + hi).fdiv 2) := by
  refine ⟨I.1, fun i h1 h2 => ?_⟩
  cases q : p (ns.getD i 0) with
  | false => rfl
  | true => rw [D _ i h1 h2 q] at ht; cases ht
theorem bis_dn {p : Int → Bool} {ns : List Int} {lo hi : Int} (D : Down p ns) (I : BisInv p ns lo hi) (h0 : 0 ≤ lo) (hn : hi ≤ (ns.length : Int)) (h : lo < hi) (ht : p (ns.getD ((lo + hi).fdiv 2).toNat 0) = false) :
    0 ≤ lo ∧ lo ≤ (lo + hi).fdiv 2 ∧ (lo + hi).fdiv 2 ≤ (ns.length : Int) ∧ BisInv p ns lo ((lo + hi).fdiv 2) := by
  have hm := mid_lo h
  exact ⟨h0, hm.1, by omega, bis_down D I ht⟩
theorem bis_u {p : Int → Bool} {ns : List Int} {lo hi : Int} (D : Down p ns) (I : BisInv p ns lo hi) (h0 : 0 ≤ lo) (hn : hi ≤ (ns.length : Int)) (h : lo < hi) (ht : p (ns.getD ((lo + hi).fdiv 2).toNat 0) = true) :
    0 ≤ (lo + hi).fdiv 2 + 1 ∧ (lo + hi).fdiv 2 + 1 ≤ hi ∧ hi ≤ (ns.length : Int) ∧ BisInv p ns ((lo + hi).fdiv 2 + 1) hi := by
  have hm := mid_lo h
  exact ⟨by omega, by omega, hn, bis_up D I h0 hn h ht⟩
theorem meas_dn {lo hi : Int} (h : lo < hi) : ((lo + hi).fdiv 2 - lo).toNat < (hi - lo).toNat := by have := mid_lo h; omega
theorem meas_up {lo hi : Int} (h : lo < hi) : (hi - ((lo + hi).fdiv 2 + 1)).toNat < (hi - lo).toNat := by have := mid_lo h; omega
theorem countP_split {p : Int → Bool} : ∀ {ns : List Int} {k : Nat}, k ≤ ns.length → (∀ i, i < k → p (ns.getD i 0) = true) → (∀ i, k ≤ i → i < ns.length → p (ns.getD i 0) = false) → ns.countP p = k
  | [], k, hk, _, _ => by simp at hk; simp [hk]
  | n :: r, 0, _, _, h2 => by
    rw [List.countP_cons, countP_split (ns := r) (k := 0) (Nat.zero_le _) (fun i h => absurd h (Nat.not_lt_zero _)) (fun i _ h => by simpa using h2 (i + 1) (Nat.zero_le _) (by simpa using h))]
    have := h2 0 (Nat.le_refl _) (by simp)
    simp at this
    simp [this]
  | n :: r, k + 1, hk, h1, h2 => by
    rw [List.countP_cons, countP_split (ns := r) (k := k) (by simpa using hk) (fun i h => by simpa using h1 (i + 1) (by omega)) (fun i h h' => by simpa using h2 (i + 1) (by omega) (by simpa using h'))]
    have := h1 0 (by omega)
    simp at this
    simp [this]
theorem bis_end {p : Int → Bool} {ns : List Int} {lo hi : Int} (I : BisInv p ns lo hi) (h0 : 0 ≤ lo) (h1 : lo ≤ hi) (hn : hi ≤ (ns.length : Int)) (h : ¬ lo < hi) : lo = cnt p ns := by
  have e : lo = hi := by omega
  subst e
  unfold cnt
  rw [countP_split (k := lo.toNat) (by omega) I.1 I.2]
  omega


set_option maxHeartbeats 4000000 in
theorem bisR {w : World} {A : Around} {s : Shared} {Q E : Value → Shared → Prop} {l : Addr} {vs : List Value} {ns : List Int} {x : Int} {tx tl : Tok} {as : List Value}
    (H : Here w A 20 200 s []) (has : (as = [.ref l, .int x tx] ∧ tl = 202) ∨ as = [.ref l, .int x tx, .int 0 tl, .none]) (hl : s.heap.IsList l vs.toArray) (hi : IntsAre vs ns) (hlen : ns.length < 1000) (hD : Down (fun y => decide (y ≤ x)) ns)
    (ret : ∀ t h' tk', Keep [] s.heap h' → Q (.int (cnt (fun y => decide (y ≤ x)) ns) t) { s with heap := h', toks := tk' }) :
    wpAny (model PySem.Challenge.rw_wf0065_01.row.prog w) A (call (.ref 32) as) Q E s := by
  obtain ⟨dp, un, gd, env, outer, A₀, base, h₀, L, m, mg, mb, p, loose, mean, rfl, B, F, N, X, T, hf, hke, hdp, hun, c1, c2⟩ := H
  revert X; k_fill; intro X
  refine wpAny_call ?_
  k_dflt (refine' enterH (binds := [(Str.ofString "a", .ref l), (Str.ofString "x", .int x tx), (Str.ofString "lo", .int 0 tl), (Str.ofString "hi", .none), (Str.ofString "key", .none)]) ⟨B, F, X, N, T, rfl, hf, hke⟩ (by walk_at "mine def") (by walk_at "mine def") (by (rcases has with ⟨rfl, rfl⟩ | rfl <;> (refine' kp_binds ?kx ?ke; (case kx => k_in); (case ke => exact fun _ => rfl)))) (by walk_at "mine takes") (by walk_at "mine locals") (by decide) ?_; k_whole)
  rintro g L' h' ⟨F', N', B', X', T', G', l1, st'⟩
  have hl' : g.IsList l vs.toArray := let ⟨o, ho, r⟩ := hl; ⟨o, G' l o ho List.not_mem_nil, r⟩
  clear hl B F N X T hf c1 c2 has
  dsimp only [Run]
  k_unmd
  k_fold
  k_with "exec While Compare cons nil" => k_while_given ["x"] (fun x script lo hi => 0 ≤ lo ∧ lo ≤ hi ∧ hi ≤ (script.length : Int) ∧ BisInv (fun y => decide (y ≤ x)) script lo hi) (fun _ _ lo hi => (hi - lo).toNat) "lo" "hi"
  k_with "state" => first
    | exact ⟨by omega, by omega, by omega, bis_start (by omega)⟩
    | exact bis_dn hD (by assumption) (by assumption) (by assumption) (by assumption) (decide_eq_false (by omega))
    | exact bis_u hD (by assumption) (by assumption) (by assumption) (by assumption) (decide_eq_true (by omega))
  k_with "measure" => first | exact meas_dn (by assumption) | exact meas_up (by assumption)
  k_steps
  k_with_none
  dsimp only
  k_unfold
  dsimp only [Back]
  have e := bis_end (p := fun y => decide (y ≤ x)) (by assumption) (by assumption) (by assumption) (by assumption) (by assumption)
  subst e
  exact ret _ _ _ (Keep.of G' (by assumption))


set_option maxHeartbeats 4000000 in
theorem bisL {w : World} {A : Around} {s : Shared} {Q E : Value → Shared → Prop} {l : Addr} {vs : List Value} {ns : List Int} {x : Int} {tx tl : Tok} {as : List Value}
    (H : Here w A 20 200 s []) (has : (as = [.ref l, .int x tx] ∧ tl = 229) ∨ as = [.ref l, .int x tx, .int 0 tl, .none]) (hl : s.heap.IsList l vs.toArray) (hi : IntsAre vs ns) (hlen : ns.length < 1000) (hD : Down (fun y => decide (y < x)) ns)
    (ret : ∀ t h' tk', Keep [] s.heap h' → Q (.int (cnt (fun y => decide (y < x)) ns) t) { s with heap := h', toks := tk' }) :
    wpAny (model PySem.Challenge.rw_wf0065_01.row.prog w) A (call (.ref 50) as) Q E s := by
  obtain ⟨dp, un, gd, env, outer, A₀, base, h₀, L, m, mg, mb, p, loose, mean, rfl, B, F, N, X, T, hf, hke, hdp, hun, c1, c2⟩ := H
  revert X; k_fill; intro X
  refine wpAny_call ?_
  k_dflt (refine' enterH (binds := [(Str.ofString "a", .ref l), (Str.ofString "x", .int x tx), (Str.ofString "lo", .int 0 tl), (Str.ofString "hi", .none), (Str.ofString "key", .none)]) ⟨B, F, X, N, T, rfl, hf, hke⟩ (by walk_at "mine def") (by walk_at "mine def") (by (rcases has with ⟨rfl, rfl⟩ | rfl <;> (refine' kp_binds ?kx ?ke; (case kx => k_in); (case ke => exact fun _ => rfl)))) (by walk_at "mine takes") (by walk_at "mine locals") (by decide) ?_; k_whole)
  rintro g L' h' ⟨F', N', B', X', T', G', l1, st'⟩
  have hl' : g.IsList l vs.toArray := let ⟨o, ho, r⟩ := hl; ⟨o, G' l o ho List.not_mem_nil, r⟩
  clear hl B F N X T hf c1 c2 has
  dsimp only [Run]
  k_unmd
  k_fold
  k_with "exec While Compare cons nil" => k_while_given ["x"] (fun x script lo hi => 0 ≤ lo ∧ lo ≤ hi ∧ hi ≤ (script.length : Int) ∧ BisInv (fun y => decide (y < x)) script lo hi) (fun _ _ lo hi => (hi - lo).toNat) "lo" "hi"
  k_with "state" => first
    | exact ⟨by omega, by omega, by omega, bis_start (by omega)⟩
    | exact bis_dn hD (by assumption) (by assumption) (by assumption) (by assumption) (decide_eq_false (by omega))
    | exact bis_u hD (by assumption) (by assumption) (by assumption) (by assumption) (decide_eq_true (by omega))
  k_with "measure" => first | exact meas_dn (by assumption) | exact meas_up (by assumption)
  k_steps
  k_with_none
  dsimp only
  k_unfold
  dsimp only [Back]
  have e := bis_end (p := fun y => decide (y < x)) (by assumption) (by assumption) (by assumption) (by assumption) (by assumption)
  subst e
  exact ret _ _ _ (Keep.of G' (by assumption))

local macro_rules | `(tactic| walk_at "mine call") => `(tactic| (k_dflt (refine' bisR ?H ?has ?hl ?hi ?hlen ?hD ?_; (case H => walk_at "mine here"); (case has => first | exact Or.inl ⟨rfl, rfl⟩ | exact Or.inr rfl); (case hl => walk_at "mine list"); (case hi => assumption); (case hlen => first | omega | ((simp only [List.length_map]); omega)); (case hD => walk_at "mine down"); k_whole); intro t9 h9 tk9 k9; walk_at "mine back"))
local macro_rules | `(tactic| walk_at "mine call") => `(tactic| (k_dflt (refine' bisL ?H ?has ?hl ?hi ?hlen ?hD ?_; (case H => walk_at "mine here"); (case has => first | exact Or.inl ⟨rfl, rfl⟩ | exact Or.inr rfl); (case hl => walk_at "mine list"); (case hi => assumption); (case hlen => first | omega | ((simp only [List.length_map]); omega)); (case hD => walk_at "mine down"); k_whole); intro t9 h9 tk9 k9; walk_at "mine back"))

theorem at_ins : True := by
  w_top off
  k_with_none
  trivial
theorem cnt_lo (p : Int → Bool) (ns : List Int) : 0 ≤ cnt p ns := Int.natCast_nonneg _
theorem cnt_hi (p : Int → Bool) (ns : List Int) : cnt p ns ≤ (ns.length : Int) := by
  unfold cnt; exact Int.ofNat_le.mpr List.countP_le_length
theorem fits_cnt {p : Int → Bool} {ns : List Int} (h : ns.length < 900) : Builtin.List.listFitsIndex (cnt p ns) = true := by
  have h1 := cnt_lo p ns
  have h2 := cnt_hi p ns
  unfold Builtin.List.listFitsIndex
  simp only [Bool.and_eq_true, decide_eq_true_eq]
  omega
theorem ints_take {vs : List Value} {ns : List Int} (h : IntsAre vs ns) : ∀ k, IntsAre (vs.take k) (ns.take k) := by
  induction h with
  | nil => intro k; simp only [List.take_nil]; exact .nil
  | cons n t _ ih =>
    intro k
    cases k with
    | zero => exact .nil
    | succ k => exact .cons n t (ih k)
theorem ints_drop {vs : List Value} {ns : List Int} (h : IntsAre vs ns) : ∀ k, IntsAre (vs.drop k) (ns.drop k) := by
  induction h with
  | nil => intro k; simp only [List.drop_nil]; exact .nil
  | cons n t h' ih =>
    intro k
    cases k with
    | zero => exact .cons n t h'
    | succ k => exact ih k
theorem ints_ins {vs : List Value} {ns : List Int} {p : Int → Bool} {x : Int} {t : Tok} (h : IntsAre vs ns) : IntsAre (kl_ins vs (cnt p ns) (.int x t)) (ns.take (cnt p ns).toNat ++ x :: ns.drop (cnt p ns).toNat) := by
  have h1 := cnt_lo p ns
  have h2 := cnt_hi p ns
  have hl := h.length
  unfold kl_ins
  rw [if_neg (by omega), Nat.min_eq_left (by omega)]
  exact IntsAre.append (ints_take h _) (.cons x t (ints_drop h _))

set_option maxHeartbeats 4000000 in
theorem insR {w : World} {A : Around} {s : Shared} {Q E : Value → Shared → Prop} {l : Addr} {vs : List Value} {ns : List Int} {n : Nat} {x : Int} {tx : Tok}
    (H : Here w A 25 250 s [(l, listOf vs.toArray n)]) (hi : IntsAre vs ns) (hlen : ns.length < 900) (hD : Down (fun y => decide (y ≤ x)) ns)
    (ret : ∀ vs' n' h' tk', Keep [l] s.heap h' → h'.get? l = some (listOf vs'.toArray n') → IntsAre vs' (ns.take (cnt (fun y => decide (y ≤ x)) ns).toNat ++ x :: ns.drop (cnt (fun y => decide (y ≤ x)) ns).toNat) → Q .none { s with heap := h', toks := tk' }) :
    wpAny (model PySem.Challenge.rw_wf0065_01.row.prog w) A (call (.ref 23) [.ref l, .int x tx]) Q E s := by
  obtain ⟨dp, un, gd, env, outer, A₀, base, h₀, L, m, mg, mb, p, loose, mean, rfl, B, F, N, X, T, hf, hke, hdp, hun, c1, c2⟩ := H
  revert X; k_fill; intro X
  refine wpAny_call ?_
  k_dflt (refine' enterH (binds := [(Str.ofString "a", .ref l), (Str.ofString "x", .int x tx), (Str.ofString "lo", .int 0 189), (Str.ofString "hi", .none), (Str.ofString "key", .none)]) ⟨B, F, X, N, T, rfl, hf, hke⟩ (by walk_at "mine def") (by walk_at "mine def") (by (refine' kp_binds ?kx ?ke; (case kx => k_in); (case ke => exact fun _ => rfl))) (by walk_at "mine takes") (by walk_at "mine locals") (by decide) ?_; k_whole)
  rintro g L' h' ⟨F', N', B', X', T', G', l1, st'⟩
  have c1' := c1.keeps st'
  have c2' := c2.keeps st'
  have hvl := hi.length
  clear B F N X T hf c1 c2 st'
  k_lt l1
  dsimp only [Run]
  k_unmd
  k_fold
  k_steps
  k_dflt (refine' kl_insert ?F ?N (fits_cnt hlen) rfl ?U ?z ?_; (case F => k_asm); (case N => k_asm); (case U => k_upd); (case z => (rw [PySem.sizeLine_eq]; simp only []; omega)); k_whole)
  intro h' F' N'
  k_steps
  exact ret _ _ _ _ (Keep.of G' F') (N'.get (.head _)) (ints_ins hi)


set_option maxHeartbeats 4000000 in
theorem insL {w : World} {A : Around} {s : Shared} {Q E : Value → Shared → Prop} {l : Addr} {vs : List Value} {ns : List Int} {n : Nat} {x : Int} {tx : Tok}
    (H : Here w A 25 250 s [(l, listOf vs.toArray n)]) (hi : IntsAre vs ns) (hlen : ns.length < 900) (hD : Down (fun y => decide (y < x)) ns)
    (ret : ∀ vs' n' h' tk', Keep [l] s.heap h' → h'.get? l = some (listOf vs'.toArray n') → IntsAre vs' (ns.take (cnt (fun y => decide (y < x)) ns).toNat ++ x :: ns.drop (cnt (fun y => decide (y < x)) ns).toNat) → Q .none { s with heap := h', toks := tk' }) :
    wpAny (model PySem.Challenge.rw_wf0065_01.row.prog w) A (call (.ref 41) [.ref l, .int x tx]) Q E s := by
  obtain ⟨dp, un, gd, env, outer, A₀, base, h₀, L, m, mg, mb, p, loose, mean, rfl, B, F, N, X, T, hf, hke, hdp, hun, c1, c2⟩ := H
  revert X; k_fill; intro X
  refine wpAny_call ?_
  k_dflt (refine' enterH (binds := [(Str.ofString "a", .ref l), (Str.ofString "x", .int x tx), (Str.ofString "lo", .int 0 216), (Str.ofString "hi", .none), (Str.ofString "key", .none)]) ⟨B, F, X, N, T, rfl, hf, hke⟩ (by walk_at "mine def") (by walk_at "mine def") (by (refine' kp_binds ?kx ?ke; (case kx => k_in); (case ke => exact fun _ => rfl))) (by walk_at "mine takes") (by walk_at "mine locals") (by decide) ?_; k_whole)
  rintro g L' h' ⟨F', N', B', X', T', G', l1, st'⟩
  have c1' := c1.keeps st'
  have c2' := c2.keeps st'
  have hvl := hi.length
  clear B F N X T hf c1 c2 st'
  k_lt l1
  dsimp only [Run]
  k_unmd
  k_fold
  k_steps
  k_dflt (refine' kl_insert ?F ?N (fits_cnt hlen) rfl ?U ?z ?_; (case F => k_asm); (case N => k_asm); (case U => k_upd); (case z => (rw [PySem.sizeLine_eq]; simp only []; omega)); k_whole)
  intro h' F' N'
  k_steps
  exact ret _ _ _ _ (Keep.of G' F') (N'.get (.head _)) (ints_ins hi)

theorem upd_back {h₀ h h' : Heap} {L a : Addr} {m : Str → Option Value} {news news' : List (Addr × Obj)} {o o' : Obj} (F : Fr h₀ L h m) (N : News h₀ L h news) (U : Upd a o o' news news') (k : Keep [a] h h') (e : h'.get? a = some o') :
    Fr h₀ L h' m ∧ News h₀ L h' news' := by
  obtain ⟨pre, post, rfl, rfl, n1, n2⟩ := U.split
  have ⟨_, nL, z⟩ := N (a, o) (by simp)
  have rest := k.made (news := pre ++ post) (fun p hp => N p ((List.mem_append.mp hp).elim (List.mem_append_left _) fun q => List.mem_append_right _ (.tail _ q))) fun p hp => not_one ((List.mem_append.mp hp).elim (n1 p) (n2 p))
  refine ⟨k.fr F (not_one nL.symm) fun b q => List.mem_singleton.mp q ▸ z, fun p hp => ?_⟩
  simp only [List.mem_append, List.mem_cons] at hp
  rcases hp with q | rfl | q
  · exact rest p (List.mem_append_left _ q)
  · exact ⟨e, nL, z⟩
  · exact rest p (List.mem_append_right _ q)
local macro_rules | `(tactic| walk_at "mine upd") => `(tactic| ((rename Keep [_] _ _ => kp9); (rename Heap.get? _ _ = some (listOf _ _) => gt9); (try dsimp only at kp9); (have FN9 := upd_back (by k_asm) (by k_asm) (by k_upd) kp9 gt9); (have F9 := FN9.1); (have N9 := FN9.2); clear FN9 kp9 gt9; (try k_sweep); (try dsimp only); (try k_fold)))
theorem new_back {h₀ h h' : Heap} {L a : Addr} {m : Str → Option Value} {news : List (Addr × Obj)} {o : Obj} (F : Fr h₀ L h m) (N : News h₀ L h news) (k : Keep [] h h') (f : h.get? a = none) (e : h'.get? a = some o) :
    Fr h₀ L h' m ∧ News h₀ L h' ((a, o) :: news) := by
  refine ⟨F.keeps k.all, fun p hp => ?_⟩
  rcases List.mem_cons.mp hp with rfl | hp
  · refine ⟨e, fun q => ?_, ?_⟩
    · obtain ⟨oL, es, ep, hL, r⟩ := F.ns
      have q : a = L := q
      rw [← q, f] at hL; cases hL
    · cases q : h₀.get? a with
      | none => rfl
      | some x => have := F.keep _ _ q; rw [f] at this; cases this
  · exact ⟨k.all _ _ (N p hp).1, (N p hp).2⟩
def AllNe (d : Nat) : List (Addr × Obj) → Prop
  | [] => True
  | p :: r => @Ne Nat p.1 d ∧ AllNe d r
theorem allNe_of {h : Heap} {a : Addr} (f : h.get? a = none) : ∀ {l : List (Addr × Obj)}, (∀ p ∈ l, h.get? p.1 = some p.2) → AllNe a l
  | [], _ => trivial
  | p :: _, k => ⟨fun q => (by have := k p (.head _); rw [show p.1 = a from q, f] at this; cases this), allNe_of f fun q hq => k q (.tail _ hq)⟩
theorem new_off {h₀ h : Heap} {L a : Addr} {news : List (Addr × Obj)} (N : News h₀ L h news) (f : h.get? a = none) : AllNe a news := allNe_of f fun p hp => (N p hp).1
theorem Keep.fresh {adr : List Addr} {h g h' : Heap} {L a : Addr} {news : List (Addr × Obj)} {o : Obj} (G : GSub h g adr) (N : News g L h' news) (hm : (a, o) ∈ news) (ha : a ∉ adr) : h.get? a = none := by
  cases q : h.get? a with
  | none => rfl
  | some x => have := (N _ hm).2.2; rw [G _ _ q ha] at this; cases this
local macro_rules | `(tactic| walk_at "mine new") => `(tactic| ((rename Keep [] _ _ => kp9); (rename Heap.get? _ _ = none => fr9); (rename Heap.get? _ _ = some (listOf _ _) => gt9); (try dsimp only at kp9); (try dsimp only at fr9); (have A9 := new_off (by k_asm) fr9); (simp only [AllNe, and_true] at A9); (have FN9 := new_back (by k_asm) (by k_asm) kp9 fr9 gt9); (have F9 := FN9.1); (have N9 := FN9.2); clear FN9 kp9 gt9 fr9; (try k_sweep); (try dsimp only); (try k_fold)))

theorem at_row : True := by
  w_top off
  k_with_none
  trivial
/-- the key of a number drawn -/
def keyOf (n : Int) : Int := Builtin.bitOr (n.fmod 8 * 2 ^ (40 : Int).toNat) (n.fdiv 8)
def insAt (p : Int → Bool) (row : List Int) (k : Int) : List Int := row.take (cnt p row).toNat ++ k :: row.drop (cnt p row).toNat
def insKey (row : List Int) (k : Int) : List Int :=
  if cnt (fun y => decide (y < k)) row = cnt (fun y => decide (y ≤ k)) row then insAt (fun y => decide (y ≤ k)) row k else row
def rowOf (ns : List Int) : List Int := (ns.map keyOf).foldl insKey []

def Rising (ns : List Int) : Prop := ns.Pairwise (· < ·)
theorem getD_lt {ns : List Int} (h : Rising ns) {i j : Nat} (hij : i < j) (hj : j < ns.length) : ns.getD i 0 < ns.getD j 0 := by
  have hi : i < ns.length := by omega
  simpa [List.getD_eq_getElem?_getD, hi, hj] using List.pairwise_iff_getElem.mp h i j hi hj hij
theorem getD_le {ns : List Int} (h : Rising ns) {i j : Nat} (hij : i ≤ j) (hj : j < ns.length) : ns.getD i 0 ≤ ns.getD j 0 := by
  rcases Nat.lt_or_eq_of_le hij with q | q
  · exact Int.le_of_lt (getD_lt h q hj)
  · rw [q]; exact Int.le_refl _
theorem down_le {ns : List Int} (h : Rising ns) (x : Int) : Down (fun y => decide (y ≤ x)) ns := fun i j hij hj q => by
  have := getD_le h hij hj
  simp only [decide_eq_true_eq] at q ⊢
  omega
theorem down_lt {ns : List Int} (h : Rising ns) (x : Int) : Down (fun y => decide (y < x)) ns := fun i j hij hj q => by
  have := getD_le h hij hj
  simp only [decide_eq_true_eq] at q ⊢
  omega
theorem cnt_split {p : Int → Bool} {ns : List Int} (D : Down p ns) : (∀ y ∈ ns.take (cnt p ns).toNat, p y = true) ∧ (∀ y ∈ ns.drop (cnt p ns).toNat, p y = false) := by
  induction ns with
  | nil => simp
  | cons n r ih =>
    have Dr : Down p r := fun i j hij hj q => by simpa using D (i + 1) (j + 1) (by omega) (by simpa using hj) (by simpa using q)
    obtain ⟨h1, h2⟩ := ih Dr
    cases hn : p n with
    | true =>
      have e : (cnt p (n :: r)).toNat = (cnt p r).toNat + 1 := by unfold cnt; rw [List.countP_cons, hn]; simp
      rw [e]
      refine ⟨fun y hy => ?_, fun y hy => h2 y (by simpa using hy)⟩
      rw [List.take_succ_cons] at hy
      rcases List.mem_cons.mp hy with rfl | hy
      · exact hn
      · exact h1 y hy
    | false =>
      have no : ∀ y ∈ r, p y = false := fun y hy => by
        obtain ⟨i, hi, rfl⟩ := List.getElem_of_mem hy
        cases q : p r[i] with
        | false => rfl
        | true =>
          have := D 0 (i + 1) (Nat.zero_le _) (by simpa using hi) (by simpa [List.getD_eq_getElem?_getD, hi] using q)
          simp at this
          rw [hn] at this; cases this
      have e : cnt p (n :: r) = 0 := by
        unfold cnt
        rw [List.countP_eq_zero.mpr]
        · rfl
        · intro y hy
          rcases List.mem_cons.mp hy with rfl | hy
          · rw [hn]; exact Bool.false_ne_true
          · rw [no y hy]; exact Bool.false_ne_true
      rw [e]
      refine ⟨fun y hy => by simp at hy, fun y hy => ?_⟩
      rcases List.mem_cons.mp hy with rfl | hy
      · exact hn
      · exact no y hy
theorem insAt_mem {p : Int → Bool} {row : List Int} {k y : Int} : y ∈ insAt p row k ↔ y = k ∨ y ∈ row := by
  unfold insAt
  rw [List.mem_append, List.mem_cons]
  constructor
  · rintro (h | h | h)
    · exact .inr (List.mem_of_mem_take h)
    · exact .inl h
    · exact .inr (List.mem_of_mem_drop h)
  · rintro (h | h)
    · exact .inr (.inl h)
    · rw [← List.take_append_drop (cnt p row).toNat row] at h
      rcases List.mem_append.mp h with h | h
      · exact .inl h
      · exact .inr (.inr h)
theorem insAt_rising {p : Int → Bool} {row : List Int} {k : Int} (h : Rising row) (D : Down p row) (h1 : ∀ y ∈ row, p y = true → y < k) (h2 : ∀ y ∈ row, p y = false → k < y) : Rising (insAt p row k) := by
  obtain ⟨c1, c2⟩ := cnt_split D
  unfold insAt Rising
  rw [List.pairwise_append, List.pairwise_cons]
  refine ⟨List.Pairwise.sublist (List.take_sublist _ _) h, ⟨fun y hy => h2 y (List.mem_of_mem_drop hy) (c2 y hy), List.Pairwise.sublist (List.drop_sublist _ _) h⟩, fun a ha b hb => ?_⟩
  have hak := h1 a (List.mem_of_mem_take ha) (c1 a ha)
  rcases List.mem_cons.mp hb with rfl | hb
  · exact hak
  · have := h2 b (List.mem_of_mem_drop hb) (c2 b hb); omega
theorem cnt_eq_iff {row : List Int} {k : Int} : cnt (fun y => decide (y < k)) row = cnt (fun y => decide (y ≤ k)) row ↔ k ∉ row := by
  unfold cnt
  induction row with
  | nil => simp
  | cons n r ih =>
    have mono : r.countP (fun y => decide (y < k)) ≤ r.countP (fun y => decide (y ≤ k)) := List.countP_mono_left fun y _ h => by simp only [decide_eq_true_eq] at h ⊢; omega
    rw [List.countP_cons, List.countP_cons, List.mem_cons, not_or]
    rw [Int.ofNat_inj] at ih ⊢
    rcases Int.lt_trichotomy n k with h | h | h
    · simp [h, Int.le_of_lt h, ih]; omega
    · subst h; simp; omega
    · have h1 : ¬ n < k := by omega
      have h2 : ¬ n ≤ k := by omega
      simp [h1, h2, ih]; omega
theorem insKey_rising {row : List Int} {k : Int} (h : Rising row) : Rising (insKey row k) := by
  unfold insKey
  split
  · rename_i c
    have nk := cnt_eq_iff.mp c
    refine insAt_rising h (down_le h k) (fun y hy q => ?_) (fun y hy q => ?_)
    · have : y ≠ k := fun e => nk (e ▸ hy)
      simp only [decide_eq_true_eq] at q; omega
    · simp only [decide_eq_false_iff_not] at q; omega
  · exact h
theorem insKey_mem {row : List Int} {k y : Int} : y ∈ insKey row k ↔ y = k ∨ y ∈ row := by
  unfold insKey
  split
  · exact insAt_mem
  · rename_i c
    have hk : k ∈ row := Classical.byContradiction fun q => c (cnt_eq_iff.mpr q)
    constructor
    · exact .inr
    · rintro (rfl | h)
      · exact hk
      · exact h
theorem insKey_length {row : List Int} {k : Int} : (insKey row k).length ≤ row.length + 1 := by
  unfold insKey insAt
  split
  · rw [List.length_append, List.length_cons, List.length_take, List.length_drop]; omega
  · omega
theorem rows_rising : ∀ (ks row : List Int), Rising row → Rising (ks.foldl insKey row)
  | [], _, h => h
  | k :: r, _, h => rows_rising r _ (insKey_rising h)
theorem rows_mem {y : Int} : ∀ (ks row : List Int), y ∈ ks.foldl insKey row ↔ y ∈ ks ∨ y ∈ row
  | [], _ => by simp
  | k :: r, row => by
    rw [List.foldl_cons, rows_mem r, insKey_mem, List.mem_cons]
    constructor
    · rintro (h | h | h) <;> simp [h]
    · rintro ((h | h) | h) <;> simp [h]
theorem rowOf_rising (ns : List Int) : Rising (rowOf ns) := rows_rising _ _ .nil
theorem rowOf_mem {ns : List Int} {y : Int} : y ∈ rowOf ns ↔ ∃ n ∈ ns, keyOf n = y := by
  unfold rowOf
  rw [rows_mem]
  simp

def RowInv (pre row : List Int) : Prop := row = rowOf pre
theorem RowInv.rising {pre row : List Int} (h : RowInv pre row) : Rising row := by rw [show row = _ from h]; exact rowOf_rising _
theorem rowInv_nil : RowInv [] [] := rfl
theorem rowInv_step {pre row : List Int} {n : Int} (h : RowInv pre row) : RowInv (pre ++ [n]) (insKey row (keyOf n)) := by
  unfold RowInv rowOf at *
  rw [List.map_append, List.foldl_append, ← h]
  rfl
theorem row_ins {pre row : List Int} {n : Int} (h : RowInv pre row) (hl : row.length ≤ pre.length) (c : cnt (fun y => decide (y < keyOf n)) row = cnt (fun y => decide (y ≤ keyOf n)) row) :
    (row.take (cnt (fun y => decide (y ≤ keyOf n)) row).toNat ++ keyOf n :: row.drop (cnt (fun y => decide (y ≤ keyOf n)) row).toNat).length ≤ (pre ++ [n]).length ∧ RowInv (pre ++ [n]) (row.take (cnt (fun y => decide (y ≤ keyOf n)) row).toNat ++ keyOf n :: row.drop (cnt (fun y => decide (y ≤ keyOf n)) row).toNat) := by
  have r := rowInv_step (n := n) h
  have l := insKey_length (row := row) (k := keyOf n)
  unfold insKey at r l
  rw [if_pos c] at r l
  exact ⟨by rw [List.length_append (as := pre)]; exact Nat.le_trans l (by simp; omega), r⟩
theorem row_skip {pre row : List Int} {n : Int} (h : RowInv pre row) (hl : row.length ≤ pre.length) (c : ¬ cnt (fun y => decide (y < keyOf n)) row = cnt (fun y => decide (y ≤ keyOf n)) row) :
    row.length ≤ (pre ++ [n]).length ∧ RowInv (pre ++ [n]) row := by
  have r := rowInv_step (n := n) h
  unfold insKey at r
  rw [if_neg c] at r
  exact ⟨by rw [List.length_append]; omega, r⟩
local macro_rules | `(tactic| walk_at "mine down") => `(tactic| first | exact down_le (by assumption) _ | exact down_lt (by assumption) _ | exact down_le (RowInv.rising (by assumption)) _ | exact down_lt (RowInv.rising (by assumption)) _)

set_option maxHeartbeats 4000000 in
theorem rowC {w : World} {A : Around} {s : Shared} {Q E : Value → Shared → Prop} {l : Addr} {vs : List Value} {ns : List Int}
    (H : Here w A 30 300 s []) (hl : s.heap.IsList l vs.toArray) (hi : IntsAre vs ns) (hlen : ns.length < 800)
    (ret : ∀ r vs' n' h' tk', Keep [] s.heap h' → s.heap.get? r = none → h'.get? r = some (listOf vs'.toArray n') → IntsAre vs' (rowOf ns) → Q (.ref r) { s with heap := h', toks := tk' }) :
    wpAny (model PySem.Challenge.rw_wf0065_01.row.prog w) A (call (.ref 169) [.ref l]) Q E s := by
  obtain ⟨dp, un, gd, env, outer, A₀, base, h₀, L, m, mg, mb, p, loose, mean, rfl, B, F, N, X, T, hf, hke, hdp, hun, c1, c2⟩ := H
  revert X; k_fill; intro X
  refine wpAny_call ?_
  k_dflt (refine' enterH (binds := [(Str.ofString "draws", .ref l)]) ⟨B, F, X, N, T, rfl, hf, hke⟩ (by walk_at "mine def") (by walk_at "mine def") (by walk_at "mine binds") (by walk_at "mine takes") (by walk_at "mine locals") (by decide) ?_; k_whole)
  rintro g L' h' ⟨F', N', B', X', T', G', l1, st'⟩
  have hl' : g.IsList l vs.toArray := let ⟨o, ho, r⟩ := hl; ⟨o, G' l o ho List.not_mem_nil, r⟩
  have c1' := c1.keeps st'
  have c2' := c2.keeps st'
  have hvl := hi.length
  clear hl B F N X T hf c1 c2 st'
  dsimp only [Run]
  k_unmd
  k_fold
  k_with "mine call" => (k_dflt (refine' insR ?insR_H ?insR_hi ?insR_hlen ?insR_hD ?_; (case insR_H => walk_at "mine here"); (case insR_hi => assumption); (case insR_hlen => omega); (case insR_hD => walk_at "mine down"); k_whole); intro vs9 n9 h9 tk9 k9 g9 i9; walk_at "mine upd")
  k_with "pyIter ref" => k_state (fun pre row => row.length ≤ pre.length ∧ RowInv pre row) "row"
  k_with "state" => first
    | exact ⟨Nat.le_refl _, rowInv_nil⟩
    | exact row_ins (by assumption) (by assumption) (by assumption)
    | exact row_skip (by assumption) (by assumption) (by assumption)
  k_steps
  k_with_none
  (try dsimp only)
  (try k_unfold)
  dsimp only [Back]
  have rI : _ = rowOf ns := (by assumption : RowInv ns _)
  subst rI
  exact ret _ _ _ _ _ (Keep.of G' (by assumption)) (Keep.fresh G' (by assumption) (.head _) List.not_mem_nil) (News.get (by assumption) (.head _)) (by assumption)

theorem at_marks : True := by
  w_top off
  k_with_none
  trivial
section
variable {prog : Program} {w : World} {A : Around} {E : Value → Shared → Prop} {s : Shared} {env : Env} {h₀ : Heap} {xi xc : Str} {body : List Stmt} {Q : Flow → Shared → Prop}
theorem list_off {l : Addr} {its : Array Value} {L : Addr} {h : Heap} {m : Str → Option Value} (hl : h.IsList l its) (F : Fr h₀ L h m) : l ≠ L := fun q => by
  obtain ⟨o, e, hc, n, hd⟩ := hl
  obtain ⟨oL, es, ep, hL, hd', _⟩ := F.ns
  rw [q, hL] at e; cases e
  rw [hd] at hd'; cases hd'
theorem list_lt {l : Addr} {its : Array Value} {h : Heap} (hl : h.IsList l its) : l < h.objs.size := hl.elim fun _ x => Heap.lt_size x.1
/-- what zip makes is new -/
theorem zip_made {n b : Nat} (z : b ∈ [n + 4, n + 3, n, n + 1]) : n ≤ b := by
  simp only [List.mem_cons, List.not_mem_nil, or_false] at z
  omega
theorem zip_not {n b l1 l2 : Nat} (old : b < n) (h1 : b ≠ l1) (h2 : b ≠ l2) : b ∉ [n + 4, n + 2, n + 3, n, n + 1, l1, l2] := by
  simp only [List.mem_cons, List.not_mem_nil, or_false]
  omega
/-- a loop over zip of two lists of ints, by what holds of its whole state -/
theorem zip_state {σ : Type} {l1 l2 : Addr} {vs₁ vs₂ : List Value} {as bs : List Int} {m₀ : Str → Option Value} (g : Int → Int → Int) (Led : σ → List (Addr × Obj)) (ps : σ → List (Str × Value)) (Facts : σ → Prop) (stored : List Str) (P : List Int → σ → Prop) (c₀ : σ)
    (hh : A.handled = none) (hl1 : s.heap.IsList l1 vs₁.toArray) (hl2 : s.heap.IsList l2 vs₂.toArray) (hi1 : IntsAre vs₁ as) (hi2 : IntsAre vs₂ bs) (F : Fr h₀ env.locals s.heap m₀) (N : News h₀ env.locals s.heap (Led c₀))
    (hn1 : ∀ q ∈ Led c₀, l1 ≠ q.1) (hn2 : ∀ q ∈ Led c₀, l2 ≠ q.1) (hf : Facts c₀) (hk : ∀ p ∈ ps c₀, m₀ p.1 = some p.2) (hp : P [] c₀)
    (turn : ∀ (c : σ) pre post a b ta tb (u : Str → Option Value) h tk own, as.zip bs = pre ++ (a, b) :: post → OwnOff own ((Led c₀).map (·.1)) → Facts c → P (pre.map fun q => g q.1 q.2) c →
      Fr h₀ env.locals h (fun y => if y = xc then some (.int b tb) else if y = xi then some (.int a ta) else kstB (fun z => if stored.contains z then u z else m₀ z) (ps c) y) → News h₀ env.locals h (Led c ++ own) →
      wpAny (model prog w) A (execs body env) (InvPostN h₀ env.locals (KstS Led ps Facts xc stored m₀ P ((pre.map fun q => g q.1 q.2) ++ [g a b])) own ((Led c₀).map (·.1)) { s with heap := h, toks := tk } Q) E { s with heap := h, toks := tk })
    (done : ∀ (c : σ) (u : Str → Option Value) h tk, Facts c → P ((as.zip bs).map fun q => g q.1 q.2) c → Fr h₀ env.locals h (fun y => if y = xc then u y else kstB (fun z => if stored.contains z then u z else m₀ z) (ps c) y) → News h₀ env.locals h (Led c) → Q .next { s with heap := h, toks := tk }) :
    wpAny (model prog w) A (call (.type "zip") [.ref l1, .ref l2]) (fun xv s₁ => wpAny (model prog w) A (pyIter xv) (fun it s₂ => PairAt3 prog w A h₀ env xi xc body Q E it s₂) E s₁) E s := by
  have lL := F.ns.lt
  have lt : ∀ q ∈ Led c₀, q.1 < s.heap.objs.size := fun q hq => Heap.lt_size (N q hq).1
  refine call_zip_2 hl1 hl2 fun h' hz hTI hTO hit1 hit2 _ up => ?_
  have S : PairSrc2 prog w A E h₀ env ItemKind.int ItemKind.int as bs (.ref (s.heap.objs.size + 4)) { s with heap := h' } m₀ (Led c₀) :=
    zipSrc hh (zipApart_new (list_lt hl1) (list_lt hl2)) ⟨hz, hTI, ⟨_, _, hTO⟩, hit1, hit2, hl1.at fun o e => up l1 o e, hl2.at fun o e => up l2 o e⟩ hi1.areOf hi2.areOf
      (zip_not lL (list_off hl1 F).symm (list_off hl2 F).symm) (fun b z => Heap.get?_none_of_le (Nat.le_trans F.above (Nat.le_trans (Nat.le_of_lt lL) (zip_made z)))) (fun q hq z => Nat.not_lt.mpr (zip_made z) (lt q hq))
      (fun b z q hq e => zip_not (lt q hq) (hn1 q hq).symm (hn2 q hq).symm (e ▸ z)) (F.keeps up) (N.grown up)
  refine S xi xc body Q (fun i m nx => KstS Led ps Facts xc stored m₀ P (((as.zip bs).take i).map fun q => g q.1 q.2) m nx) ⟨c₀, rfl, hf, hk, fun _ _ _ _ => rfl, by simpa using hp⟩ ?_ ?_
  · rintro i a b va vb m₁ nx s₁ own ⟨h, tk, rfl⟩ ha hb ka kb ⟨c, rfl, hf', h1, h2, hp'⟩ hmap hoff F₁ N₁
    obtain ⟨ta, rfl⟩ := ItemKind.int_is ka
    obtain ⟨tb, rfl⟩ := ItemKind.int_is kb
    obtain ⟨hs, e⟩ := cut_at (zip_get ha hb)
    have em : (fun y => if y = xc then some (Value.int b tb) else if y = xi then some (Value.int a ta) else m₁ y) = (fun y => if y = xc then some (Value.int b tb) else if y = xi then some (Value.int a ta) else kstB (fun z => if stored.contains z then m₁ z else m₀ z) (ps c) y) := by
      funext y
      by_cases hy : y = xc
      · rw [if_pos hy, if_pos hy]
      · rw [if_neg hy, if_neg hy, kst_off h1 h2 hy]
    rw [em] at F₁
    rw [hs, List.map_append]
    have N₂ : News h₀ env.locals h (Led c ++ own) := fun p hp => N₁ p (List.mem_append.mpr (List.mem_append.mp hp).symm)
    refine wpAny_mono (turn c _ _ a b ta tb m₁ h tk own e (fun p hp x hx => ?_) hf' hp' F₁ N₂) (fun f s₂ p => ?_) fun _ _ x => x
    · obtain ⟨q, hq, rfl⟩ := List.mem_map.mp hx
      exact hoff p hp q hq
    · have up : InvEndN h₀ env.locals (KstS Led ps Facts xc stored m₀ P ((((as.zip bs).take i).map fun q => g q.1 q.2) ++ [g a b])) own ((Led c₀).map (·.1)) { s with heap := h, toks := tk } s₂ →
          LoopStep2 h₀ env.locals own (Led c) (fun m nx => KstS Led ps Facts xc stored m₀ P ((((as.zip bs).take i).map fun q => g q.1 q.2) ++ [g a b]) m nx) { s with heap := h, toks := tk } .next s₂ := by
        rintro ⟨h', tk', m', news', nx', e', F', N', hn', ho', ha', hS⟩
        exact ⟨rfl, h', tk', m', nx', e', F', fun p hp => N' p ((List.mem_append.mp hp).elim (ho' p) (hn' p)), ha'.trans hmap.symm, hS⟩
      cases f with
      | ret v => exact p
      | brk => exact p
      | next => exact up p
      | cont => exact up p
  · rintro h tk m₁ nx F₁ N₁ _ ⟨c, rfl, hf', h1, h2, hp'⟩
    rw [List.take_length] at hp'
    exact done c m₁ h tk hf' hp' (kst_frOut h1 h2 F₁) N₁
/-- the same where one list of ints is all that turns -/
theorem zip_list {l1 l2 ml : Addr} {vs₁ vs₂ : List Value} {as bs : List Int} {m₀ : Str → Option Value} {news : List (Addr × Obj)} (y : Str) (g : Int → Int → Int) (stored : List Str) (P : List Int → List Int → Prop)
    (hm : m₀ y = some (.ref ml)) (hh : A.handled = none) (hl1 : s.heap.IsList l1 vs₁.toArray) (hl2 : s.heap.IsList l2 vs₂.toArray) (hi1 : IntsAre vs₁ as) (hi2 : IntsAre vs₂ bs) (F : Fr h₀ env.locals s.heap m₀) (N : News h₀ env.locals s.heap news)
    (hmem : (ml, listOf #[] 0) ∈ news) (hn1 : l1 ≠ ml) (hn2 : l2 ≠ ml) (hp : P [] [])
    (turn : ∀ (us : List Value) (ks : List Int) (n : Nat) pre post a b ta tb (u : Str → Option Value) h tk own, as.zip bs = pre ++ (a, b) :: post → OwnOff own [ml] → IntsAre us ks → P (pre.map fun q => g q.1 q.2) ks →
      Fr h₀ env.locals h (fun y => if y = xc then some (.int b tb) else if y = xi then some (.int a ta) else if stored.contains y then u y else m₀ y) → News h₀ env.locals h ((ml, listOf us.toArray n) :: own) → KstMark →
      wpAny (model prog w) A (execs body env) (InvPostN h₀ env.locals (KstS (fun c : List Value × List Int × Nat => [(ml, listOf c.1.toArray c.2.2)]) (fun _ => []) (fun c => IntsAre c.1 c.2.1) xc stored m₀ (fun pre c => P pre c.2.1) ((pre.map fun q => g q.1 q.2) ++ [g a b])) own [ml] { s with heap := h, toks := tk } Q) E { s with heap := h, toks := tk })
    (done : ∀ (us : List Value) (ks : List Int) (n : Nat) (u : Str → Option Value) h tk, IntsAre us ks → P ((as.zip bs).map fun q => g q.1 q.2) ks → Fr h₀ env.locals h (fun y => if y = xc then u y else if stored.contains y then u y else m₀ y) → News h₀ env.locals h [(ml, listOf us.toArray n)] → Q .next { s with heap := h, toks := tk }) :
    wpAny (model prog w) A (call (.type "zip") [.ref l1, .ref l2]) (fun xv s₁ => wpAny (model prog w) A (pyIter xv) (fun it s₂ => PairAt3 prog w A h₀ env xi xc body Q E it s₂) E s₁) E s :=
  have _ := hm
  zip_state g (fun c : List Value × List Int × Nat => [(ml, listOf c.1.toArray c.2.2)]) (fun _ => []) (fun c => IntsAre c.1 c.2.1) stored (fun pre c => P pre c.2.1) ([], [], 0) hh hl1 hl2 hi1 hi2 F
    (fun p hp => by rw [List.mem_singleton.mp hp]; exact N _ hmem) (fun q hq => by rw [List.mem_singleton.mp hq]; exact hn1) (fun q hq => by rw [List.mem_singleton.mp hq]; exact hn2) .nil (fun _ h => nomatch h) hp
    (fun c pre post a b ta tb u h tk own e ho hf hp' F' N' => turn c.1 c.2.1 c.2.2 pre post a b ta tb u h tk own e ho hf hp' F' N' kstMark)
    (fun c u h tk hf hp' F' N' => done c.1 c.2.1 c.2.2 u h tk hf hp' F' N')
theorem base_off {h₀ h : Heap} {L l r : Addr} {its : Array Value} {o : Obj} {news : List (Addr × Obj)} (hl : h₀.IsList l its) (N : News h₀ L h news) (hm : (r, o) ∈ news) : l ≠ r := fun q => by
  obtain ⟨x, e, _⟩ := hl
  rw [q, (N _ hm).2.2] at e; cases e
end
local macro_rules | `(tactic| walk_at "call type:zip") => `(tactic| (k_here; k_extra "zip"))

/-- the highest place, to the base 2, at which two numbers differ -/
def markOf (a b : Int) : Int := (Builtin.Int.intBits (Builtin.bitXor a b) : Int) - 1
def insMark (ks : List Int) (k : Int) : List Int := if (ks.any fun x => x == k) = true then ks else insAt (fun y => decide (y < k)) ks k
def MarkInv (pre ks : List Int) : Prop := ks = pre.foldl insMark []
/-- the marks of a row -/
def marksOf (ns : List Int) : List Int := ((ns.zip (ns.drop 1)).map fun q => markOf q.1 q.2).foldl insMark []
theorem any_false {ks : List Int} {k : Int} (c : (ks.any fun x => x == k) = false) : k ∉ ks := fun q => by
  rw [List.any_eq_false] at c
  exact c k q (by simp)
theorem insMark_rising {ks : List Int} {k : Int} (h : Rising ks) : Rising (insMark ks k) := by
  unfold insMark
  split
  · exact h
  · rename_i c
    have nk := any_false ((Bool.not_eq_true _).mp c)
    refine insAt_rising h (down_lt h k) (fun y hy q => by simpa using q) (fun y hy q => ?_)
    have : y ≠ k := fun e => nk (e ▸ hy)
    simp only [decide_eq_false_iff_not] at q; omega
theorem insMark_mem {ks : List Int} {k y : Int} : y ∈ insMark ks k ↔ y = k ∨ y ∈ ks := by
  unfold insMark
  split
  · rename_i c
    obtain ⟨x, hx, e⟩ := List.any_eq_true.mp c
    have e : x = k := by simpa using e
    subst e
    constructor
    · exact .inr
    · rintro (rfl | h)
      · exact hx
      · exact h
  · exact insAt_mem
theorem insMark_length {ks : List Int} {k : Int} : (insMark ks k).length ≤ ks.length + 1 := by
  unfold insMark insAt
  split
  · omega
  · rw [List.length_append, List.length_cons, List.length_take, List.length_drop]; omega
theorem marks_rising : ∀ (pre ks : List Int), Rising ks → Rising (pre.foldl insMark ks)
  | [], _, h => h
  | k :: r, _, h => marks_rising r _ (insMark_rising h)
theorem marks_mem {y : Int} : ∀ (pre ks : List Int), y ∈ pre.foldl insMark ks ↔ y ∈ pre ∨ y ∈ ks
  | [], _ => by simp
  | k :: r, ks => by
    rw [List.foldl_cons, marks_mem r, insMark_mem, List.mem_cons]
    constructor
    · rintro (h | h | h) <;> simp [h]
    · rintro ((h | h) | h) <;> simp [h]
theorem marks_length : ∀ (pre ks : List Int), (pre.foldl insMark ks).length ≤ ks.length + pre.length
  | [], _ => by simp
  | k :: r, ks => by
    have h1 := marks_length r (insMark ks k)
    have h2 := insMark_length (ks := ks) (k := k)
    rw [List.foldl_cons, List.length_cons]; omega
theorem marksOf_rising (ns : List Int) : Rising (marksOf ns) := marks_rising _ _ .nil
theorem marksOf_length (ns : List Int) : (marksOf ns).length ≤ ns.length - 1 := by
  have h := marks_length ((ns.zip (ns.drop 1)).map fun q => markOf q.1 q.2) []
  unfold marksOf
  rw [List.length_map, List.length_zip, List.length_drop, List.length_nil] at h
  omega
theorem MarkInv.rising {pre ks : List Int} (h : MarkInv pre ks) : Rising ks := by rw [show ks = _ from h]; exact marks_rising _ _ .nil
theorem markInv_step {pre ks : List Int} {k : Int} (h : MarkInv pre ks) : MarkInv (pre ++ [k]) (insMark ks k) := by
  unfold MarkInv at *
  rw [List.foldl_append, ← h]
  rfl
theorem mark_ins {pre ks : List Int} {a b : Int} (h : MarkInv pre ks) (hl : ks.length ≤ pre.length) (c : (ks.any fun x => x == (Builtin.Int.intBits (Builtin.bitXor a b) : Int) - 1) = false) :
    (ks.take (cnt (fun y => decide (y < (Builtin.Int.intBits (Builtin.bitXor a b) : Int) - 1)) ks).toNat ++ ((Builtin.Int.intBits (Builtin.bitXor a b) : Int) - 1) :: ks.drop (cnt (fun y => decide (y < (Builtin.Int.intBits (Builtin.bitXor a b) : Int) - 1)) ks).toNat).length ≤ (pre ++ [markOf a b]).length ∧
    MarkInv (pre ++ [markOf a b]) (ks.take (cnt (fun y => decide (y < (Builtin.Int.intBits (Builtin.bitXor a b) : Int) - 1)) ks).toNat ++ ((Builtin.Int.intBits (Builtin.bitXor a b) : Int) - 1) :: ks.drop (cnt (fun y => decide (y < (Builtin.Int.intBits (Builtin.bitXor a b) : Int) - 1)) ks).toNat) := by
  have r := markInv_step (k := markOf a b) h
  have l := insMark_length (ks := ks) (k := markOf a b)
  unfold insMark markOf at r l
  rw [if_neg (by rw [c]; exact Bool.false_ne_true)] at r l
  exact ⟨by rw [List.length_append (as := pre)]; exact Nat.le_trans l (by simp; omega), r⟩
theorem mark_skip {pre ks : List Int} {a b : Int} (h : MarkInv pre ks) (hl : ks.length ≤ pre.length) (c : (ks.any fun x => x == (Builtin.Int.intBits (Builtin.bitXor a b) : Int) - 1) = true) :
    ks.length ≤ (pre ++ [markOf a b]).length ∧ MarkInv (pre ++ [markOf a b]) ks := by
  have r := markInv_step (k := markOf a b) h
  unfold insMark markOf at r
  rw [if_pos c] at r
  exact ⟨by rw [List.length_append]; omega, r⟩
theorem zip_len {ns ms : List Int} {pre post : List (Int × Int)} {x : Int × Int} (e : ns.zip ms = pre ++ x :: post) : pre.length < ns.length := by
  have h := congrArg List.length e
  rw [List.length_zip, List.length_append, List.length_cons] at h
  omega
local macro_rules | `(tactic| walk_at "mine down") => `(tactic| first | exact down_lt (MarkInv.rising (by assumption)) _ | exact down_le (MarkInv.rising (by assumption)) _)

set_option maxHeartbeats 4000000 in
theorem marksC {w : World} {A : Around} {s : Shared} {Q E : Value → Shared → Prop} {l : Addr} {vs : List Value} {ns : List Int}
    (H : Here w A 30 300 s []) (hl : s.heap.IsList l vs.toArray) (hi : IntsAre vs ns) (hlen : ns.length < 800)
    (ret : ∀ r vs' n' h' tk', Keep [] s.heap h' → s.heap.get? r = none → h'.get? r = some (listOf vs'.toArray n') → IntsAre vs' (marksOf ns) → Q (.ref r) { s with heap := h', toks := tk' }) :
    wpAny (model PySem.Challenge.rw_wf0065_01.row.prog w) A (call (.ref 176) [.ref l]) Q E s := by
  obtain ⟨dp, un, gd, env, outer, A₀, base, h₀, L, m, mg, mb, p, loose, mean, rfl, B, F, N, X, T, hf, hke, hdp, hun, c1, c2⟩ := H
  revert X; k_fill; intro X
  refine wpAny_call ?_
  k_dflt (refine' enterH (binds := [(Str.ofString "row", .ref l)]) ⟨B, F, X, N, T, rfl, hf, hke⟩ (by walk_at "mine def") (by walk_at "mine def") (by walk_at "mine binds") (by walk_at "mine takes") (by walk_at "mine locals") (by decide) ?_; k_whole)
  rintro g L' h' ⟨F', N', B', X', T', G', l1, st'⟩
  have hl' : g.IsList l vs.toArray := let ⟨o, ho, r⟩ := hl; ⟨o, G' l o ho List.not_mem_nil, r⟩
  have c1' := c1.keeps st'
  have c2' := c2.keeps st'
  have hvl := hi.length
  clear hl B F N X T hf c1 c2 st'
  dsimp only [Run]
  k_unmd
  k_fold
  k_with "mine call" => (k_dflt (refine' insL ?insL_H ?insL_hi ?insL_hlen ?insL_hD ?_; (case insL_H => walk_at "mine here"); (case insL_hi => assumption); (case insL_hlen => omega); (case insL_hD => walk_at "mine down"); k_whole); intro vs9 n9 h9 tk9 k9 g9 i9; walk_at "mine upd")
  k_with "zip" => k_dflt ((refine' zip_list (Str.ofString "marks") markOf [Str.ofString "low", Str.ofString "mark"] (fun pre ks => ks.length ≤ pre.length ∧ MarkInv pre ks) ?zhm rfl ?zl1 ?zl2 ?zi1 ?zi2 ?zF ?zN ?zm ?zn1 ?zn2 ?zp ?zturn ?zdone); (case zF => k_asm); (case zhm => exact rfl); (case zl1 => walk_at "mine list"); (case zl2 => walk_at "mine list"); (case zi1 => l_ints); (case zi2 => l_ints); (case zN => k_asm); (case zm => k_mem); (case zn1 => exact base_off (by assumption) (by assumption) (by k_mem)); (case zn2 => k_ne); (case zp => exact ⟨Nat.le_refl _, rfl⟩); (case' zturn => (intro zV zK zN zPre zPost zA zB zTa zTb zU zH zTk zOwn zE zOff zI zP zFr zNw zMk; have zL := zip_len zE; obtain ⟨zP1, zP2⟩ := zP; have zP3 : zK.length ≤ zPre.length := by simpa using zP1)); (case' zdone => (intro zV zK zN zU zH zTk zI zP zFr zNw; obtain ⟨zP1, zP2⟩ := zP)); (all_goals (try k_fold)))
  k_with "state" => first
    | exact mark_ins (by assumption) (by assumption) (by assumption)
    | exact mark_skip (by assumption) (by assumption) (by assumption)
  k_steps
  k_with_none
  (try dsimp only)
  (try k_unfold)
  dsimp only [Back]
  have rI : _ = marksOf ns := (by assumption : MarkInv _ _)
  subst rI
  exact ret _ _ _ _ _ (Keep.of G' (by assumption)) (Keep.fresh G' (by assumption) (.head _) List.not_mem_nil) (News.get (by assumption) (.head _)) (by assumption)

theorem at_inner : True := by
  w_top off
  k_with_none
  trivial
section
variable {prog : Program} {w : World} {A₀ A : Around} {s : Shared} {base h₀ : Heap} {fs : List Env} {L : Addr} {m mg mb : Str → Option Value} {env : Env} {ld : List (Addr × Obj)} {K : Frag} {p : Program} {loose : List Str} {mean : ExcName → Option Value}
variable {R : Result → Shared → Prop} {name qual : Str} {params : Arguments} {body : List Stmt} {scope : Scope} {dV kV doc pm cdv ct : Value} {an : Option Addr} {cl : List (Str × Addr)} {f : Addr} {binds : List (Str × Value)}
theorem Keep.led {h g h' : Heap} {L' : Addr} {m' : Str → Option Value} (N : News h₀ L h ld) (G : GSub h g (ld.map (·.1))) (F' : Fr g L' h' m') (N' : News g L' h' ld) : Keep [] h h' :=
  fun b o e _ => elt_after (InElt.start h) G N F' N' (fun _ y => y) b o e
/-- the same where the ledger has changed: what was in it stands yet, or is named -/
theorem Keep.over {wr : List Addr} {news : List (Addr × Obj)} {h g h' : Heap} {L' : Addr} {m' : Str → Option Value} (N : News h₀ L h ld) (G : GSub h g (ld.map (·.1))) (F' : Fr g L' h' m') (N' : News g L' h' news) (still : ∀ p ∈ ld, p.1 ∈ wr ∨ p ∈ news) : Keep wr h h' := fun b o e n => by
  rcases Classical.em (b ∈ ld.map (·.1)) with z | z
  · have ⟨p, hp, q⟩ := List.mem_map.mp z
    subst q
    have same : o = p.2 := Option.some.inj (e.symm.trans (N p hp).1)
    exact same ▸ (N' p ((still p hp).resolve_left n)).1
  · exact F'.keep b o (G b o e z)
/-- a def made in a body is entered -/
theorem enterN {args : Args} {c' : Addr} (S : Stand K p loose mean mg mb A₀ A base h₀ fs env L m ld s.heap) (ho : (f, fnMade name qual params body scope cl doc pm c' ct) ∈ ld) (hc : s.heap.CodeRec (.ref c') qual)
    (hb : BindsTo s (fnX name qual params body scope cl .none .none doc pm none (.ref c') ct) args binds) (W : Takes A scope) (hl : ∀ y ∈ binds, scope.names.lookup y.1 = some .local) (hn : ∀ y ∈ scope.names, y.2 ≠ .cell)
    (go : ∀ g L' h', Begun K p loose mean mg mb A base h₀ (env :: fs) ld s.heap ld g L' (fun y => binds.reverse.lookup y) h' → Run prog w A R (envX qual scope L' f (.ref c') cl) body { s with heap := h', toks := s.toks + binds.length }) :
    codeAny (model prog w) A (.call (.ref f) args) R s := enterX S (S.led _ ho).1 rfl hc hb W hl hn go
/-- a def whose locals are captured is entered -/
theorem enterC {vals : List Value} {oc : Value} {od : Option Addr} {osl : Array (Option Value)} (S : Stand K p loose mean mg mb A₀ A base h₀ fs env L m ld s.heap)
    (ho : K.lookup f = some ⟨oc, od, .func (fnOf name qual params body scope dV kV doc pm an cdv ct), osl⟩) (hc : codeIn K cdv qual = true) (hb : bindArgs (fnOf name qual params body scope dV kV doc pm an cdv ct) ⟨vals, []⟩ = pure binds)
    (W : Takes A scope) (hk : (binds.all fun y => scope.names.lookup y.1 == some .local || scope.names.lookup y.1 == some .cell) = true) (hd : ((cellsFrom 0 scope.names []).map (·.1)).Nodup)
    (go : ∀ g L' h' tk cells, CellsAre (bindC (envOfC qual scope L' f cdv).kindOf binds fun _ => none) (cellsFrom (L' + 1) scope.names []) cells →
      Begun K p loose mean mg mb A base h₀ (env :: fs) ld s.heap (cells ++ ld) g L' (bindL (envOfC qual scope L' f cdv).kindOf binds fun _ => none) h' → Run prog w A R (envOfC qual scope L' f cdv) body { s with heap := h', toks := tk }) :
    codeAny (model prog w) A (.call (.ref f) ⟨vals, []⟩) R s := by
  have X := S.part.keeps S.fr.keep
  refine codeAny_call_cells W.room (X _ _ ho) rfl (S.top.nolimit.keeps S.fr.keep) (codeRec_of X hc) rfl hb rfl (kindsX hk _) (fun t x => ?_) W.co W.gen W.kind
  obtain ⟨h', tk, rfl⟩ := x.toInCall.same
  have one := cellsFrom_names scope.names 0 (s.heap.objs.size + 1) [] [] rfl
  rw [one] at hd
  have ⟨cells, N, Y⟩ := Cl.news (Nat.le_refl _) fun n c hm => And.intro (x.cell n c (lookup_of_mem_nodup hd hm)) (x.above n c hm)
  exact go _ _ h' tk cells Y (S.begun x.toInCall.ns x.toInCall.keep N)
end

/-- what a call of a made def of two ints gives back, over a ledger that stands -/
def InnerOk (w : World) (led : List (Addr × Obj)) (f : Addr) (HP : Heap → Prop) (Pre : Int → Int → Prop) (val : Int → Int → Int) (k : Nat) : Prop :=
  ∀ (A : Around) (s : Shared) (Q E : Value → Shared → Prop) (a b : Int) (ta tb : Tok), Here w A (k + 5) (8 * k + 60) s led → HP s.heap → Pre a b → (b - a).toNat = k →
    (∀ t h' tk', Keep [] s.heap h' → Q (.int (val a b) t) { s with heap := h', toks := tk' }) →
    wpAny (model PySem.Challenge.rw_wf0065_01.row.prog w) A (call (.ref f) [.int a ta, .int b tb]) Q E s
theorem innerOk_of {w : World} {led : List (Addr × Obj)} {f : Addr} {HP : Heap → Prop} {Pre : Int → Int → Prop} {val : Int → Int → Int}
    (step : ∀ k, (∀ j, j < k → InnerOk w led f HP Pre val j) → InnerOk w led f HP Pre val k) : ∀ k, InnerOk w led f HP Pre val k := fun k =>
  Nat.strongRecOn k step
theorem inner_use {w : World} {led : List (Addr × Obj)} {f : Addr} {HP : Heap → Prop} {Pre : Int → Int → Prop} {val : Int → Int → Int} {k : Nat} {A : Around} {s : Shared} {Q E : Value → Shared → Prop} {a b : Int} {ta tb : Tok}
    (ih : ∀ j, j < k → InnerOk w led f HP Pre val j) (hj : (b - a).toNat < k) (H : Here w A ((b - a).toNat + 5) (8 * (b - a).toNat + 60) s led) (hp : HP s.heap) (pre : Pre a b)
    (ret : ∀ t h' tk', Keep [] s.heap h' → Q (.int (val a b) t) { s with heap := h', toks := tk' }) :
    wpAny (model PySem.Challenge.rw_wf0065_01.row.prog w) A (call (.ref f) [.int a ta, .int b tb]) Q E s := ih _ hj A s Q E a b ta tb H hp pre rfl ret
def InnerHP (l : Addr) (vs : List Value) (c' : Addr) (qual : Str) (h : Heap) : Prop := h.IsList l vs.toArray ∧ h.CodeRec (.ref c') qual
theorem InnerHP.keeps {l : Addr} {vs : List Value} {c' : Addr} {qual : Str} {h h' : Heap} (x : InnerHP l vs c' qual h) (k : Keep [] h h') : InnerHP l vs c' qual h' :=
  ⟨x.1.at fun o e => k.all l o e, x.2.keeps k.all⟩
theorem inner_all {w : World} {led : List (Addr × Obj)} {h₀ : Heap} {L f : Addr} {name qual : Str} {params : Arguments} {body : List Stmt} {scope : Scope} {cl : List (Str × Addr)} {doc pm ctv : Value} {c' l : Addr} {vs : List Value} (Pre : Int → Int → Prop) (val : Int → Int → Int) {A : Around} {s : Shared} {Q E : Value → Shared → Prop} {a b : Int} {ta tb : Tok}
    (N : News h₀ L s.heap led) (_hm : (f, fnMade name qual params body scope cl doc pm c' ctv) ∈ led) (hp : InnerHP l vs c' qual s.heap)
    (ok : ∀ k, InnerOk w led f (InnerHP l vs c' qual) Pre val k) (H : Here w A ((b - a).toNat + 5) (8 * (b - a).toNat + 60) s led) (pre : Pre a b)
    (ret : ∀ t h' tk', Keep [] s.heap h' → Q (.int (val a b) t) { s with heap := h', toks := tk' }) :
    wpAny (model PySem.Challenge.rw_wf0065_01.row.prog w) A (call (.ref f) [.int a ta, .int b tb]) Q E s :=
  have _ := N
  ok _ A s Q E a b ta tb H hp pre rfl ret
theorem isList_ground {h g : Heap} {l : Addr} {its : Array Value} {led : List (Addr × Obj)} (hl : h.IsList l its) (G : GSub h g (led.map (·.1))) (off : ∀ p ∈ led, l ≠ p.1) : g.IsList l its :=
  let ⟨o, ho, r⟩ := hl
  ⟨o, G l o ho fun q => by obtain ⟨p, hp, e⟩ := List.mem_map.mp q; exact off p hp e.symm, r⟩
/-- a list is no object of another make -/
theorem isList_off {h : Heap} {l : Addr} {its : Array Value} {led : List (Addr × Obj)} (hl : h.IsList l its) (N : ∀ p ∈ led, h.get? p.1 = some p.2) (hd : ∀ p ∈ led, p.2.cls ≠ .type "list") : ∀ p ∈ led, l ≠ p.1 := fun p hp q => by
  obtain ⟨o, ho, hc, _⟩ := hl
  rw [q, N p hp] at ho
  cases ho
  exact hd p hp hc
theorem base_offs {h₀ h : Heap} {L l : Addr} {its : Array Value} {news : List (Addr × Obj)} (hl : h₀.IsList l its) (N : News h₀ L h news) : ∀ p ∈ news, l ≠ p.1 := fun p hp => base_off hl N hp
/-- the walk stops here -/
def Stop (P : Prop) : Prop := P
theorem Stop.of {P : Prop} (h : Stop P) : P := h
theorem Stop.intro {P : Prop} (h : P) : Stop P := h
local macro_rules | `(tactic| walk_at "mine call") => `(tactic| k_extra "mine inner")

theorem at_digits : True := by
  w_top off
  k_with_none
  trivial
/-- the table of a def's own defs: empty, or with the one code object -/
def tabOf (ln col : Int) : Option Addr → Array Value
  | none => #[]
  | some c => #[rawInt ln, rawInt col, .ref c]
def CodeAt (h : Heap) (q : Str) : Option Addr → Prop
  | none => True
  | some c => h.CodeRec (.ref c) q
def qI : Str := Str.ofString "_int2digits.<locals>.inner"
def qD : Str := Str.ofString "_digits2int.<locals>.inner"
/-- a table stays, or holds a new code object -/
def Grow (h : Heap) (a a' : Option Addr) : Prop := a' = a ∨ ∃ c, a' = some c ∧ h.get? c = none
/-- the two tables behind a call -/
def TabsN (h : Heap) (a b : Option Addr) (h' : Heap) : Prop :=
  ∃ a' b', h'.get? 66 = some (tabObj (tabOf 85 4 a')) ∧ h'.get? 73 = some (tabObj (tabOf 100 4 b')) ∧ CodeAt h' qI a' ∧ CodeAt h' qD b' ∧ Grow h a a' ∧ Grow h b b'
theorem tabOf_noStr (ln col : Int) (a : Option Addr) (q : Str) (t : Tok) : (tabOf ln col a)[1]? ≠ some (.str q t) := by
  cases a <;> (intro e; cases e)
theorem codeRec_off {h : Heap} {c P : Addr} {q : Str} {ps : Array Value} (x : h.CodeRec (.ref c) q) (e : h.get? P = some (tabObj ps)) (hp : ∀ t, ps[1]? ≠ some (.str q t)) : c ≠ P := fun z => by
  obtain ⟨c₂, oc, vs, t, e2, hoc, hd, hv⟩ := x
  cases e2
  rw [z, e] at hoc
  cases hoc
  cases hd
  exact hp t hv
theorem codeRec_keep {h h' : Heap} {c : Addr} {q : Str} {adr : List Addr} (x : h.CodeRec (.ref c) q) (k : Keep adr h h') (n : c ∉ adr) : h'.CodeRec (.ref c) q := by
  obtain ⟨c₂, oc, vs, t, e2, hoc, hd, hv⟩ := x
  cases e2
  exact ⟨c, oc, vs, t, rfl, k _ _ hoc n, hd, hv⟩
theorem tabs_off {h : Heap} {a b : Option Addr} (e1 : h.get? 66 = some (tabObj (tabOf 85 4 a))) (e2 : h.get? 73 = some (tabObj (tabOf 100 4 b))) {c : Addr} {q : Str} (x : h.CodeRec (.ref c) q) : c ∉ [66, 73] := fun m => by
  rcases List.mem_cons.mp m with z | m
  · exact codeRec_off x e1 (tabOf_noStr _ _ _ _) z
  · exact codeRec_off x e2 (tabOf_noStr _ _ _ _) (List.mem_singleton.mp m)
theorem CodeAt.keep {h h' : Heap} {q : Str} {a : Option Addr} {adr : List Addr} (x : CodeAt h q a) (k : Keep adr h h') (n : ∀ {c : Addr} {q : Str}, h.CodeRec (.ref c) q → c ∉ adr) : CodeAt h' q a := by
  cases a with
  | none => trivial
  | some c => exact codeRec_keep x k (n x)

theorem off_tabs {c : Nat} (h1 : 66 < c) (h2 : 73 < c) : (c : Addr) ∉ ([66, 73] : List Addr) := fun m => by
  rcases List.mem_cons.mp m with z | m
  · exact Nat.ne_of_gt h1 z
  · exact Nat.ne_of_gt h2 (List.mem_singleton.mp m)
/-- the number whose figures to the base 2 ^ n are k of the digits, from L up -/
def dv (n : Nat) (ds : List Int) : Nat → Nat → Int
  | _, 0 => 0
  | L, k + 1 => ds.getD L 0 + 2 ^ n * dv n ds (L + 1) k
theorem dv_add (n : Nat) (ds : List Int) : ∀ a L b, dv n ds L (a + b) = dv n ds L a + 2 ^ (n * a) * dv n ds (L + a) b
  | 0, L, b => by simp [dv]
  | a + 1, L, b => by
    rw [show a + 1 + b = (a + b) + 1 by omega]
    simp only [dv]
    rw [dv_add n ds a (L + 1) b, show L + 1 + a = L + (a + 1) by omega, Nat.mul_add, Nat.mul_one, Int.pow_add, Int.mul_add]
    rw [Int.mul_comm (2 ^ (n * a)) (2 ^ n), Int.mul_assoc]
    omega
def DigOk (n : Nat) (ds : List Int) : Prop := ∀ i, i < ds.length → 0 ≤ ds.getD i 0 ∧ ds.getD i 0 < 2 ^ n
theorem dv_bound {n : Nat} {ds : List Int} (D : DigOk n ds) : ∀ k L, L + k ≤ ds.length → 0 ≤ dv n ds L k ∧ dv n ds L k < 2 ^ (n * k)
  | 0, L, _ => by simp [dv]
  | k + 1, L, h => by
    have ⟨h1, h2⟩ := dv_bound D k (L + 1) (by omega)
    have ⟨h3, h4⟩ := D L (by omega)
    simp only [dv]
    rw [Nat.mul_add, Nat.mul_one, Int.pow_add]
    have hp : (0 : Int) < 2 ^ n := Int.pow_pos (by decide)
    refine ⟨Int.add_nonneg h3 (Int.mul_nonneg (Int.le_of_lt hp) h1), ?_⟩
    have h5 : 2 ^ n * (dv n ds (L + 1) k + 1) ≤ (2 : Int) ^ n * 2 ^ (n * k) := Int.mul_le_mul_of_nonneg_left (by omega) (Int.le_of_lt hp)
    rw [Int.mul_add, Int.mul_one] at h5
    rw [Int.mul_comm (2 ^ (n * k)) (2 ^ n)]
    omega
theorem mid_in {a b : Int} (h : a + 1 < b) : a < (a + b).fdiv (2 ^ (1 : Int).toNat) ∧ (a + b).fdiv (2 ^ (1 : Int).toNat) < b := by
  rw [show ((2 : Int) ^ (1 : Int).toNat) = 2 from rfl, Int.fdiv_eq_ediv_of_nonneg _ (by decide)]; omega
theorem dv_join {n : Int} {ds : List Int} {a m b : Int} (hn : 0 ≤ n) (h0 : 0 ≤ a) (h1 : a < m) (h2 : m < b) :
    dv n.toNat ds m.toNat (b - m).toNat * 2 ^ ((m - a) * n).toNat + dv n.toNat ds a.toNat (m - a).toNat = dv n.toNat ds a.toNat (b - a).toNat := by
  have e := dv_add n.toNat ds (m - a).toNat a.toNat (b - m).toNat
  rw [show (m - a).toNat + (b - m).toNat = (b - a).toNat by omega, show a.toNat + (m - a).toNat = m.toNat by omega] at e
  rw [e, show ((m - a) * n).toNat = n.toNat * (m - a).toNat by rw [Int.toNat_mul (by omega) hn, Nat.mul_comm]]
  rw [Int.mul_comm (dv _ _ m.toNat _), Int.add_comm]
theorem pow_le60 {n k : Nat} (h : n * k ≤ 60) : (2 : Int) ^ (n * k) ≤ 2 ^ 60 := by
  have := Nat.pow_le_pow_right (n := 2) (by decide) h
  exact_mod_cast this

def inPre (ds : List Int) (a b : Int) : Prop := 0 ≤ a ∧ a < b ∧ b ≤ (ds.length : Int)
def inVal (n : Int) (ds : List Int) (a b : Int) : Int := dv n.toNat ds a.toNat (b - a).toNat
theorem inVal_one {n : Int} {ds : List Int} {a b : Int} (h : a + 1 = b) : inVal n ds a b = ds.getD a.toNat 0 := by
  subst h
  unfold inVal
  rw [show (a + 1 - a).toNat = 0 + 1 by omega]
  simp [dv]
theorem inVal_bound {n : Int} {ds : List Int} {a b : Int} (D : DigOk n.toNat ds) (hn : 0 ≤ n) (h60 : n * (ds.length : Int) ≤ 60) (p : inPre ds a b) : 0 ≤ inVal n ds a b ∧ inVal n ds a b < 2 ^ 60 := by
  obtain ⟨h0, h1, h2⟩ := p
  have ⟨b1, b2⟩ := dv_bound D (b - a).toNat a.toNat (by omega)
  refine ⟨b1, Int.lt_of_lt_of_le b2 (pow_le60 ?_)⟩
  have h3 : n.toNat * (b - a).toNat ≤ n.toNat * ds.length := Nat.mul_le_mul_left _ (by omega)
  have h4 : n.toNat * ds.length ≤ 60 := by
    have : ((n.toNat * ds.length : Nat) : Int) ≤ 60 := by rw [Int.natCast_mul, Int.toNat_of_nonneg hn]; exact h60
    exact_mod_cast this
  omega
theorem shift_bound {n a m : Int} {ds : List Int} (hn : 0 ≤ n) (h60 : n * (ds.length : Int) ≤ 60) (h0 : a ≤ m) (h1 : 0 ≤ a) (h2 : m ≤ (ds.length : Int)) : 0 ≤ (m - a) * n ∧ (m - a) * n ≤ 60 := by
  refine ⟨Int.mul_nonneg (by omega) hn, ?_⟩
  have : (m - a) * n ≤ (ds.length : Int) * n := Int.mul_le_mul_of_nonneg_right (by omega) hn
  rw [Int.mul_comm (ds.length : Int) n] at this
  omega

set_option maxHeartbeats 4000000 in
theorem digitsC {w : World} {A : Around} {s : Shared} {Q E : Value → Shared → Prop} {l : Addr} {vs : List Value} {ds : List Int} {n : Int} {tn : Tok} {ta tb : Option Addr}
    (H : Here w A 40 400 s [(66, tabObj (tabOf 85 4 ta)), (73, tabObj (tabOf 100 4 tb))]) (t1 : CodeAt s.heap qI ta) (t2 : CodeAt s.heap qD tb)
    (hl : s.heap.IsList l vs.toArray) (hi : IntsAre vs ds) (hlen : ds.length < 10) (hn : 0 ≤ n) (hn2 : n ≤ 60) (h60 : n * (ds.length : Int) ≤ 60) (D : DigOk n.toNat ds)
    (ret : ∀ t h' tk', Keep [66, 73] s.heap h' → TabsN s.heap ta tb h' → Q (.int (inVal n ds 0 ds.length) t) { s with heap := h', toks := tk' }) :
    wpAny (model PySem.Challenge.rw_wf0065_01.row.prog w) A (call (.ref 78) [.ref l, .int n tn]) Q E s := by
  obtain ⟨dp, un, gd, env, outer, A₀, base, h₀, L, m, mg, mb, p, loose, mean, rfl, B, F, N, X, T, hf, hke, hdp, hun, c1, c2⟩ := H
  revert X; k_fill; intro X
  refine wpAny_call ?_
  k_dflt (refine' enterC (binds := [(Str.ofString "digits", .ref l), (Str.ofString "n", .int n tn)]) ⟨B, F, X, N, T, rfl, hf, hke⟩ (by walk_at "mine def") (by walk_at "mine def") rfl (by walk_at "mine takes") rfl (by decide +kernel) ?_; k_whole)
  rintro g L' h' tk cells Y' ⟨F', N', B', X', T', G', l1, st'⟩
  have e66 := N.get (a := 66) (.head _)
  have e73 := N.get (a := 73) (.tail _ (.head _))
  have hoff0 := fun {c : Addr} {q : Str} => tabs_off e66 e73 (c := c) (q := q)
  have hl' : g.IsList l vs.toArray := isList_ground hl G' (isList_off hl (fun p hp => (N p hp).1) (by simp))
  have c1' := c1.keeps st'
  have c2' := c2.keeps st'
  have hvl := hi.length
  clear hl B F N X T hf c1 c2 st'
  k_lt l1
  k_cells Y'
  (try simp only [List.cons_append, List.nil_append] at N')
  dsimp only [Run]
  k_unmd
  k_fold
  have hsub := fun (h₂ : Heap) (m₂ : Str → Option Value) (F₂ : Fr g L' h₂ m₂) => (Keep.of G' F₂ : Keep [66, 73] s.heap h₂)
  rcases tb with _ | c'
  · dsimp only [tabOf] at N' G' ret
    k_with "mine inner" => (k_dflt (refine Stop.of ?_))
    k_steps
    k_with_none
    · refine Stop.intro ?_
      k_dflt (refine' inner_all (l := l) (vs := vs) (inPre ds) (inVal n ds) ?hN ?hm ?hhp ?ok ?hH ?hpre ?_)
      case hN => k_asm
      case hm => k_mem
      case hhp => exact ⟨stays_list (Fr.keep (by k_asm)) hl', codeRec_news (by k_asm) (by k_mem) (by assumption) (by assumption)⟩
      case hH => walk_at "mine here"
      case hpre => exact ⟨by omega, by omega, by omega⟩
      case ok =>
        (rename News _ _ _ _ => nwO)
        have hoff := base_offs hl' nwO
        refine innerOk_of fun k ih => ?_
        intro A s Q E a b ta tb H hp pre hk ret
        obtain ⟨dp, un, gd, env, outer, A₀, base, h₀, L, m, mg, mb, p, loose, mean, rfl, B, F, N, X, T, hf, hke, hdp, hun, c1, c2⟩ := H
        obtain ⟨hl2, hc2⟩ := hp
        refine wpAny_call ?_
        k_dflt (refine' enterN (binds := [(Str.ofString "L", .int a ta), (Str.ofString "R", .int b tb)]) ⟨B, F, X, N, T, rfl, hf, hke⟩ (by walk_at "mine def") hc2 (by walk_at "mine binds") (by walk_at "mine takes") (by walk_at "mine locals") (by decide) ?_; k_whole)
        rintro g' L' h' ⟨F', N', B', X', T', G', l1, st'⟩
        have hl' : g'.IsList l vs.toArray := isList_ground hl2 G' hoff
        have c1' := c1.keeps st'
        have c2' := c2.keeps st'
        have hkeep := fun (h₂ : Heap) (m₂ : Str → Option Value) (F₂ : Fr g' L' h₂ m₂) (N₂ : News g' L' h₂ _) => Keep.led N G' F₂ N₂
        clear B F N X T hf c1 c2 st' nwO
        dsimp only [Run]
        k_unmd
        k_fold
        obtain ⟨p0, p1, p2⟩ := pre
        by_cases hab : a + 1 = b
        · k_steps
          all_goals (try (exfalso; omega))
          (try dsimp only)
          (try k_unfold)
          dsimp only [Back]
          have e : inVal n ds a b = ds.getD a.toNat 0 := inVal_one hab
          rw [e] at ret
          exact ret _ _ _ (hkeep _ _ (by assumption) (by assumption))
        · obtain ⟨m1, m2⟩ := mid_in (a := a) (b := b) (by omega)
          have hj1 : ((a + b).fdiv (2 ^ (1 : Int).toNat) - a).toNat < k := by omega
          have hj2 : (b - (a + b).fdiv (2 ^ (1 : Int).toNat)).toNat < k := by omega
          have hs := shift_bound (a := a) (m := (a + b).fdiv (2 ^ (1 : Int).toNat)) hn h60 (by omega) p0 (by omega)
          have hv1 := inVal_bound (a := (a + b).fdiv (2 ^ (1 : Int).toNat)) (b := b) D hn h60 ⟨by omega, by omega, by omega⟩
          have hv2 := inVal_bound (a := a) (b := (a + b).fdiv (2 ^ (1 : Int).toNat)) D hn h60 ⟨by omega, by omega, by omega⟩
          k_with "mine inner" => ((k_dflt (refine' inner_use ih ?zj ?zH ?zhp ?zpre ?_; (case zj => first | exact hj1 | exact hj2); (case zH => walk_at "mine here"); (case zhp => exact InnerHP.keeps ⟨hl2, hc2⟩ (hkeep _ _ (by assumption) (by assumption))); (case zpre => exact ⟨by omega, by omega, by omega⟩); k_whole)); intro t9 h9 tk9 k9; walk_at "mine back")
          k_steps
          all_goals (try (exfalso; omega))
          k_with_none
          (try dsimp only)
          (try k_unfold)
          dsimp only [Back]
          have e : _ = inVal n ds a b := dv_join hn p0 m1 m2
          rw [← e] at ret
          exact ret _ _ _ (hkeep _ _ (by assumption) (by assumption))
      intro t9 h9 tk9 k9
      walk_at "mine back"
      exact ret _ _ _ (hsub _ _ (by assumption)) ⟨_, some _, News.get (by assumption) (by k_mem), News.get (a := 73) (by assumption) (by k_mem), t1.keep (hsub _ _ (by assumption)) hoff0, codeRec_news (by assumption) (by k_mem) (by assumption) (by assumption), .inl rfl, .inr ⟨_, rfl, Keep.fresh G' (by assumption) (by k_mem) (off_tabs (by omega) (by omega))⟩⟩
    · have e0 : ds.length = 0 := by omega
      have e : inVal n ds 0 ds.length = 0 := by rw [e0]; rfl
      rw [e] at ret
      dsimp only [Back]
      exact ret _ _ _ (hsub _ _ (by assumption)) ⟨_, some _, News.get (by assumption) (by k_mem), News.get (a := 73) (by assumption) (by k_mem), t1.keep (hsub _ _ (by assumption)) hoff0, codeRec_news (by assumption) (by k_mem) (by assumption) (by assumption), .inl rfl, .inr ⟨_, rfl, Keep.fresh G' (by assumption) (by k_mem) (off_tabs (by omega) (by omega))⟩⟩
  · dsimp only [tabOf] at N' G' ret
    have hc' : s.heap.CodeRec (.ref c') qD := t2
    k_with "mine inner" => (k_dflt (refine Stop.of ?_))
    k_steps
    k_with_none
    · refine Stop.intro ?_
      k_dflt (refine' inner_all (l := l) (vs := vs) (inPre ds) (inVal n ds) ?hN ?hm ?hhp ?ok ?hH ?hpre ?_)
      case hN => k_asm
      case hm => k_mem
      case hhp => exact ⟨stays_list (Fr.keep (by k_asm)) hl', codeRec_keep hc' (hsub _ _ (by assumption)) (hoff0 hc')⟩
      case hH => walk_at "mine here"
      case hpre => exact ⟨by omega, by omega, by omega⟩
      case ok =>
        (rename News _ _ _ _ => nwO)
        have hoff := base_offs hl' nwO
        refine innerOk_of fun k ih => ?_
        intro A s Q E a b ta tb H hp pre hk ret
        obtain ⟨dp, un, gd, env, outer, A₀, base, h₀, L, m, mg, mb, p, loose, mean, rfl, B, F, N, X, T, hf, hke, hdp, hun, c1, c2⟩ := H
        obtain ⟨hl2, hc2⟩ := hp
        refine wpAny_call ?_
        k_dflt (refine' enterN (binds := [(Str.ofString "L", .int a ta), (Str.ofString "R", .int b tb)]) ⟨B, F, X, N, T, rfl, hf, hke⟩ (by walk_at "mine def") hc2 (by walk_at "mine binds") (by walk_at "mine takes") (by walk_at "mine locals") (by decide) ?_; k_whole)
        rintro g' L' h' ⟨F', N', B', X', T', G', l1, st'⟩
        have hl' : g'.IsList l vs.toArray := isList_ground hl2 G' hoff
        have c1' := c1.keeps st'
        have c2' := c2.keeps st'
        have hkeep := fun (h₂ : Heap) (m₂ : Str → Option Value) (F₂ : Fr g' L' h₂ m₂) (N₂ : News g' L' h₂ _) => Keep.led N G' F₂ N₂
        clear B F N X T hf c1 c2 st' nwO
        dsimp only [Run]
        k_unmd
        k_fold
        obtain ⟨p0, p1, p2⟩ := pre
        by_cases hab : a + 1 = b
        · k_steps
          all_goals (try (exfalso; omega))
          (try dsimp only)
          (try k_unfold)
          dsimp only [Back]
          have e : inVal n ds a b = ds.getD a.toNat 0 := inVal_one hab
          rw [e] at ret
          exact ret _ _ _ (hkeep _ _ (by assumption) (by assumption))
        · obtain ⟨m1, m2⟩ := mid_in (a := a) (b := b) (by omega)
          have hj1 : ((a + b).fdiv (2 ^ (1 : Int).toNat) - a).toNat < k := by omega
          have hj2 : (b - (a + b).fdiv (2 ^ (1 : Int).toNat)).toNat < k := by omega
          have hs := shift_bound (a := a) (m := (a + b).fdiv (2 ^ (1 : Int).toNat)) hn h60 (by omega) p0 (by omega)
          have hv1 := inVal_bound (a := (a + b).fdiv (2 ^ (1 : Int).toNat)) (b := b) D hn h60 ⟨by omega, by omega, by omega⟩
          have hv2 := inVal_bound (a := a) (b := (a + b).fdiv (2 ^ (1 : Int).toNat)) D hn h60 ⟨by omega, by omega, by omega⟩
          k_with "mine inner" => ((k_dflt (refine' inner_use ih ?zj ?zH ?zhp ?zpre ?_; (case zj => first | exact hj1 | exact hj2); (case zH => walk_at "mine here"); (case zhp => exact InnerHP.keeps ⟨hl2, hc2⟩ (hkeep _ _ (by assumption) (by assumption))); (case zpre => exact ⟨by omega, by omega, by omega⟩); k_whole)); intro t9 h9 tk9 k9; walk_at "mine back")
          k_steps
          all_goals (try (exfalso; omega))
          k_with_none
          (try dsimp only)
          (try k_unfold)
          dsimp only [Back]
          have e : _ = inVal n ds a b := dv_join hn p0 m1 m2
          rw [← e] at ret
          exact ret _ _ _ (hkeep _ _ (by assumption) (by assumption))
      intro t9 h9 tk9 k9
      walk_at "mine back"
      exact ret _ _ _ (hsub _ _ (by assumption)) ⟨_, some _, News.get (by assumption) (by k_mem), News.get (a := 73) (by assumption) (by k_mem), t1.keep (hsub _ _ (by assumption)) hoff0, codeRec_keep hc' (hsub _ _ (by assumption)) (hoff0 hc'), .inl rfl, .inl rfl⟩
    · have e0 : ds.length = 0 := by omega
      have e : inVal n ds 0 ds.length = 0 := by rw [e0]; rfl
      rw [e] at ret
      dsimp only [Back]
      exact ret _ _ _ (hsub _ _ (by assumption)) ⟨_, some _, News.get (by assumption) (by k_mem), News.get (a := 73) (by assumption) (by k_mem), t1.keep (hsub _ _ (by assumption)) hoff0, codeRec_keep hc' (hsub _ _ (by assumption)) (hoff0 hc'), .inl rfl, .inl rfl⟩

theorem at_tabs : True := by
  w_top off
  k_with_none
  trivial
def CodeW (h₀ : Heap) (ex : List (Addr × Obj)) (q : Str) : Option Addr → Prop
  | none => True
  | some c' => h₀.CodeRec (.ref c') q ∨ ∃ oc vs t, (c', oc) ∈ ex ∧ oc.data = .fields vs ∧ vs[1]? = some (.str q t)
/-- what a frame knows of the two tables: how they stood where it was entered (H: a₀, b₀), how they stand (a, b) -/
structure TabP (H h₀ : Heap) (a₀ b₀ a b : Option Addr) (ex : List (Addr × Obj)) : Prop where
  w1 : CodeW h₀ ex qI a
  w2 : CodeW h₀ ex qD b
  g1 : Grow H a₀ a
  g2 : Grow H b₀ b
  G : GSub H h₀ [66, 73]
theorem codeW_at {h₀ h : Heap} {L : Addr} {m : Str → Option Value} {ex news : List (Addr × Obj)} {q : Str} {a : Option Addr} (W : CodeW h₀ ex q a) (F : Fr h₀ L h m) (N : News h₀ L h news) (hs : ∀ p ∈ ex, p ∈ news) : CodeAt h q a := by
  cases a with
  | none => trivial
  | some c' =>
    rcases W with r | ⟨oc, vs, t, hm, hd, hv⟩
    · exact r.keeps F.keep
    · exact codeRec_news N (hs _ hm) hd hv
theorem codeW_start {h g : Heap} {q : Str} {a : Option Addr} (t : CodeAt h q a) (G : GSub h g [66, 73]) (off : ∀ {c : Addr} {q : Str}, h.CodeRec (.ref c) q → c ∉ [66, 73]) : CodeW g [] q a := by
  cases a with
  | none => trivial
  | some c' => exact .inl (codeRec_keep t G (off t))
/-- at a def's start -/
theorem tabP_start {h g : Heap} {a b : Option Addr} (t1 : CodeAt h qI a) (t2 : CodeAt h qD b) (e1 : h.get? 66 = some (tabObj (tabOf 85 4 a))) (e2 : h.get? 73 = some (tabObj (tabOf 100 4 b))) (G : GSub h g [66, 73]) : TabP h g a b a b [] :=
  ⟨codeW_start t1 G (tabs_off e1 e2), codeW_start t2 G (tabs_off e1 e2), .inl rfl, .inl rfl, G⟩
/-- at a def's end -/
theorem tabs_end {H h₀ h : Heap} {L : Addr} {m : Str → Option Value} {ex news : List (Addr × Obj)} {a₀ b₀ a b : Option Addr} (W : TabP H h₀ a₀ b₀ a b ex) (F : Fr h₀ L h m) (N : News h₀ L h news) (h1 : (66, tabObj (tabOf 85 4 a)) ∈ news) (h2 : (73, tabObj (tabOf 100 4 b)) ∈ news) (hs : ∀ p ∈ ex, p ∈ news) : TabsN H a₀ b₀ h :=
  ⟨a, b, N.get h1, N.get h2, codeW_at W.w1 F N hs, codeW_at W.w2 F N hs, W.g1, W.g2⟩
/-- a ledger ahead of the tables -/
inductive LocS (tail : List (Addr × Obj)) : List (Addr × Obj) → List (Addr × Obj) → Prop
  | here : LocS tail tail []
  | cons {a : Addr} {o : Obj} {r l : List (Addr × Obj)} : (@Ne Nat a 66 ∧ @Ne Nat a 73) → LocS tail r l → LocS tail ((a, o) :: r) ((a, o) :: l)
theorem LocS.mem {tail news loc : List (Addr × Obj)} (S : LocS tail news loc) : (∀ p ∈ loc, p ∈ news ∧ p.1 ∉ [66, 73]) ∧ ∀ p ∈ tail, p ∈ news := by
  induction S with
  | here => exact ⟨fun p hp => (nomatch hp), fun p hp => hp⟩
  | cons hn _ ih =>
    refine ⟨fun p hp => ?_, fun p hp => .tail _ (ih.2 p hp)⟩
    rcases List.mem_cons.mp hp with rfl | hp
    · refine ⟨.head _, fun q => ?_⟩
      rcases List.mem_cons.mp q with q | q
      · exact hn.1 q
      · exact hn.2 (List.mem_singleton.mp q)
    · exact ⟨.tail _ (ih.1 p hp).1, (ih.1 p hp).2⟩
theorem LocS.eq {tail news loc : List (Addr × Obj)} (S : LocS tail news loc) : news = loc ++ tail := by
  induction S with
  | here => rfl
  | cons _ _ ih => rw [ih]; rfl
theorem CodeW.more {h₀ : Heap} {ex ex' : List (Addr × Obj)} {q : Str} {a : Option Addr} (W : CodeW h₀ ex q a) (hs : ∀ p ∈ ex, p ∈ ex') : CodeW h₀ ex' q a := by
  cases a with
  | none => trivial
  | some c' => exact W.imp id fun ⟨oc, vs, t, hm, x⟩ => ⟨oc, vs, t, hs _ hm, x⟩
theorem grow_entry {H h₀ h : Heap} {L : Addr} {m : Str → Option Value} {a₀ a a' : Option Addr} (g0 : Grow H a₀ a) (g : Grow h a a') (G : GSub H h₀ [66, 73]) (F : Fr h₀ L h m) (n1 : (h.get? 66).isSome = true) (n2 : (h.get? 73).isSome = true) : Grow H a₀ a' := by
  rcases g with e | ⟨c, e, f⟩
  · rw [e]; exact g0
  · refine .inr ⟨c, e, ?_⟩
    cases hb : H.get? c with
    | none => rfl
    | some o =>
      by_cases hc : c ∈ [66, 73]
      · rcases List.mem_cons.mp hc with z | z
        · rw [← z, f] at n1; cases n1
        · rw [← List.mem_singleton.mp z, f] at n2; cases n2
      · have := F.keep _ _ (G _ _ hb hc); rw [f] at this; cases this
theorem tabW_back {h₀ h h' : Heap} {L : Addr} {m : Str → Option Value} {ex : List (Addr × Obj)} {q : Str} {a a' : Option Addr} (W : CodeW h₀ ex q a) (t : CodeAt h' q a') (g : Grow h a a') (F : Fr h₀ L h' m) :
    ∃ ex', News h₀ L h' ex' ∧ CodeW h₀ ex' q a' ∧ (∀ p ∈ ex', p.1 ∈ ex.map (·.1) ∨ h.get? p.1 = none) ∧ ∀ p ∈ ex', ∃ q, h'.CodeRec (.ref p.1) q := by
  cases a' with
  | none => exact ⟨[], News.nil, trivial, fun _ hp => (nomatch hp), fun _ hp => (nomatch hp)⟩
  | some c' =>
    obtain ⟨c₂, oc, vs, t, e2, hoc, hd, hv⟩ := id t
    cases e2
    cases hb : h₀.get? c' with
    | some o =>
      have := F.keep _ _ hb
      rw [hoc] at this; cases this
      exact ⟨[], News.nil, .inl ⟨c', oc, vs, t, rfl, hb, hd, hv⟩, fun _ hp => (nomatch hp), fun _ hp => (nomatch hp)⟩
    | none =>
      refine ⟨[(c', oc)], fun p hp => ?_, .inr ⟨oc, vs, t, .head _, hd, hv⟩, fun p hp => ?_, fun p hp => (by rw [List.mem_singleton.mp hp]; exact ⟨_, c', oc, vs, t, rfl, hoc, hd, hv⟩)⟩
      · rw [List.mem_singleton.mp hp]
        refine ⟨hoc, fun z => ?_, hb⟩
        obtain ⟨oL, es, ep, hL, hd', _⟩ := F.ns
        rw [show c' = L from z, hL] at hoc; cases hoc
        rw [hd] at hd'; cases hd'
      · rw [List.mem_singleton.mp hp]
        rcases g with e | ⟨c, e, f⟩
        · subst e
          rcases W with r | ⟨oc', vs', t', hm, _⟩
          · obtain ⟨c₃, oc₃, _, _, e3, hoc3, _⟩ := r
            cases e3
            rw [hb] at hoc3; cases hoc3
          · exact .inl (List.mem_map.mpr ⟨_, hm, rfl⟩)
        · cases e
          exact .inr f
/-- behind a call that may fill the tables -/
theorem tabs_elim {H h₀ h h' : Heap} {L : Addr} {m : Str → Option Value} {news loc ex : List (Addr × Obj)} {a₀ b₀ a b : Option Addr} {P : Prop} (W : TabP H h₀ a₀ b₀ a b ex) (F : Fr h₀ L h m) (N : News h₀ L h news) (S : LocS ((66, tabObj (tabOf 85 4 a)) :: (73, tabObj (tabOf 100 4 b)) :: ex) news loc) (k : Keep [66, 73] h h') (T : TabsN h a b h')
    (x : ∀ a' b' ex', Fr h₀ L h' m → News h₀ L h' (loc ++ (66, tabObj (tabOf 85 4 a')) :: (73, tabObj (tabOf 100 4 b')) :: ex') → TabP H h₀ a₀ b₀ a' b' ex' → (∀ p ∈ ex', p.1 ∈ ex.map (·.1) ∨ h.get? p.1 = none) → (∀ p ∈ ex', ∃ q, h'.CodeRec (.ref p.1) q) → P) : P := by
  obtain ⟨hl, ht⟩ := S.mem
  have n1 := N _ (ht _ (.head _))
  have n2 := N _ (ht _ (.tail _ (.head _)))
  have off : ∀ b o, h₀.get? b = some o → b ∉ [66, 73] := fun b o e q => by
    rcases List.mem_cons.mp q with q | q
    · rw [q] at e; rw [n1.2.2] at e; cases e
    · rw [List.mem_singleton.mp q] at e; rw [n2.2.2] at e; cases e
  obtain ⟨oL, es, ep, hL, r⟩ := F.ns
  have F' : Fr h₀ L h' m := by
    refine ⟨⟨oL, es, ep, k _ _ hL fun q => ?_, r⟩, fun b o e => k _ _ (F.keep _ _ e) (off b o e), F.above⟩
    rcases List.mem_cons.mp q with q | q
    · exact n1.2.1 q.symm
    · exact n2.2.1 (List.mem_singleton.mp q).symm
  obtain ⟨a', b', e1, e2, t1, t2, g1, g2⟩ := T
  have i1 : (h.get? 66).isSome = true := by rw [n1.1]; rfl
  have i2 : (h.get? 73).isSome = true := by rw [n2.1]; rfl
  obtain ⟨x1, M1, W1, y1, z1⟩ := tabW_back W.w1 t1 g1 F'
  obtain ⟨x2, M2, W2, y2, z2⟩ := tabW_back W.w2 t2 g2 F'
  refine x a' b' (x1 ++ x2) F' (fun p hp => ?_) ⟨W1.more fun p hp => List.mem_append_left _ hp, W2.more fun p hp => List.mem_append_right _ hp, grow_entry W.g1 g1 W.G F i1 i2, grow_entry W.g2 g2 W.G F i1 i2, W.G⟩ (fun p hp => (List.mem_append.mp hp).elim (y1 p) (y2 p)) fun p hp => (List.mem_append.mp hp).elim (z1 p) (z2 p)
  rcases List.mem_append.mp hp with hp | hp
  · exact ⟨k _ _ (N _ (hl p hp).1).1 (hl p hp).2, (N _ (hl p hp).1).2⟩
  · rcases List.mem_cons.mp hp with rfl | hp
    · exact ⟨e1, n1.2⟩
    · rcases List.mem_cons.mp hp with rfl | hp
      · exact ⟨e2, n2.2⟩
      · rcases List.mem_append.mp hp with hp | hp
        · exact M1 p hp
        · exact M2 p hp
theorem tabs_new {h₀ h h' : Heap} {L r : Addr} {m : Str → Option Value} {o : Obj} {news' : List (Addr × Obj)} (F : Fr h₀ L h m) (N : News h₀ L h' news') (f : h.get? r = none) (g : h'.get? r = some o) : News h₀ L h' ((r, o) :: news') := fun p hp => by
  rcases List.mem_cons.mp hp with rfl | hp
  · refine ⟨g, fun q => ?_, ?_⟩
    · obtain ⟨oL, es, ep, hL, _⟩ := F.ns
      have q : r = L := q
      rw [← q, f] at hL; cases hL
    · cases q : h₀.get? r with
      | none => rfl
      | some x => have := F.keep _ _ q; rw [f] at this; cases this
  · exact N p hp
theorem code_ne {h' : Heap} {r : Addr} {vs : Array Value} {n : Nat} {ex : List (Addr × Obj)} (z : ∀ p ∈ ex, ∃ q, h'.CodeRec (.ref p.1) q) (g : h'.get? r = some (listOf vs n)) : ∀ p ∈ ex, p.1 ≠ r := fun p hp e => by
  obtain ⟨q, c₂, oc, vs', t, e2, hoc, hd, hv⟩ := z p hp
  cases e2
  rw [e, g] at hoc
  cases hoc
  cases hd
theorem led_ne {h₀ h : Heap} {L : Addr} {led : List (Addr × Obj)} (N : News h₀ L h led) {p q : Addr × Obj} (hp : p ∈ led) (hq : q ∈ led) (hd : p.2.cls ≠ q.2.cls) : @Ne Nat p.1 q.1 := fun e => by
  have h1 := (N p hp).1
  rw [show p.1 = q.1 from e, (N q hq).1] at h1
  exact hd (congrArg Obj.cls (Option.some.inj h1)).symm
theorem led_ne2 {h₀ h : Heap} {L : Addr} {all : List (Addr × Obj)} {a : Addr} {o : Obj} {p q : Array Value} (N : News h₀ L h all) (hm : (a, o) ∈ all) (h66 : (66, tabObj p) ∈ all) (h73 : (73, tabObj q) ∈ all) (hd : o.cls ≠ (tabObj #[]).cls) : @Ne Nat a 66 ∧ @Ne Nat a 73 :=
  ⟨led_ne N hm h66 hd, led_ne N hm h73 hd⟩
theorem off_led {h₀ h : Heap} {L : Addr} {all : List (Addr × Obj)} {a : Addr} {o : Obj} {p q : Array Value} (N : News h₀ L h all) (hm : (a, o) ∈ all) (h66 : (66, tabObj p) ∈ all) (h73 : (73, tabObj q) ∈ all) (hd : o.cls ≠ (tabObj #[]).cls) : a ∉ ([66, 73] : List Addr) := fun m => by
  rcases List.mem_cons.mp m with z | m
  · exact (led_ne2 N hm h66 h73 hd).1 z
  · exact (led_ne2 N hm h66 h73 hd).2 (List.mem_singleton.mp m)
local macro_rules | `(tactic| walk_at "mine tabsnew") => `(tactic| ((rename Keep [66, 73] _ _ => kp9); (rename TabsN _ _ _ _ => tb9); (rename Heap.get? _ _ = none => fr9); (rename Heap.get? _ _ = some (listOf _ _) => gt9); (try dsimp only at kp9); (try dsimp only at tb9); (try dsimp only at fr9); (have A9 := new_off (by k_asm) fr9); (simp only [AllNe, and_true] at A9); (refine' tabs_elim ?zW ?zF ?zN ?zS kp9 tb9 ?_; (case zF => k_asm); (case zN => k_asm); (case zS => walk_at "mine loc"); (case zW => assumption)); clear kp9 tb9; intro a9 b9 ex9 F9 N9 W9 X9 Z9; (have C9 := code_ne Z9 gt9); (have M9 := tabs_new (by k_asm) N9 fr9 gt9); clear N9 Z9 fr9 gt9; (try simp only [List.cons_append, List.nil_append] at M9); walk_at "mine apart"; (try k_sweep); (try dsimp only); (try k_fold)))
local macro_rules | `(tactic| walk_at "mine ex") => `(tactic| (intro p hp; (repeat (first | exact hp | (refine List.mem_cons_of_mem _ ?_)))))
local macro_rules | `(tactic| walk_at "mine loc") => `(tactic| first | exact LocS.here | (refine' LocS.cons (led_ne2 (by k_asm) ?zl1 ?zl2 ?zl3 ?zl4) ?zlb; (case zl1 => k_mem); (case zl2 => k_mem); (case zl3 => k_mem); (case zl4 => (intro e; cases e)); (case zlb => walk_at "mine loc")) | (refine' LocS.cons ?zla ?zlb; (case zla => exact ⟨by k_ne, by k_ne⟩); (case zlb => walk_at "mine loc")))
local macro_rules | `(tactic| walk_at "mine tab1") => `(tactic| exact codeW_at (TabP.w1 (by assumption)) (by k_asm) (by k_asm) (by walk_at "mine ex"))
local macro_rules | `(tactic| walk_at "mine tab2") => `(tactic| exact codeW_at (TabP.w2 (by assumption)) (by k_asm) (by k_asm) (by walk_at "mine ex"))
local macro_rules | `(tactic| walk_at "mine tabs") => `(tactic| ((rename Keep [66, 73] _ _ => kp9); (rename TabsN _ _ _ _ => tb9); (try dsimp only at kp9); (try dsimp only at tb9); (refine' tabs_elim ?zW ?zF ?zN ?zS kp9 tb9 ?_; (case zF => k_asm); (case zN => k_asm); (case zS => walk_at "mine loc"); (case zW => assumption)); clear kp9 tb9; intro a9 b9 ex9 F9 N9 W9 X9 Z9; clear Z9; (try simp only [List.cons_append, List.nil_append] at N9); walk_at "mine apart"; (try k_sweep); (try dsimp only); (try k_fold)))
local macro_rules | `(tactic| walk_at "mine apart") => `(tactic| (rename ∀ p ∈ _, _ ∨ _ => x9; clear x9))
local macro_rules | `(tactic| walk_at "mine call") => `(tactic| (k_dflt (refine' digitsC ?H ?t1 ?t2 ?hl ?hi ?hlen ?hn ?hn2 ?h60 ?D ?_; (case H => walk_at "mine here"); (case t1 => walk_at "mine tab1"); (case t2 => walk_at "mine tab2"); (case hl => walk_at "mine list"); (case hi => l_ints); (case hlen => walk_at "mine fact"); (case hn => walk_at "mine fact"); (case hn2 => walk_at "mine fact"); (case h60 => walk_at "mine fact"); (case D => walk_at "mine fact"); k_whole); intro t9 h9 tk9 k9 tb9; walk_at "mine tabs"))

theorem at_short : True := by
  w_top off
  k_with_none
  trivial
/-- a number's figures at the marks, made one number -/
def shortOf (ks : List Int) (x : Int) : Int := inVal 1 (ks.map fun k => Builtin.bitAnd (x.fdiv (2 ^ k.toNat)) 1) 0 ((ks.map fun k => Builtin.bitAnd (x.fdiv (2 ^ k.toNat)) 1).length : Nat)
theorem short_dig (ks : List Int) (x : Int) : DigOk (1 : Int).toNat (ks.map fun k => Builtin.bitAnd (x.fdiv (2 ^ k.toNat)) 1) := fun i hi => by
  rw [List.length_map] at hi
  simp only [List.getD_eq_getElem?_getD, List.getElem?_map, List.getElem?_eq_getElem hi, Option.map_some, Option.getD_some]
  rw [bitAnd_m1]
  constructor
  · omega
  · show _ < (2 : Int) ^ 1
    omega
set_option maxHeartbeats 4000000 in
theorem shortC {w : World} {A : Around} {s : Shared} {Q E : Value → Shared → Prop} {l : Addr} {vs : List Value} {ks : List Int} {x : Int} {tx : Tok} {ta tb : Option Addr}
    (H : Here w A 60 600 s [(66, tabObj (tabOf 85 4 ta)), (73, tabObj (tabOf 100 4 tb))]) (t1 : CodeAt s.heap qI ta) (t2 : CodeAt s.heap qD tb)
    (hl : s.heap.IsList l vs.toArray) (hi : IntsAre vs ks) (hlen : ks.length < 10) (hk0 : ∀ k ∈ ks, 0 ≤ k)
    (ret : ∀ t h' tk', Keep [66, 73] s.heap h' → TabsN s.heap ta tb h' → Q (.int (shortOf ks x) t) { s with heap := h', toks := tk' }) :
    wpAny (model PySem.Challenge.rw_wf0065_01.row.prog w) A (call (.ref 181) [.ref l, .int x tx]) Q E s := by
  obtain ⟨dp, un, gd, env, outer, A₀, base, h₀, L, m, mg, mb, p, loose, mean, rfl, B, F, N, X, T, hf, hke, hdp, hun, c1, c2⟩ := H
  revert X; k_fill; intro X
  refine wpAny_call ?_
  k_dflt (refine' enterC (binds := [(Str.ofString "marks", .ref l), (Str.ofString "number", .int x tx)]) ⟨B, F, X, N, T, rfl, hf, hke⟩ (by walk_at "mine def") (by walk_at "mine def") rfl (by walk_at "mine takes") rfl (by decide +kernel) ?_; k_whole)
  rintro g L' h' tk cells Y' ⟨F', N', B', X', T', G', l1, st'⟩
  have e66 := N.get (a := 66) (.head _)
  have e73 := N.get (a := 73) (.tail _ (.head _))
  have hl' : g.IsList l vs.toArray := isList_ground hl G' (isList_off hl (fun p hp => (N p hp).1) (by simp))
  have W' := tabP_start t1 t2 e66 e73 G'
  have hsub := fun (h₂ : Heap) (m₂ : Str → Option Value) (F₂ : Fr g L' h₂ m₂) => (Keep.of G' F₂ : Keep [66, 73] s.heap h₂)
  have c1' := c1.keeps st'
  have c2' := c2.keeps st'
  have hvl := hi.length
  clear hl B F N X T hf c1 c2 st' t1 t2 e66 e73
  k_lt l1
  k_cells Y'
  (try simp only [List.cons_append, List.nil_append] at N')
  dsimp only [Run]
  k_unmd
  k_fold
  k_with "mine fact" => first | exact hk0 _ (by assumption) | exact short_dig _ _ | ((rw [List.length_map]); omega)
  k_steps
  k_with_none
  dsimp only [Back]
  exact ret _ _ _ (hsub _ _ (by assumption)) (tabs_end (by assumption) (by k_asm) (by k_asm) (by k_mem) (by k_mem) (by walk_at "mine ex"))
local macro_rules | `(tactic| walk_at "mine call") => `(tactic| (k_dflt (refine' shortC ?H ?t1 ?t2 ?hl ?hi ?hlen ?hk0 ?_; (case H => walk_at "mine here"); (case t1 => walk_at "mine tab1"); (case t2 => walk_at "mine tab2"); (case hl => walk_at "mine list"); (case hi => l_ints); (case hlen => walk_at "mine fact"); (case hk0 => walk_at "mine fact"); k_whole); intro t9 h9 tk9 k9 tb9; walk_at "mine tabs"))

theorem at_node : True := by
  w_top off
  k_with_none
  trivial
/-- an element of a comprehension that may fill the tables -/
def Apart (ex : List (Addr × Obj)) : List (Addr × Obj) → Prop
  | [] => True
  | q :: r => (∀ p ∈ ex, p.1 ≠ q.1) ∧ Apart ex r
theorem Apart.nil : ∀ {l : List (Addr × Obj)}, Apart [] l
  | [] => trivial
  | _ :: _ => ⟨fun _ h => (nomatch h), Apart.nil⟩
theorem Apart.more {h : Heap} {ex ex' : List (Addr × Obj)} (x : ∀ p ∈ ex', p.1 ∈ ex.map (·.1) ∨ h.get? p.1 = none) : ∀ {l : List (Addr × Obj)}, (∀ p ∈ l, h.get? p.1 = some p.2) → Apart ex l → Apart ex' l
  | [], _, _ => trivial
  | q :: r, k, a => ⟨fun p hp z => (by
      rcases x p hp with e | e
      · obtain ⟨y, hy, e⟩ := List.mem_map.mp e
        exact a.1 y hy (e.trans z)
      · have := k q (.head _)
        rw [← z, e] at this; cases this), Apart.more x (fun p hp => k p (.tail _ hp)) a.2⟩
def CtEl (H h₀ : Heap) (a₀ b₀ : Option Addr) (loc : List (Addr × Obj)) (r : Int) (y : Value) (news' : List (Addr × Obj)) : Prop :=
  ∃ a b ex t, news' = loc ++ (66, tabObj (tabOf 85 4 a)) :: (73, tabObj (tabOf 100 4 b)) :: ex ∧ TabP H h₀ a₀ b₀ a b ex ∧ y = .int r t ∧ Apart ex loc
section
variable {prog : Program} {w : World} {A : Around} {h₀ H : Heap} {L : Addr} {m : Str → Option Value} {env : Env} {elt : Expr} {x : Str} {scope : Scope} {cl : List (Str × Addr)} {s : Shared} {S : List (Addr × Obj) → Prop} {Fin : List Value → List (Addr × Obj) → Prop}
theorem ints_next {vs : List Value} {ns : List Int} {i : Nat} {k : Int} {t : Tok} (hk : ns[i]? = some k) (g : Int → Int) (h : IntsAre vs ((ns.take i).map g)) : IntsAre (vs ++ [.int (g k) t]) ((ns.take (i + 1)).map g) := by
  rw [List.take_add_one, hk, List.map_append]
  exact h.append (.cons _ t .nil)
/-- a comprehension, by what holds ahead of each turn -/
theorem rest_by {n : Nat} {P : Nat → Value → Prop} (Inv : Nat → List Value → List (Addr × Obj) → Prop)
    (turn : ∀ i v ys news I oI C oC D m₂ h tk (E' : Value → Shared → Prop), i < n → P i v → Inv i ys news → LCg.NsObj oC m₂ → m₂ x = some v → Fr h₀ L h m → News h₀ L h ((I, oI) :: (C, oC) :: (D, LCg.lst ys) :: news) → LCg.Off3 I C D news → ((@Ne Nat I C) ∧ (@Ne Nat I D) ∧ (@Ne Nat C D)) →
      wpAny (model prog w) A (eval elt (compEnvC scope cl C env)) (LCg.CompEnd h₀ L m { s with heap := h, toks := tk } I oI C oC D (LCg.lst ys) S (fun y news' => Inv (i + 1) (ys ++ [y]) news')) E' { s with heap := h, toks := tk })
    (fin : ∀ ys news, Inv n ys news → Fin ys news) : ∀ k i ys news, i + k = n → Inv i ys news → LCg.CompRest prog w A h₀ L m env elt x scope cl s S P Fin k i ys news
  | 0, _, ys, news, e, h => LCg.CompRest.zero (fin ys news (e ▸ h))
  | k + 1, i, ys, news, e, h => LCg.CompRest.succ fun v I oI C oC D m₂ h' tk E' hv hC hx F N off ne =>
    wpAny_mono (turn i v ys news I oI C oC D m₂ h' tk E' (by omega) hv h hC hx F N off ne) (fun y _ ⟨h₂, tk₂, nw, e₂, F₂, N₂, off₂, hS, r⟩ => ⟨h₂, tk₂, nw, e₂, F₂, N₂, off₂, hS, rest_by Inv turn fin k (i + 1) _ nw (by omega) r⟩) fun _ _ e => e
theorem comp_tabs {vs : List Value} {ns : List Int} {news loc ex : List (Addr × Obj)} {a₀ b₀ a b : Option Addr} (g : Int → Int) (hi : IntsAre vs ns) (W : TabP H h₀ a₀ b₀ a b ex) (Sl : LocS ((66, tabObj (tabOf 85 4 a)) :: (73, tabObj (tabOf 100 4 b)) :: ex) news loc) (Ap : Apart ex loc)
    (turn : ∀ k t a b ex I oI C oC D m₂ ys h tk (E' : Value → Shared → Prop), k ∈ ns → TabP H h₀ a₀ b₀ a b ex → Apart ex loc → LCg.NsObj oC m₂ → m₂ x = some (.int k t) → Fr h₀ L h m → News h₀ L h ((I, oI) :: (C, oC) :: (D, LCg.lst ys) :: (loc ++ (66, tabObj (tabOf 85 4 a)) :: (73, tabObj (tabOf 100 4 b)) :: ex)) →
      LCg.Off3 I C D (loc ++ (66, tabObj (tabOf 85 4 a)) :: (73, tabObj (tabOf 100 4 b)) :: ex) → ((@Ne Nat I C) ∧ (@Ne Nat I D) ∧ (@Ne Nat C D)) →
      wpAny (model prog w) A (eval elt (compEnvC scope cl C env)) (LCg.CompEnd h₀ L m { s with heap := h, toks := tk } I oI C oC D (LCg.lst ys) S (fun y news' => CtEl H h₀ a₀ b₀ loc (g k) y news')) E' { s with heap := h, toks := tk })
    (fin : ∀ ys a b ex, IntsAre ys (ns.map g) → TabP H h₀ a₀ b₀ a b ex → Apart ex loc → Fin ys (loc ++ (66, tabObj (tabOf 85 4 a)) :: (73, tabObj (tabOf 100 4 b)) :: ex)) : LCg.CompRest prog w A h₀ L m env elt x scope cl s S (fun i v => vs.toArray[i]? = some v) Fin vs.toArray.size 0 [] news := by
  have len : vs.toArray.size = ns.length := List.size_toArray.trans hi.length
  rw [len, Sl.eq]
  refine rest_by (fun i ys nw => ∃ a b ex, nw = loc ++ (66, tabObj (tabOf 85 4 a)) :: (73, tabObj (tabOf 100 4 b)) :: ex ∧ IntsAre ys ((ns.take i).map g) ∧ TabP H h₀ a₀ b₀ a b ex ∧ Apart ex loc) ?_ ?_ _ 0 [] _ (Nat.zero_add _) ⟨a, b, ex, rfl, .nil, W, Ap⟩
  · rintro i v ys _ I oI C oC D m₂ h tk E' _ hv ⟨a, b, ex, rfl, hy, W, Ap⟩ hC hx F N off ne
    obtain ⟨k, t, rfl, hk⟩ := IntsAre.at hi i v (by simpa using hv)
    refine wpAny_mono (turn k t a b ex I oI C oC D m₂ ys h tk E' (List.mem_of_getElem? hk) W Ap hC hx F N off ne) ?_ fun _ _ e => e
    rintro _ s₂ ⟨h', tk', nw, e, F', N', off', hS, a', b', ex', t', hn, W', rfl, Ap'⟩
    exact ⟨h', tk', nw, e, F', N', off', hS, a', b', ex', hn, ints_next hk g hy, W', Ap'⟩
  · rintro ys _ ⟨a, b, ex, rfl, hy, W, Ap⟩
    exact fin ys a b ex (by rwa [List.take_length] at hy) W Ap
/-- the code objects made stand off the comprehension's own -/
theorem off3_more {h : Heap} {I C D : Addr} {oI oC oD : Obj} {news loc ex ex' : List (Addr × Obj)} {a b : Option Addr} (N : ∀ p ∈ news, h.get? p.1 = some p.2) (hI : (I, oI) ∈ news) (hC : (C, oC) ∈ news) (hD : (D, oD) ∈ news)
    (off : LCg.Off3 I C D (loc ++ (66, tabObj (tabOf 85 4 a)) :: (73, tabObj (tabOf 100 4 b)) :: ex)) (x : ∀ p ∈ ex', p.1 ∈ ex.map (·.1) ∨ h.get? p.1 = none) :
    ∀ a' b', LCg.Off3 I C D (loc ++ (66, tabObj (tabOf 85 4 a')) :: (73, tabObj (tabOf 100 4 b')) :: ex') := by
  intro a' b'
  have o := off.mem
  refine LCg.Off3.of fun p hp => ?_
  rcases List.mem_append.mp hp with hp | hp
  · exact o p (List.mem_append_left _ hp)
  · rcases List.mem_cons.mp hp with rfl | hp
    · exact o (66, tabObj (tabOf 85 4 a)) (List.mem_append_right _ (.head _))
    · rcases List.mem_cons.mp hp with rfl | hp
      · exact o (73, tabObj (tabOf 100 4 b)) (List.mem_append_right _ (.tail _ (.head _)))
      · rcases x p hp with q | q
        · obtain ⟨r, hr, e⟩ := List.mem_map.mp q
          rw [← e]
          exact o r (List.mem_append_right _ (.tail _ (.tail _ hr)))
        · refine ⟨fun z => ?_, fun z => ?_, fun z => ?_⟩
          · have := N _ hI; rw [← z, q] at this; cases this
          · have := N _ hC; rw [← z, q] at this; cases this
          · have := N _ hD; rw [← z, q] at this; cases this
end
local macro_rules | `(tactic| walk_at "CompSrc") => `(tactic| (k_here; k_extra "src"))
local macro_rules | `(tactic| walk_at "CompEnd") => `(tactic| k_extra "cend")
local macro_rules | `(tactic| walk_at "FinA") => `(tactic| ((unfold LCg.FinA); intro D' h' tk' F' N' o1'; (try simp only [List.nil_append, List.cons_append, LCg.Off1, and_true] at o1'); (try simp only [List.nil_append, List.cons_append] at N'); (try dsimp only)))
local macro_rules | `(tactic| walk_at "FinE") => `(tactic| ((unfold LCg.FinE); intro D' h' tk' F' N' o1'; (try simp only [List.nil_append, List.cons_append, LCg.Off1, and_true] at o1'); (try simp only [List.nil_append, List.cons_append] at N'); (try dsimp only)))
local macro_rules | `(tactic| k_all) => `(tactic| with_reducible assumption)
local macro_rules | `(tactic| walk_at "mine apart") => `(tactic| first | k_extra "apart" | (rename ∀ p ∈ _, _ ∨ _ => x9; clear x9))

theorem shortOf_eq (ks : List Int) (x : Int) : shortOf ks x = dv 1 (ks.map fun k => Builtin.bitAnd (x.fdiv (2 ^ k.toNat)) 1) 0 ks.length := by
  unfold shortOf inVal
  rw [List.length_map]
  rfl
theorem shortOf_bound (ks : List Int) (x : Int) : 0 ≤ shortOf ks x ∧ shortOf ks x < 2 ^ ks.length := by
  rw [shortOf_eq]
  have h := dv_bound (short_dig ks x) ks.length 0 (by rw [List.length_map]; omega)
  rw [show (1 : Int).toNat = 1 from rfl, Nat.one_mul] at h
  exact h
theorem or_above {m : Nat} {k : Int} (h0 : 0 ≤ k) (h1 : k < 2 ^ m) : Builtin.bitOr (1 * 2 ^ ((m : Nat) : Int).toNat) k = 2 ^ m + k := by
  rw [Int.toNat_natCast, Int.one_mul, bitOr_and, kbt_bit']
  rw [Int.ediv_eq_zero_of_lt h0 h1]
  omega
theorem flds_dig {m : Nat} {sh : List Int} (h : ∀ k ∈ sh, 0 ≤ k ∧ k < 2 ^ m) : DigOk (((m : Nat) : Int) + 1).toNat (sh.map fun k' => Builtin.bitOr (1 * 2 ^ ((m : Nat) : Int).toNat) k') := fun i hi => by
  rw [List.length_map] at hi
  simp only [List.getD_eq_getElem?_getD, List.getElem?_map, List.getElem?_eq_getElem hi, Option.map_some, Option.getD_some]
  obtain ⟨h0, h1⟩ := h sh[i] (List.getElem_mem hi)
  rw [or_above h0 h1, show (((m : Nat) : Int) + 1).toNat = m + 1 by omega, Int.pow_succ]
  have hp : (0 : Int) < 2 ^ m := Int.pow_pos (by decide)
  omega
theorem node_dig {ks ns : List Int} : DigOk (((ks.length : Nat) : Int) + 1).toNat ((ns.map (shortOf ks)).map fun k' => Builtin.bitOr (1 * 2 ^ ((ks.length : Nat) : Int).toNat) k') :=
  flds_dig fun k hk => by
    obtain ⟨x, _, rfl⟩ := List.mem_map.mp hk
    exact shortOf_bound ks x
theorem ones_dig {m n : Nat} : DigOk (((m : Nat) : Int) + 1).toNat (List.replicate n (1 : Int)) := fun i hi => by
  rw [List.length_replicate] at hi
  simp only [List.getD_eq_getElem?_getD, List.getElem?_replicate, hi, if_true, Option.getD_some]
  rw [show (((m : Nat) : Int) + 1).toNat = m + 1 by omega, Int.pow_succ]
  have hp : (0 : Int) < 2 ^ m := Int.pow_pos (by decide)
  omega
theorem ones_eq (n : Nat) : (List.replicate ((n : Nat) : Int).toNat [(1 : Int)]).flatten = List.replicate n 1 := by simp
theorem ones_dig' {m n : Nat} : DigOk (((m : Nat) : Int) + 1).toNat (List.replicate ((n : Nat) : Int).toNat [(1 : Int)]).flatten := by rw [ones_eq]; exact ones_dig
theorem prod60 {m n : Nat} (h1 : m ≤ 5) (h2 : n ≤ 6) : (((m : Nat) : Int) + 1) * (n : Int) ≤ 60 := by
  have : (m + 1) * n ≤ 6 * 6 := Nat.mul_le_mul (by omega) h2
  have h3 : (((m + 1) * n : Nat) : Int) ≤ 36 := by exact_mod_cast this
  rw [Int.natCast_mul, Int.natCast_add] at h3
  exact Int.le_trans h3 (by decide)

def shortsOf (ns : List Int) : List Int := ns.map (shortOf (marksOf ns))
def fieldsV (ns : List Int) : Int := inVal (((marksOf ns).length : Int) + 1) ((ns.map (shortOf (marksOf ns))).map fun k' => Builtin.bitOr (1 * 2 ^ ((marksOf ns).length : Int).toNat) k') 0 (((ns.map (shortOf (marksOf ns))).map fun k' => Builtin.bitOr (1 * 2 ^ ((marksOf ns).length : Int).toNat) k').length : Nat)
def onesV (ns : List Int) : Int := inVal (((marksOf ns).length : Int) + 1) (List.replicate ((ns.length : Nat) : Int).toNat [(1 : Int)]).flatten 0 ((List.replicate ((ns.length : Nat) : Int).toNat [(1 : Int)]).flatten.length : Nat)
abbrev tupObj (vs : List Value) : Obj := { cls := .type "tuple", data := .seq vs.toArray }

set_option maxHeartbeats 4000000 in
theorem nodeC {w : World} {A : Around} {s : Shared} {Q E : Value → Shared → Prop} {l : Addr} {vs : List Value} {ns : List Int} {ta tb : Option Addr}
    (H : Here w A 80 800 s [(66, tabObj (tabOf 85 4 ta)), (73, tabObj (tabOf 100 4 tb))]) (t1 : CodeAt s.heap qI ta) (t2 : CodeAt s.heap qD tb)
    (hl : s.heap.IsList l vs.toArray) (hi : IntsAre vs ns) (hlen : ns.length < 7) (hk0 : ∀ k ∈ marksOf ns, 0 ≤ k)
    (ret : ∀ r rm rs vm vx nm nx tf to h' tk', Keep [66, 73] s.heap h' → TabsN s.heap ta tb h' → s.heap.get? r = none → s.heap.get? rm = none → s.heap.get? rs = none → h'.get? r = some (tupObj [.ref rm, .ref rs, .int (fieldsV ns) tf, .int (onesV ns) to]) →
      h'.get? rm = some (listOf vm.toArray nm) → IntsAre vm (marksOf ns) → h'.get? rs = some (listOf vx.toArray nx) → IntsAre vx (shortsOf ns) → Q (.ref r) { s with heap := h', toks := tk' }) :
    wpAny (model PySem.Challenge.rw_wf0065_01.row.prog w) A (call (.ref 186) [.ref l]) Q E s := by
  obtain ⟨dp, un, gd, env, outer, A₀, base, h₀, L, m, mg, mb, p, loose, mean, rfl, B, F, N, X, T, hf, hke, hdp, hun, c1, c2⟩ := H
  revert X; k_fill; intro X
  refine wpAny_call ?_
  k_dflt (refine' enterC (binds := [(Str.ofString "row", .ref l)]) ⟨B, F, X, N, T, rfl, hf, hke⟩ (by walk_at "mine def") (by walk_at "mine def") rfl (by walk_at "mine takes") rfl (by decide +kernel) ?_; k_whole)
  rintro g L' h' tk cells Y' ⟨F', N', B', X', T', G', l1, st'⟩
  have e66 := N.get (a := 66) (.head _)
  have e73 := N.get (a := 73) (.tail _ (.head _))
  have hl' : g.IsList l vs.toArray := isList_ground hl G' (isList_off hl (fun p hp => (N p hp).1) (by simp))
  have W' := tabP_start t1 t2 e66 e73 G'
  have hsub := fun (h₂ : Heap) (m₂ : Str → Option Value) (F₂ : Fr g L' h₂ m₂) => (Keep.of G' F₂ : Keep [66, 73] s.heap h₂)
  have c1' := c1.keeps st'
  have c2' := c2.keeps st'
  have hvl := hi.length
  clear hl B F N X T hf c1 c2 st' t1 t2 e66 e73
  k_lt l1
  k_cells Y'
  (try simp only [List.cons_append, List.nil_append] at N')
  dsimp only [Run]
  k_unmd
  k_fold
  have hm5 : (marksOf ns).length ≤ 5 := Nat.le_trans (marksOf_length ns) (by omega)
  have hMk := kstMark
  k_with "mine call" => (k_dflt (refine' marksC ?marksC_H ?marksC_hl ?marksC_hi ?marksC_hlen ?_; (case marksC_H => walk_at "mine here"); (case marksC_hl => walk_at "mine list"); (case marksC_hi => l_ints); (case marksC_hlen => walk_at "mine fact"); k_whole); intro r9 vs9 n9 h9 tk9 k9 f9 g9 i9; walk_at "mine new")
  k_with "mine fact" => first | exact hk0 | exact node_dig | exact ones_dig' | (simp only [ones_eq, List.length_map, List.length_replicate]; first | omega | exact prod60 (by omega) (by omega))
  k_with "apart" => (rename ∀ p ∈ _, _ ∨ _ => x9; have zO9 := off3_more (fun p hp => (zN p hp).1) (.head _) (.tail _ (.head _)) (.tail _ (.tail _ (.head _))) zoff x9; have zA9 := zA.more x9 (fun p hp => (zN p (List.mem_cons_of_mem _ (List.mem_cons_of_mem _ (List.mem_cons_of_mem _ (List.mem_append_left _ hp))))).1); clear x9)
  k_with "cend" => (k_dflt (exact LCg.CompEnd.intro (by assumption) (by assumption) _ (fun p hp => hp) (zO9 _ _) (Or.inl (by assumption)) ⟨_, _, _, _, rfl, by assumption, rfl, zA9⟩))
  k_with "src" => (k_dflt ((rename News _ _ _ _ => zNw); (try simp only [List.cons_append, List.nil_append] at zNw); (refine' LCg.CompSrc.base rfl (by k_asm) zNw (by assumption) ?zsz ?zR; (case zsz => (rw [PySem.sizeLine_eq]; simp only [List.size_toArray]; omega)); (case' zR => (intro g'; refine' comp_tabs (shortOf (marksOf ns)) hi ?zW ?zS ?zAp ?zturn ?zfin; (case zW => assumption); (case zS => walk_at "mine loc"); (case zAp => exact Apart.nil); (case' zturn => (clear zNw; intro zk zt za zb zex zI zoI zC zoC zD zm zys zh ztk zE zmem zW zA zNs zx zF zN zoff zne; have zoff2 := zoff; (simp only [List.cons_append, List.nil_append, LCg.Off3, and_true] at zoff2); (simp only [List.cons_append, List.nil_append] at zN))); (case' zfin => (clear zNw; intro zys za zb zex zI zW zA; (simp only [Apart, and_true] at zA); obtain ⟨zA1, zA2, zA3⟩ := zA)); (all_goals (try k_fold)))))))
  k_steps
  k_with_none
  (rename News _ _ _ _ => nwE)
  have gT := nwE.get (.head _)
  refine' ret _ _ _ _ _ _ _ _ _ _ _ (hsub _ _ (by assumption)) ?e2 ?e3 ?e4 ?e5 gT ?e6 ?e7 ?e8 ?e9
  case e2 => exact tabs_end (by assumption) (by k_asm) nwE (by k_mem) (by k_mem) (by walk_at "mine ex")
  case e6 => refine nwE.get ?_; k_mem
  case e7 => assumption
  case e8 => refine nwE.get ?_; k_mem
  case e9 => assumption
  case e3 => refine Keep.fresh G' nwE (by k_mem) (off_led nwE (by k_mem) (by k_mem) (by k_mem) (by intro e; cases e))
  case e4 => refine Keep.fresh G' nwE (by k_mem) (off_led nwE (by k_mem) (by k_mem) (by k_mem) (by intro e; cases e))
  case e5 => refine Keep.fresh G' nwE (by k_mem) (off_led nwE (by k_mem) (by k_mem) (by k_mem) (by intro e; cases e))

theorem at_i2d : True := by
  w_top off
  k_with_none
  trivial
/-- the figures of a number to the base 2 ^ n, k of them, the lowest ahead -/
def digs (n : Nat) : Nat → Int → List Int
  | 0, _ => []
  | k + 1, x => x % 2 ^ n :: digs n k (x / 2 ^ n)
theorem digs_length (n : Nat) : ∀ k x, (digs n k x).length = k
  | 0, _ => rfl
  | k + 1, x => by rw [digs, List.length_cons, digs_length n k]
theorem two_pos (n : Nat) : (0 : Int) < 2 ^ n := Int.pow_pos (by decide)
theorem digs_ok (n : Nat) : ∀ k x, ∀ d ∈ digs n k x, 0 ≤ d ∧ d < 2 ^ n
  | 0, _, d, h => nomatch h
  | k + 1, x, d, h => by
    rcases List.mem_cons.mp h with rfl | h
    · exact ⟨Int.emod_nonneg _ (Int.ne_of_gt (two_pos n)), Int.emod_lt_of_pos _ (two_pos n)⟩
    · exact digs_ok n k _ d h
theorem digs_add (n : Nat) : ∀ a b x, digs n (a + b) x = digs n a x ++ digs n b (x / 2 ^ (n * a))
  | 0, b, x => by simp [digs]
  | a + 1, b, x => by
    rw [show a + 1 + b = (a + b) + 1 by omega, digs, digs_add n a b, digs, List.cons_append, Int.ediv_ediv_of_nonneg (Int.le_of_lt (two_pos n)), ← Int.pow_add]
    rw [show n + n * a = n * (a + 1) by rw [Nat.mul_add]; omega]
theorem digs_mod (n : Nat) : ∀ a x, digs n a (x % 2 ^ (n * a)) = digs n a x
  | 0, x => rfl
  | a + 1, x => by
    have e : (2 : Int) ^ (n * (a + 1)) = 2 ^ n * 2 ^ (n * a) := by rw [← Int.pow_add]; congr 1; rw [Nat.mul_add]; omega
    rw [digs, digs, e]
    have hd : (2 : Int) ^ n ∣ 2 ^ n * 2 ^ (n * a) := ⟨_, rfl⟩
    rw [Int.emod_emod_of_dvd _ hd]
    congr 1
    have h2 : x % (2 ^ n * 2 ^ (n * a)) / 2 ^ n = x / 2 ^ n % 2 ^ (n * a) := by
      have h3 : x % (2 ^ n * 2 ^ (n * a)) = x - 2 ^ n * (2 ^ (n * a) * (x / (2 ^ n * 2 ^ (n * a)))) := by rw [Int.emod_def, Int.mul_assoc]
      rw [h3, Int.sub_eq_add_neg, ← Int.mul_neg, Int.add_mul_ediv_left _ _ (Int.ne_of_gt (two_pos n)), Int.emod_def (x / 2 ^ n), Int.ediv_ediv_of_nonneg (Int.le_of_lt (two_pos n))]
      omega
    rw [h2, digs_mod n a]
theorem digOk_of {n : Nat} {ds : List Int} (h : ∀ d ∈ ds, 0 ≤ d ∧ d < 2 ^ n) : DigOk n ds := fun i hi => by
  simp only [List.getD_eq_getElem?_getD, List.getElem?_eq_getElem hi, Option.getD_some]
  exact h _ (List.getElem_mem hi)
theorem and_high (x s : Nat) : x &&& (x / 2 ^ s * 2 ^ s) = x / 2 ^ s * 2 ^ s := by
  apply Nat.eq_of_testBit_eq
  intro i
  rw [Nat.testBit_and, ← Nat.shiftRight_eq_div_pow, ← Nat.shiftLeft_eq, Nat.testBit_shiftLeft]
  by_cases h : s ≤ i
  · simp only [ge_iff_le, h, decide_true, Bool.true_and, Nat.testBit_shiftRight]
    rw [show s + (i - s) = i by omega, Bool.and_self]
  · simp [h]
theorem xor_high {x : Int} (h : 0 ≤ x) (s : Nat) : Builtin.bitXor x (x.fdiv (2 ^ s) * 2 ^ s) = x % 2 ^ s := by
  have hp := two_pos s
  have e : x.fdiv (2 ^ s) = x / 2 ^ s := Int.fdiv_eq_ediv_of_nonneg _ (Int.le_of_lt hp)
  have h1 : 0 ≤ x / 2 ^ s := Int.ediv_nonneg h (Int.le_of_lt hp)
  rw [e, bitXor_and, bitAnd_pp h (Int.mul_nonneg h1 (Int.le_of_lt hp))]
  obtain ⟨k, rfl⟩ := Int.eq_ofNat_of_zero_le h
  have e2 : ((k : Int) / 2 ^ s * 2 ^ s).toNat = k / 2 ^ s * 2 ^ s := by
    have : ((k : Int) / 2 ^ s * 2 ^ s) = ((k / 2 ^ s * 2 ^ s : Nat) : Int) := by simp
    rw [this, Int.toNat_natCast]
  rw [e2, Int.toNat_natCast, and_high, Int.emod_def]
  have e3 : ((k / 2 ^ s * 2 ^ s : Nat) : Int) = (k : Int) / 2 ^ s * 2 ^ s := by simp
  rw [e3, Int.mul_comm ((k : Int) / 2 ^ s)]
  omega
theorem bits_le {x : Int} {k : Nat} (h0 : 0 ≤ x) (h : x < 2 ^ k) : Builtin.Int.intBits x ≤ k := by
  unfold Builtin.Int.intBits
  split
  · omega
  · rename_i hx
    have hne : x.natAbs ≠ 0 := fun q => hx (by rw [Int.natAbs_eq_zero.mp q]; rfl)
    have : x.natAbs < 2 ^ k := by
      have e : ((x.natAbs : Nat) : Int) = x := Int.natAbs_of_nonneg h0
      have : ((x.natAbs : Nat) : Int) < ((2 ^ k : Nat) : Int) := by rw [e]; simpa using h
      exact_mod_cast this
    have := (Nat.log2_lt hne).mpr this
    omega
theorem lt_bits {x : Int} (h0 : 0 ≤ x) : x < 2 ^ Builtin.Int.intBits x := by
  unfold Builtin.Int.intBits
  split
  · rename_i hx
    rw [beq_iff_eq.mp hx]; decide
  · have h : x.natAbs < 2 ^ (x.natAbs.log2 + 1) := Nat.lt_log2_self
    have e : ((x.natAbs : Nat) : Int) = x := Int.natAbs_of_nonneg h0
    have : ((x.natAbs : Nat) : Int) < ((2 ^ (x.natAbs.log2 + 1) : Nat) : Int) := by exact_mod_cast h
    rw [e] at this
    simpa using this
/-- how many figures -/
def digN (x n : Int) : Int := ((Builtin.Int.intBits x : Int) + n - 1).fdiv n
theorem digN_bound {x n : Int} (h0 : 0 ≤ x) (h1 : x < 2 ^ 60) (hn : 1 ≤ n) : 0 ≤ digN x n ∧ digN x n ≤ 60 ∧ (Builtin.Int.intBits x : Int) ≤ n * digN x n ∧ (x = 0 → digN x n = 0) ∧ (x ≠ 0 → 0 < digN x n) ∧ n * digN x n ≤ (Builtin.Int.intBits x : Int) + n - 1 := by
  have hb := bits_le h0 h1
  unfold digN
  rw [Int.fdiv_eq_ediv_of_nonneg _ (by omega)]
  generalize hB : (Builtin.Int.intBits x : Int) = B
  have hB0 : 0 ≤ B := by omega
  have hB1 : B ≤ 60 := by omega
  have m1 := Int.emod_nonneg (B + n - 1) (show n ≠ 0 by omega)
  have m2 := Int.emod_lt_of_pos (B + n - 1) (show 0 < n by omega)
  have d2 := Int.mul_ediv_add_emod (B + n - 1) n
  have q0 : 0 ≤ (B + n - 1) / n := Int.ediv_nonneg (by omega) (by omega)
  generalize (B + n - 1) / n = q at *
  generalize (B + n - 1) % n = r at *
  have hz : x = 0 → B = 0 := fun e => by rw [← hB, e]; rfl
  have hnz : x ≠ 0 → 1 ≤ B := fun e => by
    rw [← hB]
    unfold Builtin.Int.intBits
    rw [if_neg (by simpa using e)]
    omega
  refine ⟨q0, ?_, by omega, fun e => ?_, fun e => ?_, by omega⟩
  · by_cases hq : q ≤ 60
    · exact hq
    · have : n * 61 ≤ n * q := Int.mul_le_mul_of_nonneg_left (by omega) (by omega)
      omega
  · have := hz e
    by_cases hq : q ≤ 0
    · omega
    · have : n * 1 ≤ n * q := Int.mul_le_mul_of_nonneg_left (by omega) (by omega)
      omega
  · have := hnz e
    by_cases hq : 0 < q
    · exact hq
    · have : q = 0 := by omega
      subst this
      omega
theorem codeRec_offL {h : Heap} {c P : Addr} {q : Str} {vs : Array Value} {n : Nat} (x : h.CodeRec (.ref c) q) (e : h.get? P = some (listOf vs n)) : c ≠ P := fun z => by
  obtain ⟨c₂, oc, vs', t, e2, hoc, hd, hv⟩ := x
  cases e2
  rw [z, e] at hoc
  cases hoc
  cases hd
theorem Keep.led1 {h₀ h g h' : Heap} {L D : Addr} {o o' : Obj} {led : List (Addr × Obj)} {L' : Addr} {m' : Str → Option Value} (N : News h₀ L h ((D, o) :: led)) (G : GSub h g (((D, o) :: led).map (·.1))) (F' : Fr g L' h' m') (N' : News g L' h' ((D, o') :: led)) : Keep [D] h h' :=
  Keep.over N G F' N' fun p hp => (List.mem_cons.mp hp).elim (fun q => .inl (by rw [q]; exact .head _)) fun q => .inr (.tail _ q)
/-- a ledger without one of its rows -/
inductive Pick (D : Addr) (o : Obj) : List (Addr × Obj) → List (Addr × Obj) → Prop
  | head {r : List (Addr × Obj)} : Pick D o ((D, o) :: r) r
  | cons {p : Addr × Obj} {r l : List (Addr × Obj)} : Pick D o r l → Pick D o (p :: r) (p :: l)
local macro_rules | `(tactic| walk_at "mine pick") => `(tactic| first | exact Pick.head | (refine' Pick.cons ?zpk; (case zpk => walk_at "mine pick")))
theorem shift60 {n a m b : Int} (hn : 0 ≤ n) (h1 : a < m) (h2 : m < b) (h0 : 0 ≤ a) (h3 : m = (a + b).fdiv (2 ^ (1 : Int).toNat)) (h60 : n * b ≤ 120) : 0 ≤ (m - a) * n ∧ (m - a) * n ≤ 60 := by
  refine ⟨Int.mul_nonneg (by omega) hn, ?_⟩
  rw [show ((2 : Int) ^ (1 : Int).toNat) = 2 from rfl, Int.fdiv_eq_ediv_of_nonneg _ (by decide)] at h3
  have h4 : n * (2 * (m - a)) ≤ n * b := Int.mul_le_mul_of_nonneg_left (by omega) hn
  rw [Int.mul_comm (m - a) n]
  rw [Int.mul_left_comm] at h4
  omega
theorem i2d_top {x n K : Int} (h0 : 0 ≤ x) (hn : 1 ≤ n) (h : (Builtin.Int.intBits x : Int) ≤ n * K) {b : Int} (hb : b = K) : x < 2 ^ (n.toNat * (b - 0).toNat) := by
  subst hb
  refine Int.lt_of_lt_of_le (lt_bits h0) ?_
  have h3 : Builtin.Int.intBits x ≤ n.toNat * (b - 0).toNat := by
    have hb0 : 0 ≤ b := by
      by_cases q : 0 ≤ b
      · exact q
      · have := Int.mul_le_mul_of_nonneg_left (show b ≤ -1 by omega) (show 0 ≤ n by omega)
        omega
    have : ((Builtin.Int.intBits x : Nat) : Int) ≤ ((n.toNat * (b - 0).toNat : Nat) : Int) := by
      rw [Int.natCast_mul, Int.toNat_of_nonneg (by omega), Int.toNat_of_nonneg (by omega), Int.sub_zero]; exact h
    exact_mod_cast this
  have := Nat.pow_le_pow_right (n := 2) (by decide) h3
  exact_mod_cast this
/-- a list with the figures laid over some of its places -/
def laid (n : Nat) (ns : List Int) (a b x : Int) : List Int := ns.take a.toNat ++ digs n (b - a).toNat x ++ ns.drop b.toNat
theorem laid_length {n : Nat} {ns : List Int} {a b x : Int} (h0 : 0 ≤ a) (h1 : a < b) (h2 : b ≤ (ns.length : Int)) : (laid n ns a b x).length = ns.length := by
  unfold laid
  rw [List.length_append, List.length_append, digs_length, List.length_take, List.length_drop]
  omega
theorem laid_one {n : Int} {ns : List Int} {a b x : Int} (hn : 0 ≤ n) (h : a + 1 = b) (h0 : 0 ≤ a) (h2 : b ≤ (ns.length : Int)) (x0 : 0 ≤ x) (x1 : x < 2 ^ (n.toNat * (b - a).toNat)) : ns.set a.toNat x = laid n.toNat ns a b x := by
  subst h
  unfold laid
  rw [show (a + 1 - a).toNat = 0 + 1 by omega] at x1 ⊢
  rw [Nat.zero_add, Nat.mul_one] at x1
  rw [digs, digs, Int.emod_eq_of_lt x0 x1, List.set_eq_take_append_cons_drop, if_pos (by omega), show (a + 1).toNat = a.toNat + 1 by omega]
  simp
theorem laid_two {n : Nat} {ns : List Int} {a m b x : Int} (h0 : 0 ≤ a) (h1 : a < m) (h2 : m < b) (h3 : b ≤ (ns.length : Int)) :
    laid n (laid n ns a m (x % 2 ^ (n * (m - a).toNat))) m b (x / 2 ^ (n * (m - a).toNat)) = laid n ns a b x := by
  have e : (b - a).toNat = (m - a).toNat + (b - m).toNat := by omega
  have l1 : (ns.take a.toNat ++ digs n (m - a).toNat x).length = m.toNat := by rw [List.length_append, digs_length, List.length_take]; omega
  unfold laid
  rw [digs_mod, List.take_left' l1, e, digs_add]
  have l2 : (ns.take a.toNat ++ digs n (m - a).toNat x ++ ns.drop m.toNat).drop b.toNat = ns.drop b.toNat := by
    rw [List.drop_append, List.drop_eq_nil_of_le (by omega), l1, List.drop_drop, List.nil_append]
    congr 1
    omega
  rw [l2]
  simp only [List.append_assoc]
theorem low_bound {n x a m : Int} (hn : 0 ≤ n) (x0 : 0 ≤ x) (h1 : a < m) : Builtin.bitXor x (x.fdiv (2 ^ ((m - a) * n).toNat) * 2 ^ ((m - a) * n).toNat) = x % 2 ^ (n.toNat * (m - a).toNat) := by
  rw [show ((m - a) * n).toNat = n.toNat * (m - a).toNat by rw [Int.toNat_mul (by omega) hn, Nat.mul_comm]]
  exact xor_high x0 _
theorem up_bound {n x a m b : Int} (hn : 0 ≤ n) (x0 : 0 ≤ x) (h1 : a < m) (h2 : m < b) (hx : x < 2 ^ (n.toNat * (b - a).toNat)) : x.fdiv (2 ^ ((m - a) * n).toNat) = x / 2 ^ (n.toNat * (m - a).toNat) ∧ 0 ≤ x / 2 ^ (n.toNat * (m - a).toNat) ∧ x / 2 ^ (n.toNat * (m - a).toNat) < 2 ^ (n.toNat * (b - m).toNat) := by
  rw [show ((m - a) * n).toNat = n.toNat * (m - a).toNat by rw [Int.toNat_mul (by omega) hn, Nat.mul_comm]]
  refine ⟨Int.fdiv_eq_ediv_of_nonneg _ (Int.le_of_lt (two_pos _)), Int.ediv_nonneg x0 (Int.le_of_lt (two_pos _)), Int.ediv_lt_of_lt_mul (two_pos _) ?_⟩
  rw [← Int.pow_add, ← Nat.mul_add, show (b - m).toNat + (m - a).toNat = (b - a).toNat by omega]
  exact hx
theorem ints_laid {us : List Value} {ns : List Int} {n : Nat} {b x K : Int} (i : IntsAre us (laid n ns 0 b x)) (e : b = (ns.length : Int)) (k : b = K) : IntsAre us (digs n K.toNat x) := by
  subst k
  have : laid n ns 0 b x = digs n b.toNat x := by
    unfold laid
    rw [e]
    simp
  rwa [this] at i
theorem ints_none {us : List Value} {ns : List Int} {n : Nat} {x K : Int} (i : IntsAre us ns) (e : (ns.length : Int) = K) (k : K = 0) : IntsAre us (digs n K.toNat x) := by
  subst k
  have : ns = [] := List.length_eq_zero_iff.mp (by omega)
  subst this
  exact i
theorem mod_facts {x : Int} (x0 : 0 ≤ x) (x2 : x ≤ 2 ^ 60) (k : Nat) : 0 ≤ x % 2 ^ k ∧ x % 2 ^ k < 2 ^ k ∧ x % 2 ^ k ≤ 2 ^ 60 := by
  have h1 := Int.emod_nonneg x (Int.ne_of_gt (two_pos k))
  have h2 := Int.emod_lt_of_pos x (two_pos k)
  refine ⟨h1, h2, ?_⟩
  by_cases h : x < 2 ^ k
  · rw [Int.emod_eq_of_lt x0 h]; exact x2
  · omega
theorem div_le60 {x : Int} (x0 : 0 ≤ x) (x2 : x ≤ 2 ^ 60) (k : Nat) : x / 2 ^ k ≤ 2 ^ 60 := by
  have := Int.ediv_le_self (2 ^ k) x0
  omega
def InnerOk3 (w : World) (led : List (Addr × Obj)) (f D : Addr) (c' : Addr) (qual : Str) (K : Nat) (n : Int) (k : Nat) : Prop :=
  ∀ (A : Around) (s : Shared) (Q E : Value → Shared → Prop) (x a b : Int) (tx ta tb : Tok) (us : List Value) (ns : List Int) (c : Nat), Here w A (k + 5) (8 * k + 60) s ((D, listOf us.toArray c) :: led) → s.heap.CodeRec (.ref c') qual → IntsAre us ns → ns.length = K →
    0 ≤ a → a < b → b ≤ (K : Int) → 0 ≤ x → x < 2 ^ (n.toNat * (b - a).toNat) → x ≤ 2 ^ 60 → (b - a).toNat = k →
    (∀ us' h' tk', Keep [D] s.heap h' → h'.get? D = some (listOf us'.toArray c) → IntsAre us' (laid n.toNat ns a b x) → Q .none { s with heap := h', toks := tk' }) →
    wpAny (model PySem.Challenge.rw_wf0065_01.row.prog w) A (call (.ref f) [.int x tx, .int a ta, .int b tb]) Q E s
theorem inner3_of {w : World} {led : List (Addr × Obj)} {f D : Addr} {c' : Addr} {qual : Str} {K : Nat} {n : Int}
    (step : ∀ k, (∀ j, j < k → InnerOk3 w led f D c' qual K n j) → InnerOk3 w led f D c' qual K n k) : ∀ k, InnerOk3 w led f D c' qual K n k := fun k => Nat.strongRecOn k step
theorem inner3_use {w : World} {led : List (Addr × Obj)} {f D : Addr} {c' : Addr} {qual : Str} {K : Nat} {n : Int} {k : Nat} {A : Around} {s : Shared} {Q E : Value → Shared → Prop} {x a b : Int} {tx ta tb : Tok} {us : List Value} {ns : List Int} {c : Nat}
    (ih : ∀ j, j < k → InnerOk3 w led f D c' qual K n j) (hj : (b - a).toNat < k) (H : Here w A ((b - a).toNat + 5) (8 * (b - a).toNat + 60) s ((D, listOf us.toArray c) :: led)) (hc : s.heap.CodeRec (.ref c') qual) (hi : IntsAre us ns) (hl : ns.length = K)
    (h0 : 0 ≤ a) (h1 : a < b) (h2 : b ≤ (K : Int)) (x0 : 0 ≤ x) (x1 : x < 2 ^ (n.toNat * (b - a).toNat)) (x2 : x ≤ 2 ^ 60)
    (ret : ∀ us' h' tk', Keep [D] s.heap h' → h'.get? D = some (listOf us'.toArray c) → IntsAre us' (laid n.toNat ns a b x) → Q .none { s with heap := h', toks := tk' }) :
    wpAny (model PySem.Challenge.rw_wf0065_01.row.prog w) A (call (.ref f) [.int x tx, .int a ta, .int b tb]) Q E s := ih _ hj A s Q E x a b tx ta tb us ns c H hc hi hl h0 h1 h2 x0 x1 x2 rfl ret
theorem inner3_all {w : World} {led news : List (Addr × Obj)} {h₀ : Heap} {L f D : Addr} {name qual : Str} {params : Arguments} {body : List Stmt} {scope : Scope} {cl : List (Str × Addr)} {doc pm ctv : Value} {c' : Addr} {us : List Value} {ns : List Int} {c : Nat} (n : Int) {A : Around} {s : Shared} {Q E : Value → Shared → Prop} {x a b : Int} {tx ta tb : Tok}
    (N : News h₀ L s.heap news) (S : Pick D (listOf us.toArray c) news led) (_hm : (f, fnMade name qual params body scope cl doc pm c' ctv) ∈ led) (hc : s.heap.CodeRec (.ref c') qual) (hi : IntsAre us ns)
    (ok : ∀ k, InnerOk3 w led f D c' qual ns.length n k) (H : Here w A ((b - a).toNat + 5) (8 * (b - a).toNat + 60) s ((D, listOf us.toArray c) :: led))
    (h0 : 0 ≤ a) (h1 : a < b) (h2 : b ≤ (ns.length : Int)) (x0 : 0 ≤ x) (x1 : x < 2 ^ (n.toNat * (b - a).toNat)) (x2 : x ≤ 2 ^ 60)
    (ret : ∀ us' h' tk', Keep [D] s.heap h' → h'.get? D = some (listOf us'.toArray c) → IntsAre us' (laid n.toNat ns a b x) → Q .none { s with heap := h', toks := tk' }) :
    wpAny (model PySem.Challenge.rw_wf0065_01.row.prog w) A (call (.ref f) [.int x tx, .int a ta, .int b tb]) Q E s :=
  have _ := N
  have _ := S
  ok _ A s Q E x a b tx ta tb us ns c H hc hi rfl h0 h1 h2 x0 x1 x2 rfl ret
theorem tabOf_none (ln col : Int) : tabOf ln col none = #[] := rfl
theorem tabOf_some (ln col : Int) (c : Addr) : tabOf ln col (some c) = #[rawInt ln, rawInt col, .ref c] := rfl
set_option maxHeartbeats 4000000 in
theorem i2dC {w : World} {A : Around} {s : Shared} {Q E : Value → Shared → Prop} {x n : Int} {tx tn : Tok} {ta tb : Option Addr}
    (H : Here w A 40 400 s [(66, tabObj (tabOf 85 4 ta)), (73, tabObj (tabOf 100 4 tb))]) (t1 : CodeAt s.heap qI ta) (t2 : CodeAt s.heap qD tb)
    (h0 : 0 ≤ x) (h1 : x < 2 ^ 60) (hn : 1 ≤ n) (hn2 : n ≤ 60) (hd10 : digN x n < 10)
    (ret : ∀ r vs' n' h' tk', Keep [66, 73] s.heap h' → TabsN s.heap ta tb h' → s.heap.get? r = none → h'.get? r = some (listOf vs'.toArray n') → IntsAre vs' (digs n.toNat (digN x n).toNat x) → Q (.ref r) { s with heap := h', toks := tk' }) :
    wpAny (model PySem.Challenge.rw_wf0065_01.row.prog w) A (call (.ref 71) [.int x tx, .int n tn]) Q E s := by
  obtain ⟨dp, un, gd, env, outer, A₀, base, h₀, L, m, mg, mb, p, loose, mean, rfl, B, F, N, X, T, hf, hke, hdp, hun, c1, c2⟩ := H
  revert X; k_fill; intro X
  refine wpAny_call ?_
  k_dflt (refine' enterC (binds := [(Str.ofString "a", .int x tx), (Str.ofString "n", .int n tn)]) ⟨B, F, X, N, T, rfl, hf, hke⟩ (by walk_at "mine def") (by walk_at "mine def") rfl (by walk_at "mine takes") rfl (by decide +kernel) ?_; k_whole)
  rintro g L' h' tk cells Y' ⟨F', N', B', X', T', G', l1, st'⟩
  have e66 := N.get (a := 66) (.head _)
  have e73 := N.get (a := 73) (.tail _ (.head _))
  have hoff0 := fun {c : Addr} {q : Str} => tabs_off e66 e73 (c := c) (q := q)
  have hsub := fun (h₂ : Heap) (m₂ : Str → Option Value) (F₂ : Fr g L' h₂ m₂) => (Keep.of G' F₂ : Keep [66, 73] s.heap h₂)
  have c1' := c1.keeps st'
  have c2' := c2.keeps st'
  clear B F N X T hf c1 c2 st'
  k_lt l1
  k_cells Y'
  (try simp only [List.cons_append, List.nil_append] at N')
  dsimp only [Run]
  k_unmd
  k_fold
  obtain ⟨hq0, hq1, hq2, hq3, hq4, hq5⟩ := digN_bound h0 h1 hn
  unfold digN at hq0 hq1 hq2 hq3 hq4 hq5 hd10 ret
  have hb60 := bits_le (k := 60) h0 h1
  have hq6 := Int.le_trans hq5 (show _ ≤ (120 : Int) from by omega)
  rcases ta with _ | c'
  · rw [tabOf_none] at N' G'
    k_with "mine inner" => (k_dflt (refine Stop.of ?_))
    k_steps
    k_with_none
    · refine Stop.intro ?_
      k_dflt (refine' inner3_all n ?hN ?hS ?hm ?hc ?hi ?ok ?hH ?h0 ?h1 ?h2 ?x0 ?x1 ?x2 ?_)
      case hN => k_asm
      case hi => assumption
      case hS => walk_at "mine pick"
      case hm => k_mem
      case hc => exact codeRec_news (by k_asm) (by k_mem) (by assumption) (by assumption)
      case hH => walk_at "mine here"
      case h0 => omega
      case h1 => omega
      case h2 => omega
      case x0 => exact h0
      case x1 => exact i2d_top h0 hn hq2 (by omega)
      case x2 => omega
      case ok =>
        (rename IntsAre _ _ => zi0)
        have hlen0 := zi0.length
        clear zi0
        refine inner3_of fun k ih => ?_
        intro A s Q E x a b tx ta tb us ns c H hc2 hi2 hnl p0 p1 p2 x0 x1 x2 hk ret
        obtain ⟨dp, un, gd, env, outer, A₀, base, h₀, L, m, mg, mb, p, loose, mean, rfl, B, F, N, X, T, hf, hke, hdp, hun, c1, c2⟩ := H
        refine wpAny_call ?_
        k_dflt (refine' enterN (binds := [(Str.ofString "x", .int x tx), (Str.ofString "L", .int a ta), (Str.ofString "R", .int b tb)]) ⟨B, F, X, N, T, rfl, hf, hke⟩ (by walk_at "mine def") hc2 (by walk_at "mine binds") (by walk_at "mine takes") (by walk_at "mine locals") (by decide) ?_; k_whole)
        rintro g' L' h' ⟨F', N', B', X', T', G', l1, st'⟩
        have c1' := c1.keeps st'
        have c2' := c2.keeps st'
        have hD0 := (N _ (.head _)).1
        have hkeep := fun (h₂ : Heap) (m₂ : Str → Option Value) (o₂ : Obj) (F₂ : Fr g' L' h₂ m₂) (N₂ : News g' L' h₂ ((_, o₂) :: _)) => Keep.led1 N G' F₂ N₂
        have hcod := fun (h₂ : Heap) (k₂ : Keep [_] s.heap h₂) => codeRec_keep hc2 k₂ fun q => codeRec_offL hc2 hD0 (List.mem_singleton.mp q)
        clear B F X T hf c1 c2 st'
        dsimp only [Run]
        k_unmd
        k_fold
        have hvl2 := hi2.length
        by_cases hab : a + 1 = b
        · k_steps
          all_goals (try (exfalso; omega))
          (try dsimp only)
          (try k_unfold)
          dsimp only [Back]
          have e := laid_one (n := n) (ns := ns) (x := x) (by omega) hab p0 (by omega) x0 x1
          rw [← e] at ret
          (rename News g' _ _ _ => nwE)
          exact ret _ _ _ (hkeep _ _ _ (by assumption) nwE) (nwE.get (.head _)) (by assumption)
        · obtain ⟨m1, m2⟩ := mid_in (a := a) (b := b) (by omega)
          have hj1 : ((a + b).fdiv (2 ^ (1 : Int).toNat) - a).toNat < k := by omega
          have hj2 : (b - (a + b).fdiv (2 ^ (1 : Int).toNat)).toNat < k := by omega
          have hs := shift60 (n := n) (a := a) (b := b) (m := (a + b).fdiv (2 ^ (1 : Int).toNat)) (by omega) m1 m2 p0 rfl (show n * b ≤ 120 from Int.le_trans (Int.mul_le_mul_of_nonneg_left (show b ≤ _ from by omega) (by omega)) hq6)
          have hu := up_bound (m := (a + b).fdiv (2 ^ (1 : Int).toNat)) (by omega : 0 ≤ n) x0 m1 m2 x1
          have hlo := low_bound (n := n) (m := (a + b).fdiv (2 ^ (1 : Int).toNat)) (a := a) (by omega) x0 m1
          have hl2 := mod_facts x0 x2 (n.toNat * ((a + b).fdiv (2 ^ (1 : Int).toNat) - a).toNat)
          have hu2 := div_le60 x0 x2 (n.toNat * ((a + b).fdiv (2 ^ (1 : Int).toNat) - a).toNat)
          rw [← hlo] at hl2
          obtain ⟨hl0, hl1, hl2⟩ := hl2
          obtain ⟨hu, hu0, hu1⟩ := hu
          have hlaid := laid_two (n := n.toNat) (ns := ns) (x := x) p0 m1 m2 (by omega)
          rw [← hlo, ← hu] at hlaid
          rw [← hu] at hu0 hu1 hu2
          rw [← hlaid] at ret
          clear hlo hu hlaid
          k_with "mine inner" => ((k_dflt (refine' inner3_use ih ?zj ?zH ?zc ?zi ?zl ?z0 ?z1 ?z2 ?zx0 ?zx1 ?zx2 ?_; (case zi => l_ints); (case zH => walk_at "mine here"); (case zj => first | exact hj1 | exact hj2); (case zc => exact hcod _ (hkeep _ _ _ (by assumption) (by assumption))); (case zl => first | exact hnl | exact (laid_length (by omega) (by omega) (by omega)).trans hnl); (case z0 => omega); (case z1 => omega); (case z2 => omega); (case zx0 => assumption); (case zx1 => assumption); (case zx2 => assumption); k_whole)); intro us9 h9 tk9 k9 g9 i9; walk_at "mine upd")
          k_steps
          all_goals (try (exfalso; omega))
          k_with_none
          (try dsimp only)
          (try k_unfold)
          dsimp only [Back]
          (rename News g' _ _ _ => nwE)
          exact ret _ _ _ (hkeep _ _ _ (by assumption) nwE) (nwE.get (.head _)) (by assumption)
      intro us9 h9 tk9 k9 g9 i9
      walk_at "mine upd"
      k_steps
      (try dsimp only)
      (try k_unfold)
      dsimp only [Back]
      (rename News g _ _ _ => nwT)
      exact ret _ _ _ _ _ (hsub _ _ (by assumption)) ⟨some _, _, nwT.get (by k_mem), nwT.get (a := 73) (by k_mem), codeRec_news nwT (by k_mem) (by assumption) (by assumption), t2.keep (hsub _ _ (by assumption)) hoff0, .inr ⟨_, rfl, Keep.fresh G' nwT (by k_mem) (off_tabs (by omega) (by omega))⟩, .inl rfl⟩ (Keep.fresh G' nwT (by k_mem) (off_led nwT (by k_mem) (by k_mem) (by k_mem) (by intro e; cases e))) (nwT.get (by k_mem)) (ints_laid (by assumption) (by omega) (by omega))
    · (try dsimp only)
      (try k_unfold)
      dsimp only [Back]
      (rename News g _ _ _ => nwT)
      exact ret _ _ _ _ _ (hsub _ _ (by assumption)) ⟨some _, _, nwT.get (by k_mem), nwT.get (a := 73) (by k_mem), codeRec_news nwT (by k_mem) (by assumption) (by assumption), t2.keep (hsub _ _ (by assumption)) hoff0, .inr ⟨_, rfl, Keep.fresh G' nwT (by k_mem) (off_tabs (by omega) (by omega))⟩, .inl rfl⟩ (Keep.fresh G' nwT (by k_mem) (off_led nwT (by k_mem) (by k_mem) (by k_mem) (by intro e; cases e))) (nwT.get (by k_mem)) (ints_none (by assumption) (by omega) (hq3 (by assumption)))
  · rw [tabOf_some] at N' G'
    have hc' : s.heap.CodeRec (.ref c') qI := t1
    k_with "mine inner" => (k_dflt (refine Stop.of ?_))
    k_steps
    k_with_none
    · refine Stop.intro ?_
      k_dflt (refine' inner3_all n ?hN ?hS ?hm ?hc ?hi ?ok ?hH ?h0 ?h1 ?h2 ?x0 ?x1 ?x2 ?_)
      case hN => k_asm
      case hi => assumption
      case hS => walk_at "mine pick"
      case hm => k_mem
      case hc => exact codeRec_keep hc' (hsub _ _ (by assumption)) (hoff0 hc')
      case hH => walk_at "mine here"
      case h0 => omega
      case h1 => omega
      case h2 => omega
      case x0 => exact h0
      case x1 => exact i2d_top h0 hn hq2 (by omega)
      case x2 => omega
      case ok =>
        (rename IntsAre _ _ => zi0)
        have hlen0 := zi0.length
        clear zi0
        refine inner3_of fun k ih => ?_
        intro A s Q E x a b tx ta tb us ns c H hc2 hi2 hnl p0 p1 p2 x0 x1 x2 hk ret
        obtain ⟨dp, un, gd, env, outer, A₀, base, h₀, L, m, mg, mb, p, loose, mean, rfl, B, F, N, X, T, hf, hke, hdp, hun, c1, c2⟩ := H
        refine wpAny_call ?_
        k_dflt (refine' enterN (binds := [(Str.ofString "x", .int x tx), (Str.ofString "L", .int a ta), (Str.ofString "R", .int b tb)]) ⟨B, F, X, N, T, rfl, hf, hke⟩ (by walk_at "mine def") hc2 (by walk_at "mine binds") (by walk_at "mine takes") (by walk_at "mine locals") (by decide) ?_; k_whole)
        rintro g' L' h' ⟨F', N', B', X', T', G', l1, st'⟩
        have c1' := c1.keeps st'
        have c2' := c2.keeps st'
        have hD0 := (N _ (.head _)).1
        have hkeep := fun (h₂ : Heap) (m₂ : Str → Option Value) (o₂ : Obj) (F₂ : Fr g' L' h₂ m₂) (N₂ : News g' L' h₂ ((_, o₂) :: _)) => Keep.led1 N G' F₂ N₂
        have hcod := fun (h₂ : Heap) (k₂ : Keep [_] s.heap h₂) => codeRec_keep hc2 k₂ fun q => codeRec_offL hc2 hD0 (List.mem_singleton.mp q)
        clear B F X T hf c1 c2 st'
        dsimp only [Run]
        k_unmd
        k_fold
        have hvl2 := hi2.length
        by_cases hab : a + 1 = b
        · k_steps
          all_goals (try (exfalso; omega))
          (try dsimp only)
          (try k_unfold)
          dsimp only [Back]
          have e := laid_one (n := n) (ns := ns) (x := x) (by omega) hab p0 (by omega) x0 x1
          rw [← e] at ret
          (rename News g' _ _ _ => nwE)
          exact ret _ _ _ (hkeep _ _ _ (by assumption) nwE) (nwE.get (.head _)) (by assumption)
        · obtain ⟨m1, m2⟩ := mid_in (a := a) (b := b) (by omega)
          have hj1 : ((a + b).fdiv (2 ^ (1 : Int).toNat) - a).toNat < k := by omega
          have hj2 : (b - (a + b).fdiv (2 ^ (1 : Int).toNat)).toNat < k := by omega
          have hs := shift60 (n := n) (a := a) (b := b) (m := (a + b).fdiv (2 ^ (1 : Int).toNat)) (by omega) m1 m2 p0 rfl (show n * b ≤ 120 from Int.le_trans (Int.mul_le_mul_of_nonneg_left (show b ≤ _ from by omega) (by omega)) hq6)
          have hu := up_bound (m := (a + b).fdiv (2 ^ (1 : Int).toNat)) (by omega : 0 ≤ n) x0 m1 m2 x1
          have hlo := low_bound (n := n) (m := (a + b).fdiv (2 ^ (1 : Int).toNat)) (a := a) (by omega) x0 m1
          have hl2 := mod_facts x0 x2 (n.toNat * ((a + b).fdiv (2 ^ (1 : Int).toNat) - a).toNat)
          have hu2 := div_le60 x0 x2 (n.toNat * ((a + b).fdiv (2 ^ (1 : Int).toNat) - a).toNat)
          rw [← hlo] at hl2
          obtain ⟨hl0, hl1, hl2⟩ := hl2
          obtain ⟨hu, hu0, hu1⟩ := hu
          have hlaid := laid_two (n := n.toNat) (ns := ns) (x := x) p0 m1 m2 (by omega)
          rw [← hlo, ← hu] at hlaid
          rw [← hu] at hu0 hu1 hu2
          rw [← hlaid] at ret
          clear hlo hu hlaid
          k_with "mine inner" => ((k_dflt (refine' inner3_use ih ?zj ?zH ?zc ?zi ?zl ?z0 ?z1 ?z2 ?zx0 ?zx1 ?zx2 ?_; (case zi => l_ints); (case zH => walk_at "mine here"); (case zj => first | exact hj1 | exact hj2); (case zc => exact hcod _ (hkeep _ _ _ (by assumption) (by assumption))); (case zl => first | exact hnl | exact (laid_length (by omega) (by omega) (by omega)).trans hnl); (case z0 => omega); (case z1 => omega); (case z2 => omega); (case zx0 => assumption); (case zx1 => assumption); (case zx2 => assumption); k_whole)); intro us9 h9 tk9 k9 g9 i9; walk_at "mine upd")
          k_steps
          all_goals (try (exfalso; omega))
          k_with_none
          (try dsimp only)
          (try k_unfold)
          dsimp only [Back]
          (rename News g' _ _ _ => nwE)
          exact ret _ _ _ (hkeep _ _ _ (by assumption) nwE) (nwE.get (.head _)) (by assumption)
      intro us9 h9 tk9 k9 g9 i9
      walk_at "mine upd"
      k_steps
      (try dsimp only)
      (try k_unfold)
      dsimp only [Back]
      (rename News g _ _ _ => nwT)
      exact ret _ _ _ _ _ (hsub _ _ (by assumption)) ⟨some _, _, nwT.get (by k_mem), nwT.get (a := 73) (by k_mem), codeRec_keep hc' (hsub _ _ (by assumption)) (hoff0 hc'), t2.keep (hsub _ _ (by assumption)) hoff0, .inl rfl, .inl rfl⟩ (Keep.fresh G' nwT (by k_mem) (off_led nwT (by k_mem) (by k_mem) (by k_mem) (by intro e; cases e))) (nwT.get (by k_mem)) (ints_laid (by assumption) (by omega) (by omega))
    · (try dsimp only)
      (try k_unfold)
      dsimp only [Back]
      (rename News g _ _ _ => nwT)
      exact ret _ _ _ _ _ (hsub _ _ (by assumption)) ⟨some _, _, nwT.get (by k_mem), nwT.get (a := 73) (by k_mem), codeRec_keep hc' (hsub _ _ (by assumption)) (hoff0 hc'), t2.keep (hsub _ _ (by assumption)) hoff0, .inl rfl, .inl rfl⟩ (Keep.fresh G' nwT (by k_mem) (off_led nwT (by k_mem) (by k_mem) (by k_mem) (by intro e; cases e))) (nwT.get (by k_mem)) (ints_none (by assumption) (by omega) (hq3 (by assumption)))

theorem at_div : True := by
  w_top off
  k_with_none
  trivial
set_option maxHeartbeats 4000000 in
theorem divC {w : World} {A : Around} {s : Shared} {Q E : Value → Shared → Prop} {a b n : Int} {ta tb tn : Tok}
    (H : Here w A 10 100 s []) (ha : 0 ≤ a) (ha2 : a < 2 ^ 100) (hb : 0 < b) (hb2 : b < 1073741824) (hn : 0 ≤ n)
    (ret : ∀ r t1 t2 h' tk', Keep [] s.heap h' → s.heap.get? r = none → h'.get? r = some (tupObj [.int (a.fdiv b) t1, .int (a.fmod b) t2]) → Q (.ref r) { s with heap := h', toks := tk' }) :
    wpAny (model PySem.Challenge.rw_wf0065_01.row.prog w) A (call (.ref 57) [.int a ta, .int b tb, .int n tn]) Q E s := by
  obtain ⟨dp, un, gd, env, outer, A₀, base, h₀, L, m, mg, mb, p, loose, mean, rfl, B, F, N, X, T, hf, hke, hdp, hun, c1, c2⟩ := H
  revert X; k_fill; intro X
  refine wpAny_call ?_
  k_dflt (refine' enterH (binds := [(Str.ofString "a", .int a ta), (Str.ofString "b", .int b tb), (Str.ofString "n", .int n tn)]) ⟨B, F, X, N, T, rfl, hf, hke⟩ (by walk_at "mine def") (by walk_at "mine def") (by walk_at "mine binds") (by walk_at "mine takes") (by walk_at "mine locals") (by decide) ?_; k_whole)
  rintro g L' h' ⟨F', N', B', X', T', G', l1, st'⟩
  have c1' := c1.keeps st'
  have c2' := c2.keeps st'
  clear B F N X T hf c1 c2 st'
  k_lt l1
  dsimp only [Run]
  k_unmd
  k_fold
  have hbits := bits_le (k := 100) ha (by simpa using ha2)
  k_steps
  (rename Fr g _ _ _ => F2)
  (rename News g _ _ _ => N2)
  (try dsimp only)
  (try k_unfold)
  dsimp only [Back]
  exact ret _ _ _ _ _ (Keep.of G' F2) (Keep.fresh G' N2 (.head _) List.not_mem_nil) (N2.get (.head _))

theorem at_dmp : True := by
  w_top off
  k_with_none
  trivial
section
variable {prog : Program} {w : World} {A : Around} {E : Value → Shared → Prop} {s : Shared} {env : Env} {h₀ : Heap} {x : Str} {body : List Stmt} {Q : Flow → Shared → Prop}
/-- a loop over reversed(list of ints), by what holds of its whole state -/
theorem rev_state {σ : Type} {I l : Addr} {vs : List Value} {ns : List Int} {m₀ : Str → Option Value} (Led : σ → List (Addr × Obj)) (ps : σ → List (Str × Value)) (Facts : σ → Prop) (stored : List Str) (P : List Int → σ → Prop) (c₀ : σ)
    (hh : A.handled = none) (hit : s.heap.IsRevIter I l ((vs.length : Int) - 1)) (hl : s.heap.IsList l vs.toArray) (hI : h₀.get? I = none) (hLI : env.locals ≠ I) (hLl : env.locals ≠ l) (hli : l ≠ I)
    (hoI : ∀ p ∈ Led c₀, p.1 ≠ I) (hol : ∀ p ∈ Led c₀, p.1 ≠ l) (hi : IntsAre vs ns) (F : Fr h₀ env.locals s.heap m₀) (N : News h₀ env.locals s.heap (Led c₀)) (hf : Facts c₀) (hk : ∀ p ∈ ps c₀, m₀ p.1 = some p.2) (hp : P [] c₀)
    (turn : ∀ (c : σ) pre post n t (u : Str → Option Value) h tk own, ns.reverse = pre ++ n :: post → n ∈ ns → OwnOff own ((Led c₀).map (·.1)) → Facts c → P pre c →
      Fr h₀ env.locals h (fun y => if y = x then some (.int n t) else kstB (fun z => if stored.contains z then u z else m₀ z) (ps c) y) → News h₀ env.locals h (Led c ++ own) →
      wpAny (model prog w) A (execs body env) (InvPostN h₀ env.locals (KstS Led ps Facts x stored m₀ P (pre ++ [n])) own ((Led c₀).map (·.1)) { s with heap := h, toks := tk } Q) E { s with heap := h, toks := tk })
    (done : ∀ (c : σ) (u : Str → Option Value) h tk, Facts c → P ns.reverse c → Fr h₀ env.locals h (fun y => if y = x then u y else kstB (fun z => if stored.contains z then u z else m₀ z) (ps c) y) → News h₀ env.locals h (Led c) → Q .next { s with heap := h, toks := tk }) :
    wpAny (model prog w) A (pyIter (.ref I)) (fun it s₂ => LoopAtV prog w A h₀ env x body Q E it s₂) E s := by
  refine wpAny_pyIter_revIter hit ?_
  have W := Walks.listRev (prog := prog) (w := w) hh I l hli vs.toArray
  have hlen : vs.toArray.size = ns.length := by simp [hi.length]
  rw [hlen] at W
  have hvl := hi.length
  have back : s.heap.IsRevIter I l ((ns.length : Int) - (0 : Nat) - 1) := by rw [hvl] at hit; simpa using hit
  refine loop_invN (fun i m nx => KstS Led ps Facts x stored m₀ P (ns.reverse.take i) m nx) W (by simp [hLI, hLl]) (fun b hb => List.mem_singleton.mp hb ▸ hI) (fun p hp => not_one (hoI p hp)) (fun p hp => by simp [hoI p hp, hol p hp]) ⟨Nat.zero_le _, by simpa using back, hl⟩
    F N ⟨c₀, rfl, hf, hk, fun _ _ _ _ => rfl, by simpa using hp⟩ ?_ ?_
  · rintro i v m₁ nx h tk own hin hv _ hoff ⟨c, rfl, hf', h1, h2, hp'⟩ F₁ N₁
    obtain ⟨n, t, rfl, hn⟩ := IntsAre.at hi _ v (by simpa using hv)
    have hn' : ns.reverse[i]? = some n := by rw [List.getElem?_reverse hin]; exact hn
    obtain ⟨hs, e⟩ := cut_at hn'
    rw [hs]
    exact turn c _ _ n t m₁ h tk own e (List.mem_of_getElem? hn) hoff hf' hp' (kst_fr h1 h2 F₁) N₁
  · rintro m₁ nx h tk ⟨c, rfl, hf', h1, h2, hp'⟩ F₁ N₁
    rw [List.take_of_length_le (by rw [List.length_reverse]; exact Nat.le_refl _)] at hp'
    exact done c m₁ h tk hf' hp' (kst_frOut h1 h2 F₁) N₁
/-- the same where one list of ints and one int are all that turns -/
theorem rev_list {I l ml : Addr} {vs : List Value} {ns : List Int} {nn : Nat} {m₀ : Str → Option Value} {rest : List (Addr × Obj)} {r₀ : Int} {t₀ : Tok} (y : Str) (stored : List Str) (P : List Int → Int → List Int → Prop)
    (hm : m₀ y = some (.int r₀ t₀)) (hh : A.handled = none) (hi : IntsAre vs ns) (F : Fr h₀ env.locals s.heap m₀) (N : News h₀ env.locals s.heap ((I, revObj l ((vs.length : Int) - 1)) :: (ml, listOf #[] 0) :: (l, listOf vs.toArray nn) :: rest))
    (hmI : ml ≠ I) (hml : ml ≠ l) (hrI : ∀ p ∈ rest, p.1 ≠ I) (hrl : ∀ p ∈ rest, p.1 ≠ l) (hp : P [] r₀ [])
    (turn : ∀ (us : List Value) (ks : List Int) (n : Nat) (r : Int) (tr : Tok) pre post a ta (u : Str → Option Value) h tk own, ns.reverse = pre ++ a :: post → a ∈ ns → OwnOff own (ml :: rest.map (·.1)) → IntsAre us ks → P pre r ks →
      Fr h₀ env.locals h (fun z => if z = x then some (.int a ta) else if z = y then some (.int r tr) else if stored.contains z then u z else m₀ z) → News h₀ env.locals h ((ml, listOf us.toArray n) :: (rest ++ own)) → KstMark →
      wpAny (model prog w) A (execs body env) (InvPostN h₀ env.locals (KstS (fun c : List Value × List Int × Nat × Int × Tok => (ml, listOf c.1.toArray c.2.2.1) :: rest) (fun c => [(y, .int c.2.2.2.1 c.2.2.2.2)]) (fun c => IntsAre c.1 c.2.1) x stored m₀ (fun pre c => P pre c.2.2.2.1 c.2.1) (pre ++ [a])) own (ml :: rest.map (·.1)) { s with heap := h, toks := tk } Q) E { s with heap := h, toks := tk })
    (done : ∀ (us : List Value) (ks : List Int) (n : Nat) (r : Int) (tr : Tok) (u : Str → Option Value) h tk, IntsAre us ks → P ns.reverse r ks → Fr h₀ env.locals h (fun z => if z = x then u z else if z = y then some (.int r tr) else if stored.contains z then u z else m₀ z) → News h₀ env.locals h ((ml, listOf us.toArray n) :: rest) → Q .next { s with heap := h, toks := tk }) :
    wpAny (model prog w) A (pyIter (.ref I)) (fun it s₂ => LoopAtV prog w A h₀ env x body Q E it s₂) E s := by
  have hI := N _ (.head _)
  have hlN := N _ (.tail _ (.tail _ (.head _)))
  have hl : s.heap.IsList l vs.toArray := ⟨_, hlN.1, rfl, _, rfl⟩
  refine rev_state (fun c : List Value × List Int × Nat × Int × Tok => (ml, listOf c.1.toArray c.2.2.1) :: rest) (fun c => [(y, .int c.2.2.2.1 c.2.2.2.2)]) (fun c => IntsAre c.1 c.2.1) stored (fun pre c => P pre c.2.2.2.1 c.2.1) ([], [], 0, r₀, t₀) hh ⟨_, hI.1, rfl, rfl⟩ hl hI.2.2 (Ne.symm hI.2.1) (Ne.symm (list_off hl F)) ?_
    (List.forall_mem_cons.mpr ⟨hmI, hrI⟩) (List.forall_mem_cons.mpr ⟨hml, hrl⟩) hi F
    (fun p hp => N p (by rcases List.mem_cons.mp hp with rfl | hp; exact .tail _ (.head _); exact .tail _ (.tail _ (.tail _ hp)))) .nil (fun p hp => by rw [List.mem_singleton.mp hp]; exact hm) hp
    (fun c pre post a ta u h tk own e ha ho hf hp' F' N' => turn c.1 c.2.1 c.2.2.1 c.2.2.2.1 c.2.2.2.2 pre post a ta u h tk own e ha ho hf hp' F' N' kstMark)
    (fun c u h tk hf hp' F' N' => done c.1 c.2.1 c.2.2.1 c.2.2.2.1 c.2.2.2.2 u h tk hf hp' F' N')
  intro e
  obtain ⟨o, ho, hc, _⟩ := hl
  rw [e, hI.1] at ho
  cases ho
  have hc : Value.type "list_reverseiterator" = Value.type "list" := hc
  injection hc with hc
  revert hc
  decide
end
/-- the number that figures to the base 2 ^ n tell, the highest ahead -/
def rv (n : Nat) (ds : List Int) : Int := ds.foldl (fun r d => r * 2 ^ n + d) 0
theorem rv_snoc (n : Nat) (ds : List Int) (d : Int) : rv n (ds ++ [d]) = rv n ds * 2 ^ n + d := by unfold rv; rw [List.foldl_append]; rfl
theorem rv_digs (n : Nat) : ∀ k x, rv n (digs n k x).reverse = x % 2 ^ (n * k)
  | 0, x => by simp [digs, rv, Int.emod_one]
  | k + 1, x => by
    rw [digs, List.reverse_cons, rv_snoc, rv_digs n k]
    have e2 : (2 : Int) ^ (n * (k + 1)) = 2 ^ n * 2 ^ (n * k) := by rw [← Int.pow_add]; congr 1; rw [Nat.mul_add]; omega
    rw [e2, Int.emod_def x (2 ^ n * 2 ^ (n * k)), Int.emod_def x (2 ^ n), Int.emod_def (x / 2 ^ n), Int.ediv_ediv_of_nonneg (Int.le_of_lt (two_pos n))]
    generalize x / 2 ^ n = u
    generalize x / (2 ^ n * 2 ^ (n * k)) = v
    rw [Int.sub_mul, Int.mul_comm u, Int.mul_comm (2 ^ (n * k) * v), Int.mul_assoc]
    omega
/-- what _divmod_pos holds between its turns -/
def DmInv (n : Nat) (b : Int) (pre : List Int) (r : Int) (ks : List Int) : Prop :=
  ks.length = pre.length ∧ 0 ≤ r ∧ r < b ∧ r = rv n pre % b ∧ ∀ k ∈ ks, 0 ≤ k ∧ k < 2 ^ n
theorem dm_start {n : Nat} {b : Int} (hb : 0 < b) : DmInv n b [] 0 [] := ⟨rfl, Int.le_refl _, hb, by simp [rv], fun _ h => nomatch h⟩
theorem dm_cur {n : Nat} {b r d : Int} {k : Int} (hk : k.toNat = n) (h0 : 0 ≤ r) (h1 : r < b) (d0 : 0 ≤ d) (d1 : d < 2 ^ n) : 0 ≤ r * 2 ^ k.toNat + d ∧ r * 2 ^ k.toNat + d < b * 2 ^ n := by
  rw [hk]
  have hp := two_pos n
  have h2 := Int.mul_nonneg h0 (Int.le_of_lt hp)
  have h3 : (r + 1) * 2 ^ n ≤ b * 2 ^ n := Int.mul_le_mul_of_nonneg_right (by omega) (Int.le_of_lt hp)
  rw [Int.add_mul, Int.one_mul] at h3
  omega
theorem dm_step {n : Nat} {b r d : Int} {k : Int} {pre ks : List Int} (hb : 0 < b) (hk : k.toNat = n) (I : DmInv n b pre r ks) (d0 : 0 ≤ d) (d1 : d < 2 ^ n) :
    DmInv n b (pre ++ [d]) ((r * 2 ^ k.toNat + d).fmod b) (ks ++ [(r * 2 ^ k.toNat + d).fdiv b]) := by
  obtain ⟨i1, i2, i3, i4, i5⟩ := I
  have ⟨c1, c2⟩ := dm_cur hk i2 i3 d0 d1
  rw [hk] at c1 c2 ⊢
  have e1 : (r * 2 ^ n + d).fmod b = (r * 2 ^ n + d) % b := Int.fmod_eq_emod_of_nonneg _ (Int.le_of_lt hb)
  have e2 : (r * 2 ^ n + d).fdiv b = (r * 2 ^ n + d) / b := Int.fdiv_eq_ediv_of_nonneg _ (Int.le_of_lt hb)
  rw [e1, e2]
  refine ⟨by simp [i1], Int.emod_nonneg _ (by omega), Int.emod_lt_of_pos _ hb, ?_, fun q hq => ?_⟩
  · rw [rv_snoc, i4, Int.add_emod, Int.mul_emod, Int.emod_emod, ← Int.mul_emod, ← Int.add_emod]
  · rcases List.mem_append.mp hq with hq | hq
    · exact i5 q hq
    · rw [List.mem_singleton.mp hq]
      refine ⟨Int.ediv_nonneg c1 (Int.le_of_lt hb), Int.ediv_lt_of_lt_mul hb ?_⟩
      rw [Int.mul_comm (2 ^ n) b]; exact c2
theorem rev_call {prog : Program} {w : World} {A : Around} {E : Value → Shared → Prop} {s : Shared} {h₀ : Heap} {L D : Addr} {m : Str → Option Value} {news news' : List (Addr × Obj)} {us : List Value} {n : Nat} {Q : Value → Shared → Prop} (F : Fr h₀ L s.heap m) (N : News h₀ L s.heap news) (U : Upd D (listOf us.toArray n) (listOf us.reverse.toArray n) news news') (hz : us.length < 1000)
    (h : ∀ h', Fr h₀ L h' m → News h₀ L h' news' → Q .none { s with heap := h' }) : wpAny (model prog w) A (call (.builtin "list.reverse") [.ref D]) Q E s :=
  kl_reverse F N (by rw [List.toList_toArray]) U (by rw [PySem.sizeLine_eq, List.toList_toArray]; omega) h
theorem rev_len {ns pre post : List Int} {a : Int} (e : ns.reverse = pre ++ a :: post) : pre.length < ns.length := by
  have h := congrArg List.length e
  rw [List.length_reverse, List.length_append, List.length_cons] at h
  omega
theorem prod36 {N : Nat} {l : Nat} (h1 : N ≤ 6) (h2 : l ≤ 6) : (N : Int) * (l : Int) ≤ 60 := by
  have : N * l ≤ 6 * 6 := Nat.mul_le_mul h1 h2
  have h3 : ((N * l : Nat) : Int) ≤ 36 := by exact_mod_cast this
  rw [Int.natCast_mul] at h3
  omega
theorem dig_rev {N : Nat} {ks : List Int} (h : ∀ k ∈ ks, 0 ≤ k ∧ k < 2 ^ N) : DigOk ((N : Nat) : Int).toNat ks.reverse := digOk_of fun d hd => by
  rw [Int.toNat_natCast]
  exact h d (List.mem_reverse.mp hd)
theorem dm_small {n : Nat} {b c : Int} (h0 : 0 ≤ b) (hb : b < 2 ^ 6) (hp : (2 : Int) ^ n ≤ 2 ^ 6) (h : c < b * 2 ^ n) : c < 4096 := by
  have h1 : b * 2 ^ n ≤ b * 2 ^ 6 := Int.mul_le_mul_of_nonneg_left hp h0
  omega
theorem bits_pos {b : Int} (h : 0 < b) : 1 ≤ Builtin.Int.intBits b := by
  unfold Builtin.Int.intBits
  rw [if_neg (by simp; omega)]
  omega
/-- six figures at most -/
theorem digN_six {x : Int} {N : Nat} (h0 : 0 ≤ x) (hN : 1 ≤ N) (hx : x < 2 ^ (N * 6)) : digN x (N : Int) ≤ 6 := by
  have hb := bits_le h0 hx
  unfold digN
  rw [Int.fdiv_eq_ediv_of_nonneg _ (by omega)]
  have h1 : ((Builtin.Int.intBits x : Int) + N - 1) < (7 : Int) * N := by
    have : ((Builtin.Int.intBits x : Nat) : Int) ≤ ((N * 6 : Nat) : Int) := by exact_mod_cast hb
    rw [Int.natCast_mul] at this
    omega
  have := Int.ediv_lt_of_lt_mul (by omega : (0 : Int) < (N : Int)) h1
  omega
theorem dm_end {N : Nat} {a b r K : Int} {ks : List Int} (ha : 0 ≤ a) (hN : 1 ≤ N) (hK : K = digN a (N : Int)) (ha2 : a < 2 ^ 60) (I : DmInv N b (digs N K.toNat a).reverse r ks) : r = a % b := by
  obtain ⟨q0, q1, q2, _⟩ := digN_bound ha ha2 (by omega : (1 : Int) ≤ (N : Int))
  rw [I.2.2.2.1, rv_digs, Int.emod_eq_of_lt ha]
  have h := i2d_top ha (by omega) q2 hK
  rw [Int.toNat_natCast, Int.sub_zero] at h
  exact h
local macro_rules | `(tactic| walk_at "call builtin:list.reverse") => `(tactic| (k_here; (with_reducible show wpAny _ _ (call (Value.builtin _) [Value.ref _]) _ _ _); k_dflt (refine' rev_call ?F ?N ?U ?z ?_; (case F => k_asm); (case N => k_asm); (case U => k_upd); (case z => omega); k_whole); intro h' F' N'; (try k_sweep)))
theorem code_neT {h' : Heap} {r : Addr} {vs : List Value} {ex : List (Addr × Obj)} (z : ∀ p ∈ ex, ∃ q, h'.CodeRec (.ref p.1) q) (g : h'.get? r = some (tupObj vs)) : ∀ p ∈ ex, p.1 ≠ r := fun p hp e => by
  obtain ⟨q, c₂, oc, vs', t, e2, hoc, hd, hv⟩ := z p hp
  cases e2
  rw [e, g] at hoc
  cases hoc
  cases hd
set_option maxHeartbeats 4000000 in
theorem dmpC {w : World} {A : Around} {s : Shared} {Q E : Value → Shared → Prop} {a b : Int} {xa xb : Tok} {ta tb : Option Addr}
    (H : Here w A 60 600 s [(66, tabObj (tabOf 85 4 ta)), (73, tabObj (tabOf 100 4 tb))]) (t1 : CodeAt s.heap qI ta) (t2 : CodeAt s.heap qD tb)
    (ha : 0 ≤ a) (ha2 : a < 2 ^ (Builtin.Int.intBits b * 6)) (hb : 0 < b) (hN6 : Builtin.Int.intBits b ≤ 6)
    (ret : ∀ r q u1 u2 h' tk', Keep [66, 73] s.heap h' → TabsN s.heap ta tb h' → s.heap.get? r = none → h'.get? r = some (tupObj [.int q u1, .int (a % b) u2]) → Q (.ref r) { s with heap := h', toks := tk' }) :
    wpAny (model PySem.Challenge.rw_wf0065_01.row.prog w) A (call (.ref 85) [.int a xa, .int b xb]) Q E s := by
  obtain ⟨dp, un, gd, env, outer, A₀, base, h₀, L, m, mg, mb, p, loose, mean, rfl, B, F, N, X, T, hf, hke, hdp, hun, c1, c2⟩ := H
  revert X; k_fill; intro X
  refine wpAny_call ?_
  k_dflt (refine' enterH (binds := [(Str.ofString "a", .int a xa), (Str.ofString "b", .int b xb)]) ⟨B, F, X, N, T, rfl, hf, hke⟩ (by walk_at "mine def") (by walk_at "mine def") (by walk_at "mine binds") (by walk_at "mine takes") (by walk_at "mine locals") (by decide) ?_; k_whole)
  rintro g L' h' ⟨F', N', B', X', T', G', l1, st'⟩
  have e66 := N.get (a := 66) (.head _)
  have e73 := N.get (a := 73) (.tail _ (.head _))
  have W' := tabP_start t1 t2 e66 e73 G'
  have hsub := fun (h₂ : Heap) (m₂ : Str → Option Value) (F₂ : Fr g L' h₂ m₂) => (Keep.of G' F₂ : Keep [66, 73] s.heap h₂)
  have c1' := c1.keeps st'
  have c2' := c2.keeps st'
  clear B F N X T hf c1 c2 st' t1 t2 e66 e73
  k_lt l1
  dsimp only [Run]
  k_unmd
  k_fold
  have hN1 := bits_pos hb
  have ha60 : a < 2 ^ 60 := Int.lt_of_lt_of_le ha2 (pow_le60 (by omega))
  have hbN := lt_bits (Int.le_of_lt hb)
  have hd6 := digN_six ha hN1 ha2
  obtain ⟨hq0, hq1, hq2, hq3, hq4, hq5⟩ := digN_bound ha ha60 (by omega : (1 : Int) ≤ (Builtin.Int.intBits b : Int))
  have hb64 : b < 2 ^ 6 := by
    refine Int.lt_of_lt_of_le hbN ?_
    have := Nat.pow_le_pow_right (n := 2) (by decide) hN6
    exact_mod_cast this
  have hp64 : (2 : Int) ^ Builtin.Int.intBits b ≤ 2 ^ 6 := by
    have := Nat.pow_le_pow_right (n := 2) (by decide) hN6
    exact_mod_cast this
  have hKl := digs_length (Builtin.Int.intBits b) (digN a (Builtin.Int.intBits b)).toNat a
  have hok := digs_ok (Builtin.Int.intBits b) (digN a (Builtin.Int.intBits b)).toNat a
  have hTn := Int.toNat_natCast (Builtin.Int.intBits b)
  k_with "mine call" => (k_dflt (refine' i2dC ?i2dC_H ?i2dC_t1 ?i2dC_t2 ?i2dC_h0 ?i2dC_h1 ?i2dC_hn ?i2dC_hn2 ?i2dC_hd10 ?_; (case i2dC_H => walk_at "mine here"); (case i2dC_t1 => walk_at "mine tab1"); (case i2dC_t2 => walk_at "mine tab2"); (case i2dC_h0 => walk_at "mine fact"); (case i2dC_h1 => walk_at "mine fact"); (case i2dC_hn => walk_at "mine fact"); (case i2dC_hn2 => walk_at "mine fact"); (case i2dC_hd10 => walk_at "mine fact"); k_whole); intro r9 vs9 n9 h9 tk9 k9 tb9 f9 g9 i9; walk_at "mine tabsnew")
  k_with "mine call" => (k_dflt (refine' divC ?divC_H ?divC_ha ?divC_ha2 ?divC_hb ?divC_hb2 ?divC_hn ?_; (case divC_H => walk_at "mine here"); (case divC_ha => walk_at "mine fact"); (case divC_ha2 => walk_at "mine fact"); (case divC_hb => walk_at "mine fact"); (case divC_hb2 => walk_at "mine fact"); (case divC_hn => walk_at "mine fact"); k_whole); intro r9 u9 v9 h9 tk9 k9 f9 g9; walk_at "mine newT")
  k_with "mine newT" => ((rename Keep [] _ _ => kp9); (rename Heap.get? _ _ = none => fr9); (rename Heap.get? _ _ = some (tupObj _) => gt9); (try dsimp only at kp9); (try dsimp only at fr9); (have A9 := new_off (by k_asm) fr9); (simp only [AllNe, and_true] at A9); (have FN9 := new_back (by k_asm) (by k_asm) kp9 fr9 gt9); (have F9 := FN9.1); (have N9 := FN9.2); clear FN9 kp9 gt9 fr9; (try k_sweep); (try dsimp only); (try k_fold))
  k_with "mine fact" => first | assumption | omega
  k_with "pyIter ref" => k_dflt ((refine' rev_list (Str.ofString "r") [Str.ofString "q_digit"] (DmInv (Builtin.Int.intBits b) b) ?zhm rfl ?zi ?zF ?zN ?zmI ?zml ?zrI ?zrl ?zp ?zturn ?zdone); (case zF => k_asm); (case zN => k_asm); (case zhm => exact rfl); (case zi => l_ints); (case zmI => k_ne); (case zml => k_ne); (case zrI => exact List.forall_mem_cons.mpr ⟨by k_ne, List.forall_mem_cons.mpr ⟨by k_ne, by k_all⟩⟩); (case zrl => exact List.forall_mem_cons.mpr ⟨by k_ne, List.forall_mem_cons.mpr ⟨by k_ne, by assumption⟩⟩); (case zp => exact dm_start hb); (case' zturn => (intro zV zK zN zR zTr zPre zPost zA zTa zU zH zTk zOwn zE zM zOff zI zP zFr zNw zMk; (rw [hTn] at zE zM); obtain ⟨zd0, zd1⟩ := hok _ zM; obtain ⟨zP1, zP2, zP3, zP4, zP5⟩ := id zP; have zvl := zI.length; have zpl := rev_len zE; (rw [hKl] at zpl); obtain ⟨zc1, zc2⟩ := dm_cur hTn zP2 zP3 zd0 zd1; have zc3 := dm_small (Int.le_of_lt hb) hb64 hp64 zc2; clear zc2; (simp only [List.cons_append] at zNw))); (case' zdone => (intro zV zK zN zR zTr zU zH zTk zI zP zFr zNw; (rw [hTn] at zP); have zI2 := IntsAre.reverse zI; have zvl := zI.length; obtain ⟨zP1, zP2, zP3, zP4, zP5⟩ := id zP; (rw [List.length_reverse, hKl] at zP1); have zlr := List.length_reverse (as := zK); have z60 := prod36 (l := zK.reverse.length) hN6 (by omega); have zdr := dig_rev zP5)); (all_goals (try k_fold)))
  k_with "state" => exact dm_step hb hTn (by assumption) (by assumption) (by assumption)
  k_steps
  k_with_none
  (try dsimp only)
  (try k_unfold)
  (try dsimp only [Back])
  have eR := dm_end ha hN1 rfl ha60 zP
  subst eR
  (rename News g _ _ _ => nwE)
  refine' ret _ _ _ _ _ _ (hsub _ _ (by assumption)) ?e2 ?e3 (nwE.get (.head _))
  case e2 => exact tabs_end (by assumption) (by k_asm) nwE (by k_mem) (by k_mem) (by walk_at "mine ex")
  case e3 => refine Keep.fresh G' nwE (.head _) (off_led nwE (by k_mem) (by k_mem) (by k_mem) (by intro e; cases e))

theorem at_idm : True := by
  w_top off
  k_with_none
  trivial
set_option maxHeartbeats 4000000 in
theorem idmC {w : World} {A : Around} {s : Shared} {Q E : Value → Shared → Prop} {a b : Int} {xa xb : Tok} {ta tb : Option Addr}
    (H : Here w A 70 700 s [(66, tabObj (tabOf 85 4 ta)), (73, tabObj (tabOf 100 4 tb))]) (t1 : CodeAt s.heap qI ta) (t2 : CodeAt s.heap qD tb)
    (ha : 0 ≤ a) (ha2 : a < 2 ^ (Builtin.Int.intBits b * 6)) (hb : 0 < b) (hN6 : Builtin.Int.intBits b ≤ 6)
    (ret : ∀ r q u1 u2 h' tk', Keep [66, 73] s.heap h' → TabsN s.heap ta tb h' → s.heap.get? r = none → h'.get? r = some (tupObj [.int q u1, .int (a % b) u2]) → Q (.ref r) { s with heap := h', toks := tk' }) :
    wpAny (model PySem.Challenge.rw_wf0065_01.row.prog w) A (call (.ref 92) [.int a xa, .int b xb]) Q E s := by
  obtain ⟨dp, un, gd, env, outer, A₀, base, h₀, L, m, mg, mb, p, loose, mean, rfl, B, F, N, X, T, hf, hke, hdp, hun, c1, c2⟩ := H
  revert X; k_fill; intro X
  refine wpAny_call ?_
  k_dflt (refine' enterH (binds := [(Str.ofString "a", .int a xa), (Str.ofString "b", .int b xb)]) ⟨B, F, X, N, T, rfl, hf, hke⟩ (by walk_at "mine def") (by walk_at "mine def") (by walk_at "mine binds") (by walk_at "mine takes") (by walk_at "mine locals") (by decide) ?_; k_whole)
  rintro g L' h' ⟨F', N', B', X', T', G', l1, st'⟩
  have e66 := N.get (a := 66) (.head _)
  have e73 := N.get (a := 73) (.tail _ (.head _))
  have W' := tabP_start t1 t2 e66 e73 G'
  have hsub := fun (h₂ : Heap) (m₂ : Str → Option Value) (F₂ : Fr g L' h₂ m₂) => (Keep.of G' F₂ : Keep [66, 73] s.heap h₂)
  have c1' := c1.keeps st'
  have c2' := c2.keeps st'
  clear B F N X T hf c1 c2 st' t1 t2 e66 e73
  k_lt l1
  dsimp only [Run]
  k_unmd
  k_fold
  k_with "mine call" => (k_dflt (refine' dmpC ?dmpC_H ?dmpC_t1 ?dmpC_t2 ?dmpC_ha ?dmpC_ha2 ?dmpC_hb ?dmpC_hN6 ?_; (case dmpC_H => walk_at "mine here"); (case dmpC_t1 => walk_at "mine tab1"); (case dmpC_t2 => walk_at "mine tab2"); (case dmpC_ha => walk_at "mine fact"); (case dmpC_ha2 => walk_at "mine fact"); (case dmpC_hb => walk_at "mine fact"); (case dmpC_hN6 => walk_at "mine fact"); k_whole); intro r9 q9 u9 v9 h9 tk9 k9 tb9 f9 g9; walk_at "mine tabsnewT")
  k_with "mine tabsnewT" => ((rename Keep [66, 73] _ _ => kp9); (rename TabsN _ _ _ _ => tb9); (rename Heap.get? _ _ = none => fr9); (rename Heap.get? _ _ = some (tupObj _) => gt9); (try dsimp only at kp9); (try dsimp only at tb9); (try dsimp only at fr9); (have A9 := new_off (by k_asm) fr9); (simp only [AllNe, and_true] at A9); (refine' tabs_elim ?tT_zW ?tT_zF ?tT_zN ?tT_zS kp9 tb9 ?_; (case tT_zF => k_asm); (case tT_zN => k_asm); (case tT_zS => walk_at "mine loc"); (case tT_zW => assumption)); clear kp9 tb9; intro a9 b9 ex9 F9 N9 W9 X9 Z9; (have C9 := code_neT Z9 gt9); (have M9 := tabs_new (by k_asm) N9 fr9 gt9); clear N9 Z9 fr9 gt9; (try simp only [List.cons_append, List.nil_append] at M9); walk_at "mine apart"; (try k_sweep); (try dsimp only); (try k_fold))
  k_steps
  k_with_none
  all_goals (try (exfalso; omega))
  (try dsimp only)
  (try k_unfold)
  (try dsimp only [Back])
  (rename News g _ _ _ => nwE)
  refine' ret _ _ _ _ _ _ (hsub _ _ (by assumption)) ?e2 ?e3 (nwE.get (.head _))
  case e2 => exact tabs_end (by assumption) (by k_asm) nwE (by k_mem) (by k_mem) (by walk_at "mine ex")
  case e3 => refine Keep.fresh G' nwE (.head _) (off_led nwE (by k_mem) (by k_mem) (by k_mem) (by intro e; cases e))

theorem at_bits : True := by
  w_top off
  k_with_none
  trivial
/-- how many places are wanted to tell two numbers apart -/
def dl (x y : Int) : Nat := Builtin.Int.intBits (Builtin.bitXor x y)
theorem nat_xor_and : ∀ (n a b : Nat), a + b ≤ n → (a ^^^ b) + 2 * (a &&& b) = a + b
  | 0, a, b, h => by
    have h1 : a = 0 := by omega
    have h2 : b = 0 := by omega
    subst h1; subst h2; rfl
  | n + 1, a, b, h => by
    by_cases hz : a + b = 0
    · exact nat_xor_and n a b (by omega)
    · have ih := nat_xor_and n (a / 2) (b / 2) (by omega)
      have d1 := @Nat.xor_div_two a b
      have d2 := @Nat.and_div_two a b
      have m1 := @Nat.xor_mod_two_pow a b 1
      have m2 := @Nat.and_mod_two_pow a b 1
      rw [Nat.pow_one] at m1 m2
      rcases Nat.mod_two_eq_zero_or_one a with ha | ha <;> rcases Nat.mod_two_eq_zero_or_one b with hb | hb <;> rw [ha, hb] at m1 m2 <;> simp only [Nat.reduceXor, Nat.reduceAnd, Nat.xor_self, Nat.and_self, Nat.zero_xor, Nat.xor_zero, Nat.zero_and, Nat.and_zero] at m1 m2 <;> omega
theorem bitXor_nat (a b : Nat) : Builtin.bitXor (a : Int) (b : Int) = ((a ^^^ b : Nat) : Int) := by
  rw [bitXor_and, bitAnd_pp (Int.natCast_nonneg _) (Int.natCast_nonneg _), Int.toNat_natCast, Int.toNat_natCast]
  have := nat_xor_and _ a b (Nat.le_refl _)
  omega
theorem nat_xor_zero {u v : Nat} : u ^^^ v = 0 ↔ u = v := by
  constructor
  · intro h
    have := congrArg (fun z => z ^^^ v) h
    simpa [Nat.xor_assoc] using this
  · rintro rfl
    exact Nat.xor_self _
theorem bits_iff {x : Int} (h0 : 0 ≤ x) (k : Nat) : Builtin.Int.intBits x ≤ k ↔ x < 2 ^ k := by
  constructor
  · intro h
    refine Int.lt_of_lt_of_le (lt_bits h0) ?_
    have := Nat.pow_le_pow_right (n := 2) (by decide) h
    exact_mod_cast this
  · exact bits_le h0
theorem bits_mono {x y : Int} (h0 : 0 ≤ x) (h : x ≤ y) : Builtin.Int.intBits x ≤ Builtin.Int.intBits y :=
  (bits_iff h0 _).mpr (Int.lt_of_le_of_lt h (lt_bits (Int.le_trans h0 h)))
theorem xor_nonneg {x y : Int} (hx : 0 ≤ x) (hy : 0 ≤ y) : 0 ≤ Builtin.bitXor x y := by
  obtain ⟨a, rfl⟩ := Int.eq_ofNat_of_zero_le hx
  obtain ⟨b, rfl⟩ := Int.eq_ofNat_of_zero_le hy
  rw [bitXor_nat]
  exact Int.natCast_nonneg _
theorem dl_le {x y : Int} (hx : 0 ≤ x) (hy : 0 ≤ y) (k : Nat) : dl x y ≤ k ↔ x / 2 ^ k = y / 2 ^ k := by
  obtain ⟨a, rfl⟩ := Int.eq_ofNat_of_zero_le hx
  obtain ⟨b, rfl⟩ := Int.eq_ofNat_of_zero_le hy
  have hp : 0 < 2 ^ k := Nat.pow_pos (by decide)
  unfold dl
  rw [bitXor_nat, bits_iff (Int.natCast_nonneg _)]
  have e1 : (((a ^^^ b : Nat) : Int) < 2 ^ k) ↔ (a ^^^ b) < 2 ^ k := by exact_mod_cast Iff.rfl
  have e2 : ((a : Int) / 2 ^ k = (b : Int) / 2 ^ k) ↔ a / 2 ^ k = b / 2 ^ k := by exact_mod_cast Iff.rfl
  rw [e1, e2, ← Nat.div_eq_zero_iff_lt hp, Nat.xor_div_two_pow, nat_xor_zero]
theorem div_more {x y : Int} {c k : Nat} (h : x / 2 ^ c = y / 2 ^ c) (hk : c ≤ k) : x / 2 ^ k = y / 2 ^ k := by
  have e : (2 : Int) ^ k = 2 ^ c * 2 ^ (k - c) := by rw [← Int.pow_add]; congr 1; omega
  rw [e, ← Int.ediv_ediv_of_nonneg (Int.le_of_lt (two_pos c)), ← Int.ediv_ediv_of_nonneg (Int.le_of_lt (two_pos c)), h]
theorem div_mono {x y : Int} (k : Nat) (h : x ≤ y) : x / 2 ^ k ≤ y / 2 ^ k := Int.ediv_le_ediv (two_pos k) h
theorem lt_of_div {x y : Int} {k : Nat} (h : x / 2 ^ k < y / 2 ^ k) : x < y := by
  by_cases q : x < y
  · exact q
  · have := div_mono k (show y ≤ x by omega); omega
/-- where two numbers part -/
theorem dl_split {x y : Int} (hx : 0 ≤ x) (hy : 0 ≤ y) (h : x < y) : ∃ d : Nat, dl x y = d + 1 ∧ x / 2 ^ (d + 1) = y / 2 ^ (d + 1) ∧ x / 2 ^ d < y / 2 ^ d := by
  have h0 : ¬ dl x y ≤ 0 := fun q => by
    rw [dl_le hx hy] at q
    simp at q
    omega
  refine ⟨dl x y - 1, by omega, ?_, ?_⟩
  · rw [← dl_le hx hy]; omega
  · have h1 : ¬ dl x y ≤ dl x y - 1 := by omega
    rw [dl_le hx hy] at h1
    have := div_mono (dl x y - 1) (Int.le_of_lt h)
    omega
theorem dl_eq {x y : Int} {d : Nat} (hx : 0 ≤ x) (hy : 0 ≤ y) (h1 : x / 2 ^ (d + 1) = y / 2 ^ (d + 1)) (h2 : x / 2 ^ d ≠ y / 2 ^ d) : dl x y = d + 1 := by
  rw [← dl_le hx hy] at h1
  rw [ne_eq, ← dl_le hx hy] at h2
  omega
theorem half_half (x : Int) (d : Nat) : x / 2 ^ (d + 1) = x / 2 ^ d / 2 := by
  rw [Int.pow_succ, Int.ediv_ediv_of_nonneg (Int.le_of_lt (two_pos d))]
theorem part_bits {x y : Int} {d : Nat} (h1 : x / 2 ^ (d + 1) = y / 2 ^ (d + 1)) (h2 : x / 2 ^ d < y / 2 ^ d) : x / 2 ^ d % 2 = 0 ∧ y / 2 ^ d % 2 = 1 ∧ y / 2 ^ d = x / 2 ^ d + 1 := by
  rw [half_half, half_half] at h1
  omega

theorem dv_cons (n : Nat) (d : Int) (ds : List Int) : ∀ k L, dv n (d :: ds) (L + 1) k = dv n ds L k
  | 0, _ => rfl
  | k + 1, L => by
    simp only [dv]
    rw [dv_cons n d ds k (L + 1)]
    simp
theorem dv_zero_cons (n : Nat) (d : Int) (ds : List Int) (k : Nat) : dv n (d :: ds) 0 (k + 1) = d + 2 ^ n * dv n ds 0 k := by
  simp only [dv]
  rw [dv_cons]
  simp
theorem fdiv_two (x : Int) (k : Nat) : x.fdiv (2 ^ k) = x / 2 ^ k := Int.fdiv_eq_ediv_of_nonneg _ (Int.le_of_lt (two_pos k))
theorem short_cons (k : Int) (r : List Int) (x : Int) : shortOf (k :: r) x = x / 2 ^ k.toNat % 2 + 2 * shortOf r x := by
  rw [shortOf_eq, shortOf_eq, List.map_cons, List.length_cons, dv_zero_cons, bitAnd_m1, fdiv_two]
  rfl
theorem short_same {x y : Int} : ∀ {ks : List Int}, (∀ k ∈ ks, x / 2 ^ k.toNat = y / 2 ^ k.toNat) → shortOf ks x = shortOf ks y
  | [], _ => rfl
  | k :: r, h => by rw [short_cons, short_cons, h k (.head _), short_same fun k hk => h k (.tail _ hk)]
theorem short_mono {x y : Int} : ∀ {ks : List Int}, (∀ k ∈ ks, x / 2 ^ k.toNat % 2 ≤ y / 2 ^ k.toNat % 2) → shortOf ks x ≤ shortOf ks y
  | [], _ => Int.le_refl _
  | k :: r, h => by
    rw [short_cons, short_cons]
    have h1 := h k (.head _)
    have h2 := short_mono (x := x) (y := y) (ks := r) fun k hk => h k (.tail _ hk)
    omega
theorem short_lt {x y : Int} {d : Nat} (h1 : x / 2 ^ (d + 1) = y / 2 ^ (d + 1)) (h2 : x / 2 ^ d < y / 2 ^ d) : ∀ {ks : List Int}, Rising ks → (∀ k ∈ ks, 0 ≤ k) → (d : Int) ∈ ks → shortOf ks x < shortOf ks y
  | [], _, _, h => nomatch h
  | k :: r, R, h0, hd => by
    rw [short_cons, short_cons]
    rcases List.mem_cons.mp hd with e | hd
    · have hs : shortOf r x = shortOf r y := short_same fun k' hk' => by
        have h3 : k < k' := (List.pairwise_cons.mp R).1 k' hk'
        exact div_more h1 (by omega)
      have p := part_bits h1 h2
      rw [← e, Int.toNat_natCast, hs]
      omega
    · have := short_lt h1 h2 (ks := r) (List.pairwise_cons.mp R).2 (fun k hk => h0 k (.tail _ hk)) hd
      omega

theorem adj_split {x y : Int} {d : Nat} : ∀ {ns : List Int}, Rising ns → x ∈ ns → y ∈ ns → x / 2 ^ (d + 1) = y / 2 ^ (d + 1) → x / 2 ^ d < y / 2 ^ d →
    ∃ a b, (a, b) ∈ ns.zip (ns.drop 1) ∧ a / 2 ^ (d + 1) = b / 2 ^ (d + 1) ∧ a / 2 ^ d ≠ b / 2 ^ d
  | [], _, h, _, _, _ => nomatch h
  | [a], _, hx, hy, _, h2 => by
    rw [List.mem_singleton.mp hx, List.mem_singleton.mp hy] at h2
    omega
  | a :: b :: r, R, hx, hy, h1, h2 => by
    have Rb := (List.pairwise_cons.mp R).2
    have hab : a < b := (List.pairwise_cons.mp R).1 b (.head _)
    have up : ∀ {x y : Int}, x ∈ b :: r → y ∈ b :: r → x / 2 ^ (d + 1) = y / 2 ^ (d + 1) → x / 2 ^ d < y / 2 ^ d → ∃ a₁ b₁, (a₁, b₁) ∈ (a :: b :: r).zip ((a :: b :: r).drop 1) ∧ a₁ / 2 ^ (d + 1) = b₁ / 2 ^ (d + 1) ∧ a₁ / 2 ^ d ≠ b₁ / 2 ^ d := fun hx hy h1 h2 => by
      obtain ⟨a₁, b₁, hm, e⟩ := adj_split Rb hx hy h1 h2
      exact ⟨a₁, b₁, by simpa using Or.inr hm, e⟩
    have hlt := lt_of_div h2
    rcases List.mem_cons.mp hx with rfl | hx'
    · rcases List.mem_cons.mp hy with e | hy'
      · omega
      · have hby : b ≤ y := by
          rcases List.mem_cons.mp hy' with rfl | q
          · exact Int.le_refl _
          · exact Int.le_of_lt ((List.pairwise_cons.mp Rb).1 y q)
        have p := part_bits h1 h2
        have m1 := div_mono d (Int.le_of_lt hab)
        have m2 := div_mono d hby
        have hb1 : b / 2 ^ (d + 1) = y / 2 ^ (d + 1) := by
          have n1 := div_mono (d + 1) (Int.le_of_lt hab)
          have n2 := div_mono (d + 1) hby
          omega
        by_cases q : b / 2 ^ d = x / 2 ^ d
        · exact up (.head _) hy' hb1 (by omega)
        · exact ⟨x, b, by simp, h1.trans hb1.symm, fun e => q e.symm⟩
    · rcases List.mem_cons.mp hy with rfl | hy'
      · have := (List.pairwise_cons.mp R).1 x hx'
        omega
      · exact up hx' hy' h1 h2
theorem marksOf_mem {ns : List Int} {k : Int} : k ∈ marksOf ns ↔ ∃ a b, (a, b) ∈ ns.zip (ns.drop 1) ∧ markOf a b = k := by
  unfold marksOf
  rw [marks_mem]
  simp
theorem zip_adj {a b : Int} : ∀ {ns : List Int}, Rising ns → (a, b) ∈ ns.zip (ns.drop 1) → a ∈ ns ∧ b ∈ ns ∧ a < b
  | [], _, h => by simp at h
  | [_], _, h => by simp at h
  | x :: y :: r, R, h => by
    simp only [List.drop_succ_cons, List.drop_zero, List.zip_cons_cons, List.mem_cons, Prod.mk.injEq] at h
    rcases h with ⟨rfl, rfl⟩ | h
    · exact ⟨.head _, .tail _ (.head _), (List.pairwise_cons.mp R).1 _ (.head _)⟩
    · obtain ⟨h1, h2, h3⟩ := zip_adj (ns := y :: r) (List.pairwise_cons.mp R).2 (by simpa using h)
      exact ⟨.tail _ h1, .tail _ h2, h3⟩
theorem marksOf_nonneg {ns : List Int} (R : Rising ns) (h0 : ∀ x ∈ ns, 0 ≤ x) : ∀ k ∈ marksOf ns, 0 ≤ k := fun k hk => by
  obtain ⟨a, b, hm, rfl⟩ := marksOf_mem.mp hk
  obtain ⟨ha, hb, hlt⟩ := zip_adj R hm
  obtain ⟨d, e, _⟩ := dl_split (h0 a ha) (h0 b hb) hlt
  unfold markOf
  unfold dl at e
  omega
theorem mark_in {ns : List Int} (R : Rising ns) (h0 : ∀ x ∈ ns, 0 ≤ x) {x y : Int} {d : Nat} (hx : x ∈ ns) (hy : y ∈ ns) (h1 : x / 2 ^ (d + 1) = y / 2 ^ (d + 1)) (h2 : x / 2 ^ d < y / 2 ^ d) : (d : Int) ∈ marksOf ns := by
  obtain ⟨a, b, hm, e1, e2⟩ := adj_split R hx hy h1 h2
  obtain ⟨ha, hb, _⟩ := zip_adj R hm
  refine marksOf_mem.mpr ⟨a, b, hm, ?_⟩
  have := dl_eq (h0 a ha) (h0 b hb) e1 e2
  unfold markOf
  unfold dl at this
  omega
theorem short_key {ns : List Int} (R : Rising ns) (h0 : ∀ x ∈ ns, 0 ≤ x) {x y : Int} (hx : x ∈ ns) (hy : y ∈ ns) (h : x < y) : shortOf (marksOf ns) x < shortOf (marksOf ns) y := by
  obtain ⟨d, _, h1, h2⟩ := dl_split (h0 x hx) (h0 y hy) h
  exact short_lt h1 h2 (marksOf_rising ns) (marksOf_nonneg R h0) (mark_in R h0 hx hy h1 h2)
theorem shorts_rising {ns : List Int} (R : Rising ns) (h0 : ∀ x ∈ ns, 0 ≤ x) : Rising (shortsOf ns) := by
  unfold shortsOf Rising
  rw [List.pairwise_map]
  exact List.Pairwise.imp_of_mem (fun hx hy h => short_key R h0 hx hy h) R
theorem short_key_iff {ns : List Int} (R : Rising ns) (h0 : ∀ x ∈ ns, 0 ≤ x) {x y : Int} (hx : x ∈ ns) (hy : y ∈ ns) : shortOf (marksOf ns) x < shortOf (marksOf ns) y ↔ x < y := by
  constructor
  · intro h
    rcases Int.lt_trichotomy x y with q | q | q
    · exact q
    · rw [q] at h; omega
    · have := short_key R h0 hy hx q; omega
  · exact short_key R h0 hx hy
theorem cnt_map {p : Int → Bool} {f : Int → Int} {ns : List Int} : cnt p (ns.map f) = cnt (fun x => p (f x)) ns := by
  unfold cnt
  rw [List.countP_map]
  rfl
theorem cnt_congr {p q : Int → Bool} {ns : List Int} (h : ∀ x ∈ ns, p x = q x) : cnt p ns = cnt q ns := by
  unfold cnt
  rw [List.countP_congr fun x hx => by rw [h x hx]]
/-- a key's place is its short's -/
theorem place_key {ns : List Int} (R : Rising ns) (h0 : ∀ x ∈ ns, 0 ≤ x) {q : Int} (hq : q ∈ ns) : cnt (fun y => decide (y < shortOf (marksOf ns) q)) (shortsOf ns) = cnt (fun y => decide (y < q)) ns := by
  unfold shortsOf
  rw [cnt_map]
  refine cnt_congr fun x hx => ?_
  simp only [decide_eq_decide]
  exact short_key_iff R h0 hx hq

/-- the longest beginning that a number shares with a key ends above the place c -/
structure Near (ns : List Int) (q : Int) (c : Nat) : Prop where
  R : Rising ns
  h0 : ∀ x ∈ ns, 0 ≤ x
  hq : 0 ≤ q
  some : ∃ k ∈ ns, dl k q = c + 1
  all : ∀ k ∈ ns, c + 1 ≤ dl k q
theorem Near.out {ns : List Int} {q : Int} {c : Nat} (N : Near ns q c) {k : Int} (hk : k ∈ ns) (h : dl k q ≠ c + 1) :
    ∃ d : Nat, c < d ∧ (d : Int) ∈ marksOf ns ∧ k / 2 ^ (d + 1) = q / 2 ^ (d + 1) ∧ k / 2 ^ d ≠ q / 2 ^ d := by
  obtain ⟨k₀, hk₀, e⟩ := N.some
  have h1 := N.all k hk
  have a0 := (dl_le (N.h0 k₀ hk₀) N.hq (c + 1)).mp (Nat.le_of_eq e)
  have e1 := (dl_le (N.h0 k hk) N.hq (dl k q - 1 + 1)).mp (by omega)
  have e2 : k / 2 ^ (dl k q - 1) ≠ q / 2 ^ (dl k q - 1) := fun z => by
    have := (dl_le (N.h0 k hk) N.hq (dl k q - 1)).mpr z
    omega
  refine ⟨dl k q - 1, by omega, ?_, e1, e2⟩
  have b1 := div_more (k := dl k q - 1 + 1) a0 (by omega)
  have b2 := div_more (k := dl k q - 1) a0 (by omega)
  rcases Int.lt_or_gt_of_ne e2 with z | z
  · exact mark_in N.R N.h0 hk hk₀ (e1.trans b1.symm) (by rw [b2]; exact z)
  · exact mark_in N.R N.h0 hk₀ hk (b1.trans e1.symm) (by rw [b2]; exact z)
theorem Near.inn {ns : List Int} {q : Int} {c : Nat} (N : Near ns q c) {k : Int} (hk : k ∈ ns) (h : dl k q = c + 1) : k / 2 ^ (c + 1) = q / 2 ^ (c + 1) ∧ k / 2 ^ c ≠ q / 2 ^ c := by
  refine ⟨(dl_le (N.h0 k hk) N.hq (c + 1)).mp (Nat.le_of_eq h), fun z => ?_⟩
  have := (dl_le (N.h0 k hk) N.hq c).mpr z
  omega
theorem Near.ne {ns : List Int} {q : Int} {c : Nat} (N : Near ns q c) {k : Int} (hk : k ∈ ns) : k / 2 ^ c ≠ q / 2 ^ c := fun z => by
  have := (dl_le (N.h0 k hk) N.hq c).mpr z
  have := N.all k hk
  omega
theorem Near.lt_iff {ns : List Int} {q : Int} {c : Nat} (N : Near ns q c) {k : Int} (hk : k ∈ ns) : k < q ↔ k / 2 ^ c < q / 2 ^ c := by
  constructor
  · intro h
    have := div_mono c (Int.le_of_lt h)
    have := N.ne hk
    omega
  · exact lt_of_div
/-- a key that leaves the number's beginning higher up: its short tells which is less -/
theorem Near.out_short {ns : List Int} {q z : Int} {c : Nat} (N : Near ns q c) {k : Int} (hk : k ∈ ns) (h : dl k q ≠ c + 1) (hz : z / 2 ^ (c + 1) = q / 2 ^ (c + 1)) :
    (k < q → shortOf (marksOf ns) k < shortOf (marksOf ns) z) ∧ (q < k → shortOf (marksOf ns) z < shortOf (marksOf ns) k) := by
  obtain ⟨d, hd, hm, e1, e2⟩ := N.out hk h
  have z1 := div_more (k := d + 1) hz (by omega)
  have z2 := div_more (k := d) hz (by omega)
  refine ⟨fun hl => ?_, fun hl => ?_⟩
  · have := div_mono d (Int.le_of_lt hl)
    exact short_lt (e1.trans z1.symm) (by rw [z2]; omega) (marksOf_rising ns) (marksOf_nonneg N.R N.h0) hm
  · have := div_mono d (Int.le_of_lt hl)
    exact short_lt (z1.trans e1.symm) (by rw [z2]; omega) (marksOf_rising ns) (marksOf_nonneg N.R N.h0) hm
theorem Near.out_key {ns : List Int} {q : Int} {c : Nat} (N : Near ns q c) {k k₀ : Int} (hk : k ∈ ns) (h : dl k q ≠ c + 1) (hk₀ : k₀ ∈ ns) (e : dl k₀ q = c + 1) : (k < q → k < k₀) ∧ (q < k → k₀ < k) := by
  obtain ⟨d, hd, hm, e1, e2⟩ := N.out hk h
  have b2 := div_more (k := d) (N.inn hk₀ e).1 (by omega)
  refine ⟨fun hl => lt_of_div (k := d) ?_, fun hl => lt_of_div (k := d) ?_⟩
  · have := div_mono d (Int.le_of_lt hl); rw [b2]; omega
  · have := div_mono d (Int.le_of_lt hl); rw [b2]; omega
theorem Near.not_mem {ns : List Int} {q : Int} {c : Nat} (N : Near ns q c) : q ∉ ns := fun h => N.ne h rfl
theorem cnt_of_down {p : Int → Bool} {ns : List Int} (D : Down p ns) {i : Nat} (hi : i < ns.length) : (i : Int) < cnt p ns ↔ p (ns.getD i 0) = true := by
  obtain ⟨h1, h2⟩ := cnt_split D
  have c0 := cnt_lo p ns
  have e : ns.getD i 0 = ns[i] := by simp [List.getD_eq_getElem?_getD, hi]
  constructor
  · intro h
    refine h1 _ ?_
    rw [e]
    exact List.mem_take_iff_getElem.mpr ⟨i, by omega, rfl⟩
  · intro h
    by_cases q : (i : Int) < cnt p ns
    · exact q
    · have := h2 (ns.getD i 0) (by
        rw [e]
        refine List.mem_drop_iff_getElem.mpr ⟨i - (cnt p ns).toNat, by omega, ?_⟩
        congr 1
        omega)
      rw [h] at this; cases this
/-- one of the two keys beside a number's short's place shares its longest beginning -/
theorem Near.beside {ns : List Int} {q : Int} {c : Nat} (N : Near ns q c) {P : Int} (hP : P = cnt (fun y => decide (y < shortOf (marksOf ns) q)) (shortsOf ns)) :
    ∃ i : Nat, i < ns.length ∧ P - 1 ≤ (i : Int) ∧ (i : Int) < P + 1 ∧ dl (ns.getD i 0) q = c + 1 := by
  have hP' : P = cnt (fun x => decide (shortOf (marksOf ns) x < shortOf (marksOf ns) q)) ns := by rw [hP, shortsOf, cnt_map]
  have getm : ∀ {i : Nat}, i < ns.length → ns.getD i 0 ∈ ns := fun {i} hi => by simp [List.getD_eq_getElem?_getD, hi]
  have D : Down (fun x => decide (shortOf (marksOf ns) x < shortOf (marksOf ns) q)) ns := fun i j hij hj h => by
    simp only [decide_eq_true_eq] at h ⊢
    rcases Nat.lt_or_eq_of_le hij with z | z
    · have := short_key N.R N.h0 (getm (show i < ns.length by omega)) (getm hj) (getD_lt N.R z hj)
      omega
    · rw [z]; exact h
  have split := fun {i : Nat} (hi : i < ns.length) => cnt_of_down D hi
  rw [← hP'] at split
  obtain ⟨k₀, hk₀, e₀⟩ := N.some
  obtain ⟨i₀, hi₀, rfl⟩ := List.getElem_of_mem hk₀
  have eg : ns.getD i₀ 0 = ns[i₀] := by simp [List.getD_eq_getElem?_getD, hi₀]
  rw [← eg] at hk₀ e₀
  have c1 : P ≤ (ns.length : Int) := by rw [hP']; exact cnt_hi _ _
  by_cases h : (i₀ : Int) < P
  · refine ⟨P.toNat - 1, by omega, by omega, by omega, ?_⟩
    have hi : P.toNat - 1 < ns.length := by omega
    refine Classical.byContradiction fun hne => ?_
    have hp := (split hi).mp (by omega)
    simp only [decide_eq_true_eq] at hp
    have ho := N.out_short (getm hi) hne rfl
    have hk := N.out_key (getm hi) hne hk₀ e₀
    have hle := getD_le N.R (show i₀ ≤ P.toNat - 1 by omega) hi
    rcases Int.lt_trichotomy (ns.getD (P.toNat - 1) 0) q with z | z | z
    · have := hk.1 z; omega
    · exact N.not_mem (z ▸ getm hi)
    · have := ho.2 z; omega
  · have c0 : 0 ≤ P := by rw [hP']; exact cnt_lo _ _
    refine ⟨P.toNat, by omega, by omega, by omega, ?_⟩
    have hi : P.toNat < ns.length := by omega
    refine Classical.byContradiction fun hne => ?_
    have hp : ¬ _ := fun z => absurd ((split hi).mpr z) (by omega)
    simp only [decide_eq_true_eq] at hp
    have ho := N.out_short (getm hi) hne rfl
    have hk := N.out_key (getm hi) hne hk₀ e₀
    have hle := getD_le N.R (show P.toNat ≤ i₀ by omega) hi₀
    rcases Int.lt_trichotomy (ns.getD P.toNat 0) q with z | z | z
    · have := ho.1 z; omega
    · exact N.not_mem (z ▸ getm hi)
    · have := hk.2 z; omega

theorem at_less : True := by
  w_top off
  k_with_none
  trivial
theorem and_split {u v : Int} (hu : 0 ≤ u) (hv : 0 ≤ v) (k : Nat) : Builtin.bitAnd u v = Builtin.bitAnd (u % 2 ^ k) (v % 2 ^ k) + 2 ^ k * Builtin.bitAnd (u / 2 ^ k) (v / 2 ^ k) := by
  obtain ⟨a, rfl⟩ := Int.eq_ofNat_of_zero_le hu
  obtain ⟨b, rfl⟩ := Int.eq_ofNat_of_zero_le hv
  have e : ∀ x : Nat, ((x : Int) % 2 ^ k) = ((x % 2 ^ k : Nat) : Int) := fun x => by simp
  have e' : ∀ x : Nat, ((x : Int) / 2 ^ k) = ((x / 2 ^ k : Nat) : Int) := fun x => by simp
  have ba : ∀ x y : Nat, Builtin.bitAnd (x : Int) (y : Int) = ((x &&& y : Nat) : Int) := fun x y => by
    rw [bitAnd_pp (Int.natCast_nonneg _) (Int.natCast_nonneg _), Int.toNat_natCast, Int.toNat_natCast]
  rw [e, e, e', e', ba, ba, ba, ← Nat.and_mod_two_pow, ← Nat.and_div_two_pow]
  have := Nat.mod_add_div (a &&& b) (2 ^ k)
  exact_mod_cast this.symm
theorem bitAnd_bounds {u v : Int} (hu : 0 ≤ u) (hv : 0 ≤ v) : 0 ≤ Builtin.bitAnd u v ∧ Builtin.bitAnd u v ≤ v := by
  obtain ⟨a, rfl⟩ := Int.eq_ofNat_of_zero_le hu
  obtain ⟨b, rfl⟩ := Int.eq_ofNat_of_zero_le hv
  rw [bitAnd_pp hu hv, Int.toNat_natCast, Int.toNat_natCast]
  have := @Nat.and_le_right a b
  exact ⟨Int.natCast_nonneg _, by exact_mod_cast this⟩
/-- fields, each with a 1 above it, the number taken off each -/
def gv (m : Nat) (x : Int) : List Int → Int
  | [] => 0
  | s :: r => (2 ^ m + s - x) + 2 ^ (m + 1) * gv m x r
def ov (m : Nat) : Nat → Int
  | 0 => 0
  | n + 1 => 1 + 2 ^ (m + 1) * ov m n
def tv (m : Nat) (x : Int) : List Int → Int
  | [] => 0
  | s :: r => (if x ≤ s then 1 else 0) + 2 ^ (m + 1) * tv m x r
theorem gv_nonneg {m : Nat} {x : Int} (x1 : x ≤ 2 ^ m) : ∀ {sh : List Int}, (∀ s ∈ sh, 0 ≤ s ∧ s < 2 ^ m) → 0 ≤ gv m x sh
  | [], _ => Int.le_refl _
  | s :: r, h => by
    have h1 := (h s (.head _)).1
    have h2 := gv_nonneg x1 (sh := r) fun k hk => h k (.tail _ hk)
    have h3 := Int.mul_nonneg (Int.le_of_lt (two_pos (m + 1))) h2
    unfold gv
    omega
theorem ov_nonneg (m : Nat) : ∀ n, 0 ≤ ov m n
  | 0 => Int.le_refl _
  | n + 1 => by
    have h3 := Int.mul_nonneg (Int.le_of_lt (two_pos (m + 1))) (ov_nonneg m n)
    unfold ov
    omega
theorem signs_tv {m : Nat} {x : Int} (x0 : 0 ≤ x) (x1 : x ≤ 2 ^ m) : ∀ {sh : List Int}, (∀ s ∈ sh, 0 ≤ s ∧ s < 2 ^ m) → Builtin.bitAnd (gv m x sh / 2 ^ m) (ov m sh.length) = tv m x sh
  | [], _ => by
    show Builtin.bitAnd (0 / 2 ^ m) 0 = 0
    rw [Int.zero_ediv]
    rfl
  | s :: r, h => by
    obtain ⟨s0, s1⟩ := h s (.head _)
    have hr := fun k hk => h k (List.mem_cons_of_mem s hk)
    have ih := signs_tv x0 x1 (sh := r) hr
    have g0 := gv_nonneg x1 hr
    have o0 := ov_nonneg m r.length
    have hp := two_pos m
    have hB : (2 : Int) ^ (m + 1) = 2 ^ m * 2 := Int.pow_succ ..
    have hB0 := two_pos (m + 1)
    unfold gv tv
    rw [List.length_cons]
    unfold ov
    have e1 : ((2 : Int) ^ m + s - x + 2 ^ (m + 1) * gv m x r) / 2 ^ m = (2 ^ m + s - x) / 2 ^ m + 2 * gv m x r := by
      rw [hB, Int.mul_assoc, Int.add_mul_ediv_left _ _ (Int.ne_of_gt hp)]
    have e2 : ((2 : Int) ^ m + s - x) / 2 ^ m = if x ≤ s then 1 else 0 := by
      by_cases hxs : x ≤ s
      · rw [if_pos hxs, show (2 : Int) ^ m + s - x = (s - x) + 2 ^ m * 1 by omega, Int.add_mul_ediv_left _ _ (Int.ne_of_gt hp), Int.ediv_eq_zero_of_lt (by omega) (by omega)]
        rfl
      · rw [if_neg hxs, Int.ediv_eq_zero_of_lt (by omega) (by omega)]
    rw [e1, e2]
    generalize ht : (if x ≤ s then (1 : Int) else 0) = t
    have t01 : t = 0 ∨ t = 1 := by
      rw [← ht]
      by_cases hxs : x ≤ s
      · rw [if_pos hxs]; exact .inr rfl
      · rw [if_neg hxs]; exact .inl rfl
    have u0 : 0 ≤ t + 2 * gv m x r := by omega
    have v0 : 0 ≤ 1 + 2 ^ (m + 1) * ov m r.length := by
      have := Int.mul_nonneg (Int.le_of_lt hB0) o0
      omega
    rw [and_split u0 v0 (m + 1)]
    have v1 : (1 + (2 : Int) ^ (m + 1) * ov m r.length) % 2 ^ (m + 1) = 1 := by
      rw [Int.add_mul_emod_self_left, Int.emod_eq_of_lt (by decide) (by omega)]
    have v2 : (1 + (2 : Int) ^ (m + 1) * ov m r.length) / 2 ^ (m + 1) = ov m r.length := by
      rw [Int.add_mul_ediv_left _ _ (Int.ne_of_gt hB0), Int.ediv_eq_zero_of_lt (by decide) (by omega)]
      omega
    have u2 : (t + 2 * gv m x r) / 2 ^ (m + 1) = gv m x r / 2 ^ m := by
      rw [hB, Int.mul_comm (2 ^ m), ← Int.ediv_ediv_of_nonneg (by decide)]
      congr 1
      omega
    have u1 : (t + 2 * gv m x r) % 2 ^ (m + 1) % 2 = t := by
      rw [Int.emod_emod_of_dvd _ (show (2 : Int) ∣ 2 ^ (m + 1) from ⟨2 ^ m, by rw [hB, Int.mul_comm]⟩)]
      omega
    rw [v1, v2, u2, bitAnd_m1, u1, ih]
theorem tv_cnt (m : Nat) (x : Int) : ∀ sh : List Int, ∃ z, 0 ≤ z ∧ tv m x sh = ((sh.countP fun s => decide (x ≤ s) : Nat) : Int) + (2 ^ (m + 1) - 1) * z
  | [] => ⟨0, Int.le_refl _, by simp [tv]⟩
  | s :: r => by
    obtain ⟨z, z0, e⟩ := tv_cnt m x r
    have hB0 := two_pos (m + 1)
    refine ⟨((r.countP fun s => decide (x ≤ s) : Nat) : Int) + 2 ^ (m + 1) * z, ?_, ?_⟩
    · have := Int.mul_nonneg (Int.le_of_lt hB0) z0
      omega
    · unfold tv
      rw [e, List.countP_cons]
      generalize (r.countP fun s => decide (x ≤ s)) = c
      generalize (2 : Int) ^ (m + 1) = B
      have : B * ((c : Int) + (B - 1) * z) = c + (B - 1) * (c + B * z) := by
        rw [Int.mul_add, Int.mul_add, Int.sub_mul, Int.sub_mul, Int.mul_sub, Int.sub_mul, Int.one_mul, Int.one_mul, Int.one_mul]
        omega
      rw [this]
      by_cases hxs : x ≤ s <;> simp [hxs] <;> omega
theorem dv_fields (m : Nat) : ∀ sh : List Int, (∀ s ∈ sh, 0 ≤ s ∧ s < 2 ^ m) → ∀ x, dv (m + 1) (sh.map fun k' => Builtin.bitOr (1 * 2 ^ ((m : Nat) : Int).toNat) k') 0 sh.length - dv (m + 1) (List.replicate sh.length 1) 0 sh.length * x = gv m x sh
  | [], _, x => by simp [dv, gv]
  | s :: r, h, x => by
    have ih := dv_fields m r (fun k hk => h k (.tail _ hk)) x
    rw [List.map_cons, List.length_cons, dv_zero_cons, List.replicate_succ, dv_zero_cons, or_above (h s (.head _)).1 (h s (.head _)).2]
    unfold gv
    rw [← ih, Int.mul_sub, Int.add_mul, Int.mul_assoc, Int.one_mul]
    omega
theorem dv_ones (m : Nat) : ∀ n : Nat, dv (m + 1) (List.replicate n 1) 0 n = ov m n
  | 0 => rfl
  | n + 1 => by rw [List.replicate_succ, dv_zero_cons, dv_ones m n]; rfl
theorem onesV_eq (ns : List Int) : onesV ns = ov (marksOf ns).length ns.length := by
  unfold onesV inVal
  rw [ones_eq, List.length_replicate, show (((marksOf ns).length : Int) + 1).toNat = (marksOf ns).length + 1 by omega, show ((ns.length : Int) - 0).toNat = ns.length by omega]
  exact dv_ones _ _
theorem shortsOf_bound (ns : List Int) : ∀ s ∈ shortsOf ns, 0 ≤ s ∧ s < 2 ^ (marksOf ns).length := fun s hs => by
  obtain ⟨x, _, rfl⟩ := List.mem_map.mp hs
  exact shortOf_bound _ x
theorem shortsOf_length (ns : List Int) : (shortsOf ns).length = ns.length := List.length_map _
theorem fieldsV_eq (ns : List Int) (x : Int) : fieldsV ns - onesV ns * x = gv (marksOf ns).length x (shortsOf ns) := by
  rw [← dv_fields _ _ (shortsOf_bound ns), shortsOf_length, onesV_eq, dv_ones]
  unfold fieldsV inVal
  rw [List.length_map, List.length_map, show (((marksOf ns).length : Int) + 1).toNat = (marksOf ns).length + 1 by omega, show ((ns.length : Int) - 0).toNat = ns.length by omega]
  rfl
theorem onesV_bound {ns : List Int} (h1 : (marksOf ns).length ≤ 5) (h2 : ns.length ≤ 6) : 0 ≤ onesV ns ∧ onesV ns < 2 ^ (((marksOf ns).length + 1) * 6) := by
  have h := dv_bound (n := (marksOf ns).length + 1) (ds := List.replicate ns.length 1) (by
    have := ones_dig (m := (marksOf ns).length) (n := ns.length)
    rwa [show (((marksOf ns).length : Int) + 1).toNat = (marksOf ns).length + 1 by omega] at this) ns.length 0 (by rw [List.length_replicate]; omega)
  rw [dv_ones, ← onesV_eq] at h
  refine ⟨h.1, Int.lt_of_lt_of_le h.2 ?_⟩
  have := Nat.pow_le_pow_right (n := 2) (by decide) (Nat.mul_le_mul_left ((marksOf ns).length + 1) h2)
  exact_mod_cast this
/-- the 1s above the fields that aren't less -/
def signsV (ns : List Int) (x : Int) : Int := Builtin.bitAnd ((fieldsV ns - onesV ns * x).fdiv (2 ^ ((marksOf ns).length : Int).toNat)) (onesV ns)
theorem signsV_eq {ns : List Int} {x : Int} (x0 : 0 ≤ x) (x1 : x ≤ 2 ^ (marksOf ns).length) : signsV ns x = tv (marksOf ns).length x (shortsOf ns) := by
  unfold signsV
  rw [Int.toNat_natCast, fdiv_two, fieldsV_eq, onesV_eq, ← shortsOf_length ns]
  exact signs_tv x0 x1 (shortsOf_bound ns)
theorem signsV_bound {ns : List Int} {x : Int} (x0 : 0 ≤ x) (x1 : x ≤ 2 ^ (marksOf ns).length) (h1 : (marksOf ns).length ≤ 5) (h2 : ns.length ≤ 6) : 0 ≤ signsV ns x ∧ signsV ns x < 2 ^ (((marksOf ns).length + 1) * 6) := by
  obtain ⟨o0, o1⟩ := onesV_bound h1 h2
  have hg : 0 ≤ (fieldsV ns - onesV ns * x).fdiv (2 ^ ((marksOf ns).length : Int).toNat) := by
    rw [Int.toNat_natCast, fdiv_two, fieldsV_eq]
    exact Int.ediv_nonneg (gv_nonneg x1 (shortsOf_bound ns)) (Int.le_of_lt (two_pos _))
  obtain ⟨b0, b1⟩ := bitAnd_bounds hg o0
  exact ⟨b0, Int.lt_of_le_of_lt b1 o1⟩
theorem countP_ge (x : Int) : ∀ sh : List Int, (sh.length : Int) - ((sh.countP fun s => decide (x ≤ s) : Nat) : Int) = cnt (fun y => decide (y < x)) sh
  | [] => rfl
  | s :: r => by
    have ih := countP_ge x r
    unfold cnt at ih ⊢
    rw [List.length_cons, List.countP_cons, List.countP_cons]
    by_cases h : x ≤ s
    · have h' : ¬ s < x := by omega
      simp [h, h']
      omega
    · have h' : s < x := by omega
      simp [h, h']
      omega
/-- what the fields tell -/
theorem less_fields {ns : List Int} {x : Int} (x0 : 0 ≤ x) (x1 : x ≤ 2 ^ (marksOf ns).length) (h2 : ns.length ≤ 6) (h3 : 2 ≤ (marksOf ns).length) :
    ((shortsOf ns).length : Int) - signsV ns x % (2 * 2 ^ ((marksOf ns).length : Int).toNat - 1) = cnt (fun y => decide (y < x)) (shortsOf ns) := by
  rw [← countP_ge, signsV_eq x0 x1]
  obtain ⟨z, _, e⟩ := tv_cnt (marksOf ns).length x (shortsOf ns)
  have hB : (2 : Int) * 2 ^ ((marksOf ns).length : Int).toNat = 2 ^ ((marksOf ns).length + 1) := by rw [Int.toNat_natCast, Int.pow_succ, Int.mul_comm]
  have h8 : (2 : Int) ^ 3 ≤ 2 ^ ((marksOf ns).length + 1) := by
    have := Nat.pow_le_pow_right (n := 2) (by decide) (show 3 ≤ (marksOf ns).length + 1 by omega)
    exact_mod_cast this
  have hc : (shortsOf ns).countP (fun s => decide (x ≤ s)) ≤ 6 := Nat.le_trans List.countP_le_length (by rw [shortsOf_length]; exact h2)
  rw [hB, e, Int.add_mul_emod_self_left, Int.emod_eq_of_lt (Int.natCast_nonneg _) (by omega)]
theorem bits_top (m : Nat) : Builtin.Int.intBits (2 * 2 ^ ((m : Nat) : Int).toNat - 1) = m + 1 := by
  have hB : (2 : Int) * 2 ^ ((m : Nat) : Int).toNat = 2 ^ (m + 1) := by rw [Int.toNat_natCast, Int.pow_succ, Int.mul_comm]
  have hp := two_pos m
  have hs : (2 : Int) ^ (m + 1) = 2 ^ m * 2 := Int.pow_succ ..
  rw [hB]
  have h1 := (bits_iff (x := 2 ^ (m + 1) - 1) (by omega) (m + 1)).mpr (by omega)
  have h2 : ¬ Builtin.Int.intBits (2 ^ (m + 1) - 1) ≤ m := fun q => by
    have := (bits_iff (x := 2 ^ (m + 1) - 1) (by omega) m).mp q
    omega
  omega
/-- a row that the law may build -/
structure Good (ns : List Int) : Prop where
  R : Rising ns
  h0 : ∀ x ∈ ns, 0 ≤ x
  top : ∀ x ∈ ns, x < 2 ^ 43
  len3 : 3 ≤ ns.length
  len6 : ns.length ≤ 6
  m2 : 2 ≤ (marksOf ns).length
def NonCode (h : Heap) (c : Addr) : Prop := ∀ q, ¬ h.CodeRec (.ref c) q
theorem nonCode_of {h : Heap} {c : Addr} {o : Obj} (e : h.get? c = some o) (hd : ∀ vs q t, o.data = .fields vs → vs[1]? ≠ some (.str q t)) : NonCode h c := fun q x => by
  obtain ⟨c₂, oc, vs, t, e2, hoc, hdd, hv⟩ := x
  cases e2
  rw [e] at hoc
  cases hoc
  exact hd _ _ _ hdd hv
theorem nonCode_list {h : Heap} {c : Addr} {vs : Array Value} {n : Nat} (e : h.get? c = some (listOf vs n)) : NonCode h c := nonCode_of e fun _ _ _ hd => by cases hd
theorem nonCode_tup {h : Heap} {c : Addr} {vs : List Value} (e : h.get? c = some (tupObj vs)) : NonCode h c := nonCode_of e fun _ _ _ hd => by cases hd
theorem nonCode_tab {h : Heap} {c : Addr} {ln col : Int} {a : Option Addr} (e : h.get? c = some (tabObj (tabOf ln col a))) : NonCode h c := nonCode_of e fun _ q t hd => by
  cases hd
  exact tabOf_noStr ln col a q t
theorem codeRec_keepL {h g : Heap} {c : Addr} {q : Str} {led : List (Addr × Obj)} (x : h.CodeRec (.ref c) q) (G : GSub h g (led.map (·.1))) (off : ∀ p ∈ led, NonCode h p.1) : g.CodeRec (.ref c) q := by
  have n : c ∉ led.map (·.1) := fun m => by
    obtain ⟨p, hp, rfl⟩ := List.mem_map.mp m
    exact off p hp q x
  obtain ⟨c₂, oc, vs, t, e2, hoc, hd, hv⟩ := x
  cases e2
  exact ⟨c, oc, vs, t, rfl, G _ _ hoc n, hd, hv⟩
/-- at the start of a def whose ledger holds more than the tables -/
theorem tabP_startL {h g : Heap} {led : List (Addr × Obj)} {a b : Option Addr} (t1 : CodeAt h qI a) (t2 : CodeAt h qD b) (G : GSub h g (led.map (·.1))) (off : ∀ p ∈ led, NonCode h p.1) : TabP g g a b a b [] := by
  refine ⟨?_, ?_, .inl rfl, .inl rfl, fun _ _ e _ => e⟩
  · cases a with
    | none => trivial
    | some c => exact .inl (codeRec_keepL t1 G off)
  · cases b with
    | none => trivial
    | some c => exact .inl (codeRec_keepL t2 G off)
theorem grow_lift {H g h' : Heap} {led : List (Addr × Obj)} {q : Str} {a a' : Option Addr} (x : Grow g a a') (t : CodeAt h' q a') (G : GSub H g (led.map (·.1))) (off : ∀ p ∈ led, NonCode h' p.1) : Grow H a a' := by
  rcases x with e | ⟨c, e, f⟩
  · exact .inl e
  · refine .inr ⟨c, e, ?_⟩
    subst e
    cases hb : H.get? c with
    | none => rfl
    | some o =>
      by_cases hc : c ∈ led.map (·.1)
      · obtain ⟨p, hp, rfl⟩ := List.mem_map.mp hc
        exact absurd t (off p hp q)
      · have := G _ _ hb hc
        rw [f] at this; cases this
theorem tabs_endL {H g h' : Heap} {led : List (Addr × Obj)} {a b : Option Addr} (T : TabsN g a b h') (G : GSub H g (led.map (·.1))) (off : ∀ p ∈ led, NonCode h' p.1) : TabsN H a b h' := by
  obtain ⟨a', b', e1, e2, t1, t2, g1, g2⟩ := T
  exact ⟨a', b', e1, e2, t1, t2, grow_lift g1 t1 G off, grow_lift g2 t2 G off⟩
theorem Keep.ledT {h₀ h g h' : Heap} {L L' : Addr} {m' : Str → Option Value} {led news : List (Addr × Obj)} (N : News h₀ L h led) (G : GSub h g (led.map (·.1))) (F' : Fr g L' h' m') (N' : News g L' h' news) (hc : ∀ p ∈ led, p.1 ∈ ([66, 73] : List Addr) ∨ p ∈ news) : Keep [66, 73] h h' := Keep.over N G F' N' hc
local macro_rules | `(tactic| walk_at "mine off") => `(tactic| first | exact List.forall_mem_nil _ | (refine List.forall_mem_cons.mpr ⟨?_, ?_⟩; (walk_at "mine off1"); (walk_at "mine off")))
local macro_rules | `(tactic| walk_at "mine off1") => `(tactic| ((try dsimp only); first | exact nonCode_list (News.get (by assumption) (by k_mem)) | exact nonCode_tup (News.get (by assumption) (by k_mem)) | exact nonCode_tab (News.get (by assumption) (by k_mem))))
local macro_rules | `(tactic| walk_at "mine consts") => `(tactic| first | exact List.forall_mem_nil _ | (refine List.forall_mem_cons.mpr ⟨?_, ?_⟩; (first | exact .inr (by k_mem) | exact .inl (.head _) | exact .inl (.tail _ (.head _))); (walk_at "mine consts")))
set_option maxHeartbeats 4000000 in
theorem lessC {w : World} {A : Around} {s : Shared} {Q E : Value → Shared → Prop} {ns : List Int} {x : Int} {tx tf to : Tok} {ta tb : Option Addr} {rn rm rs : Addr} {vm vx : List Value} {nm nx : Nat}
    (H : Here w A 90 900 s [(rn, tupObj [.ref rm, .ref rs, .int (fieldsV ns) tf, .int (onesV ns) to]), (rm, listOf vm.toArray nm), (rs, listOf vx.toArray nx), (66, tabObj (tabOf 85 4 ta)), (73, tabObj (tabOf 100 4 tb))]) (t1 : CodeAt s.heap qI ta) (t2 : CodeAt s.heap qD tb)
    (im : IntsAre vm (marksOf ns)) (ix : IntsAre vx (shortsOf ns)) (Gd : Good ns) (x0 : 0 ≤ x) (x1 : x ≤ 2 ^ (marksOf ns).length)
    (ret : ∀ t h' tk', Keep [66, 73] s.heap h' → TabsN s.heap ta tb h' → Q (.int (cnt (fun y => decide (y < x)) (shortsOf ns)) t) { s with heap := h', toks := tk' }) :
    wpAny (model PySem.Challenge.rw_wf0065_01.row.prog w) A (call (.ref 193) [.ref rn, .int x tx]) Q E s := by
  obtain ⟨dp, un, gd, env, outer, A₀, base, h₀, L, m, mg, mb, p, loose, mean, rfl, B, F, N, X, T, hf, hke, hdp, hun, c1, c2⟩ := H
  revert X; k_fill; intro X
  refine wpAny_call ?_
  k_dflt (refine' enterH (binds := [(Str.ofString "node", .ref rn), (Str.ofString "short", .int x tx)]) ⟨B, F, X, N, T, rfl, hf, hke⟩ (by walk_at "mine def") (by walk_at "mine def") (by walk_at "mine binds") (by walk_at "mine takes") (by walk_at "mine locals") (by decide) ?_; k_whole)
  rintro g L' h' ⟨F', N', B', X', T', G', l1, st'⟩
  have W' : TabP g g ta tb ta tb [] := tabP_startL t1 t2 G' (by walk_at "mine off")
  have hsub := fun (h₂ : Heap) (m₂ : Str → Option Value) (nw : List (Addr × Obj)) (F₂ : Fr g L' h₂ m₂) (N₂ : News g L' h₂ nw) (hc) => (Keep.ledT N G' F₂ N₂ hc : Keep [66, 73] s.heap h₂)
  have c1' := c1.keeps st'
  have c2' := c2.keeps st'
  have q1 : @Ne Nat rn 66 := led_ne N (p := (rn, _)) (q := (66, _)) (by k_mem) (by k_mem) (by intro e; cases e)
  have q2 : @Ne Nat rn 73 := led_ne N (p := (rn, _)) (q := (73, _)) (by k_mem) (by k_mem) (by intro e; cases e)
  have q3 : @Ne Nat rm 66 := led_ne N (p := (rm, _)) (q := (66, _)) (by k_mem) (by k_mem) (by intro e; cases e)
  have q4 : @Ne Nat rm 73 := led_ne N (p := (rm, _)) (q := (73, _)) (by k_mem) (by k_mem) (by intro e; cases e)
  have q5 : @Ne Nat rs 66 := led_ne N (p := (rs, _)) (q := (66, _)) (by k_mem) (by k_mem) (by intro e; cases e)
  have q6 : @Ne Nat rs 73 := led_ne N (p := (rs, _)) (q := (73, _)) (by k_mem) (by k_mem) (by intro e; cases e)
  clear B F N X T hf c1 c2 st' t1 t2
  k_lt l1
  dsimp only [Run]
  k_unmd
  k_fold
  have hvm := im.length
  have hvx := ix.length
  have hsl := shortsOf_length ns
  have hm5 := marksOf_length ns
  have hn6 := Gd.len6
  have hm2 := Gd.m2
  obtain ⟨o0, o1⟩ := onesV_bound (ns := ns) (by omega) hn6
  have o2 := Int.lt_of_lt_of_le o1 (pow_le60 (by omega))
  have x2 := Int.le_trans x1 (show (2 : Int) ^ (marksOf ns).length ≤ 2 ^ 60 by have h := pow_le60 (n := 1) (k := (marksOf ns).length) (by omega); rwa [Nat.one_mul] at h)
  obtain ⟨g0, g1⟩ := signsV_bound x0 x1 (by omega) hn6
  unfold signsV at g0 g1
  have hbt := bits_top (marksOf ns).length
  have g2 : Builtin.bitAnd ((fieldsV ns - onesV ns * x).fdiv (2 ^ ((marksOf ns).length : Int).toNat)) (onesV ns) < 2 ^ (Builtin.Int.intBits (2 * 2 ^ ((marksOf ns).length : Int).toNat - 1) * 6) := by rw [hbt]; exact g1
  have b0 : (0 : Int) < 2 * 2 ^ ((marksOf ns).length : Int).toNat - 1 := by
    have := two_pos ((marksOf ns).length : Int).toNat
    omega
  k_with "mine call" => (k_dflt (refine' idmC ?idmC_H ?idmC_t1 ?idmC_t2 ?idmC_ha ?idmC_ha2 ?idmC_hb ?idmC_hN6 ?_; (case idmC_H => walk_at "mine here"); (case idmC_t1 => walk_at "mine tab1"); (case idmC_t2 => walk_at "mine tab2"); (case idmC_ha => walk_at "mine fact"); (case idmC_ha2 => walk_at "mine fact"); (case idmC_hb => walk_at "mine fact"); (case idmC_hN6 => walk_at "mine fact"); k_whole); intro r9 q9 u9 v9 h9 tk9 k9 tb9 f9 g9; walk_at "mine tabsnewT")
  k_with "mine tabsnewT" => ((rename Keep [66, 73] _ _ => kp9); (rename TabsN _ _ _ _ => tb9); (rename Heap.get? _ _ = none => fr9); (rename Heap.get? _ _ = some (tupObj _) => gt9); (try dsimp only at kp9); (try dsimp only at tb9); (try dsimp only at fr9); (have A9 := new_off (by k_asm) fr9); (simp only [AllNe, and_true] at A9); (refine' tabs_elim ?tT_zW ?tT_zF ?tT_zN ?tT_zS kp9 tb9 ?_; (case tT_zF => k_asm); (case tT_zN => k_asm); (case tT_zS => walk_at "mine loc"); (case tT_zW => assumption)); clear kp9 tb9; intro a9 b9 ex9 F9 N9 W9 X9 Z9; (have C9 := code_neT Z9 gt9); (have M9 := tabs_new (by k_asm) N9 fr9 gt9); clear N9 Z9 fr9 gt9; (try simp only [List.cons_append, List.nil_append] at M9); walk_at "mine apart"; (try k_sweep); (try dsimp only); (try k_fold))
  k_steps
  k_with_none
  (try dsimp only)
  (try k_unfold)
  (try dsimp only [Back])
  have eR := less_fields x0 x1 hn6 hm2
  unfold signsV at eR
  rw [← eR] at ret
  (rename News g _ _ _ => nwE)
  refine' ret _ _ _ (hsub _ _ _ (by assumption) nwE ?e1) ?e2
  case e1 => walk_at "mine consts"
  case e2 => exact tabs_endL (tabs_end (by assumption) (by k_asm) nwE (by k_mem) (by k_mem) (by walk_at "mine ex")) G' (by walk_at "mine off")
local macro_rules | `(tactic| walk_at "mine call") => `(tactic| (k_dflt (refine' lessC ?H ?t1 ?t2 ?im ?ix ?Gd ?x0 ?x1 ?_; (case H => walk_at "mine here"); (case t1 => walk_at "mine tab1"); (case t2 => walk_at "mine tab2"); (case im => l_ints); (case ix => l_ints); (case Gd => assumption); (case x0 => walk_at "mine fact"); (case x1 => walk_at "mine fact"); k_whole); intro t9 h9 tk9 k9 tb9; walk_at "mine tabs"))

theorem at_near : True := by
  w_top off
  k_with_none
  trivial
theorem near_of {ns : List Int} {q mv : Int} (R : Rising ns) (h0 : ∀ x ∈ ns, 0 ≤ x) (hq : 0 ≤ q) (hn : q ∉ ns) (hm : mv ∈ ns.map fun k => Builtin.bitXor k q) (hmin : ∀ z ∈ ns.map fun k => Builtin.bitXor k q, mv ≤ z) :
    ∃ c : Nat, (Builtin.Int.intBits mv : Int) - 1 = (c : Int) ∧ Near ns q c := by
  obtain ⟨k₀, hk₀, rfl⟩ := List.mem_map.mp hm
  have hp : 1 ≤ dl k₀ q := by
    refine Nat.one_le_iff_ne_zero.mpr fun e => ?_
    have := (dl_le (h0 k₀ hk₀) hq 0).mp (Nat.le_of_eq e)
    simp at this
    exact hn (this ▸ hk₀)
  refine ⟨dl k₀ q - 1, ?_, R, h0, hq, ⟨k₀, hk₀, by omega⟩, fun k hk => ?_⟩
  · show ((dl k₀ q : Nat) : Int) - 1 = _
    omega
  · have h1 := hmin _ (List.mem_map.mpr ⟨k, hk, rfl⟩)
    have h2 : dl k₀ q ≤ dl k q := bits_mono (xor_nonneg (h0 k₀ hk₀) hq) h1
    omega
/-- the least of the numbers beside has as many places -/
theorem Near.beside_bits {ns : List Int} {q bv : Int} {c : Nat} (N : Near ns q c) {sl : List Int} (hsub : ∀ k ∈ sl, k ∈ ns) (hin : ∃ k ∈ sl, dl k q = c + 1) (hm : bv ∈ sl.map fun k => Builtin.bitXor k q) (hmin : ∀ z ∈ sl.map fun k => Builtin.bitXor k q, bv ≤ z) :
    (Builtin.Int.intBits bv : Int) - 1 = (c : Int) := by
  obtain ⟨k₁, hk₁, rfl⟩ := List.mem_map.mp hm
  obtain ⟨k₂, hk₂, e⟩ := hin
  have h1 := N.all k₁ (hsub _ hk₁)
  have h2 : dl k₁ q ≤ dl k₂ q := bits_mono (xor_nonneg (N.h0 _ (hsub _ hk₁)) N.hq) (hmin _ (List.mem_map.mpr ⟨k₂, hk₂, rfl⟩))
  have h3 : ((dl k₁ q : Nat) : Int) - 1 = (c : Int) := by omega
  exact h3
theorem mul_div_pow (a : Int) {c k : Nat} (h : k ≤ c) : a * 2 ^ c / 2 ^ k = a * 2 ^ (c - k) := by
  have e : (2 : Int) ^ c = 2 ^ (c - k) * 2 ^ k := by rw [← Int.pow_add]; congr 1; omega
  rw [e, ← Int.mul_assoc, Int.mul_ediv_cancel _ (Int.ne_of_gt (two_pos k))]
theorem mul_sub_div_pow (a : Int) {c k : Nat} (h : k ≤ c) : (a * 2 ^ c - 1) / 2 ^ k = a * 2 ^ (c - k) - 1 := by
  have e : (2 : Int) ^ c = 2 ^ (c - k) * 2 ^ k := by rw [← Int.pow_add]; congr 1; omega
  have hp := two_pos k
  rw [e, ← Int.mul_assoc]
  have e2 : a * 2 ^ (c - k) * 2 ^ k - 1 = (2 ^ k - 1) + 2 ^ k * (a * 2 ^ (c - k) - 1) := by
    rw [Int.mul_sub, Int.mul_one, Int.mul_comm (2 ^ k)]
    omega
  rw [e2, Int.add_mul_ediv_left _ _ (Int.ne_of_gt hp), Int.ediv_eq_zero_of_lt (by omega) (by omega), Int.zero_add]
theorem even_mul_pow (a : Int) {j : Nat} (h : 0 < j) : a * 2 ^ j % 2 = 0 := by
  obtain ⟨i, rfl⟩ : ∃ i, j = i + 1 := ⟨j - 1, by omega⟩
  rw [Int.pow_succ, ← Int.mul_assoc]
  exact Int.mul_emod_left _ _
/-- where the number has a 1: the turned number's short -/
theorem Near.fig1 {ns : List Int} {q z : Int} {c : Nat} (N : Near ns q c) (hf : q / 2 ^ c % 2 = 1) (hz : z = q / 2 ^ c * 2 ^ c - 1) : ∀ k ∈ ns, (shortOf (marksOf ns) k ≤ shortOf (marksOf ns) z ↔ k < q) := fun k hk => by
  have zc : z / 2 ^ c = q / 2 ^ c - 1 := by
    rw [hz, mul_sub_div_pow _ (Nat.le_refl c), Nat.sub_self, Int.pow_zero, Int.mul_one]
  have zc1 : z / 2 ^ (c + 1) = q / 2 ^ (c + 1) := by
    rw [half_half, half_half, zc]; omega
  by_cases hd : dl k q = c + 1
  · obtain ⟨i1, i2⟩ := N.inn hk hd
    have kc : k / 2 ^ c = z / 2 ^ c := by
      rw [half_half, half_half] at i1
      omega
    have hlt : k < q := lt_of_div (k := c) (by omega)
    refine ⟨fun _ => hlt, fun _ => short_mono fun m hm => ?_⟩
    have m0 := marksOf_nonneg N.R N.h0 m hm
    by_cases hmc : c ≤ m.toNat
    · rw [div_more kc hmc]
      exact Int.le_refl _
    · have : z / 2 ^ m.toNat % 2 = 1 := by
        rw [hz, mul_sub_div_pow _ (by omega)]
        have := even_mul_pow (q / 2 ^ c) (show 0 < c - m.toNat by omega)
        omega
      omega
  · have ho := N.out_short hk hd zc1
    constructor
    · intro h
      rcases Int.lt_trichotomy k q with t | t | t
      · exact t
      · exact absurd (t ▸ hk) N.not_mem
      · have := ho.2 t; omega
    · intro h
      have := ho.1 h; omega
/-- where the number has a 0: the turned number's short -/
theorem Near.fig0 {ns : List Int} {q z : Int} {c : Nat} (N : Near ns q c) (hf : q / 2 ^ c % 2 = 0) (hz : z = (q / 2 ^ c + 1) * 2 ^ c) : ∀ k ∈ ns, (shortOf (marksOf ns) k < shortOf (marksOf ns) z ↔ k < q) := fun k hk => by
  have zc : z / 2 ^ c = q / 2 ^ c + 1 := by
    rw [hz, mul_div_pow _ (Nat.le_refl c), Nat.sub_self, Int.pow_zero, Int.mul_one]
  have zc1 : z / 2 ^ (c + 1) = q / 2 ^ (c + 1) := by
    rw [half_half, half_half, zc]; omega
  by_cases hd : dl k q = c + 1
  · obtain ⟨i1, i2⟩ := N.inn hk hd
    have kc : z / 2 ^ c = k / 2 ^ c := by
      rw [half_half, half_half] at i1
      omega
    have hlt : q < k := lt_of_div (k := c) (by omega)
    have hle : shortOf (marksOf ns) z ≤ shortOf (marksOf ns) k := short_mono fun m hm => by
      have m0 := marksOf_nonneg N.R N.h0 m hm
      by_cases hmc : c ≤ m.toNat
      · rw [div_more kc hmc]
        exact Int.le_refl _
      · have : z / 2 ^ m.toNat % 2 = 0 := by
          rw [hz, mul_div_pow _ (by omega)]
          exact even_mul_pow _ (by omega)
        omega
    constructor
    · intro h; omega
    · intro h; omega
  · have ho := N.out_short hk hd zc1
    constructor
    · intro h
      rcases Int.lt_trichotomy k q with t | t | t
      · exact t
      · exact absurd (t ▸ hk) N.not_mem
      · have := ho.2 t; omega
    · intro h
      exact ho.1 h
theorem xor_one {x : Int} : Builtin.bitXor x 1 = x + 1 - 2 * (x % 2) := by rw [bitXor_and, bitAnd_m1]
theorem or_one {x : Int} : Builtin.bitOr x 1 = x + 1 - x % 2 := by rw [bitOr_and, bitAnd_m1]
/-- what is asked where the number has a 1 -/
theorem Near.end1 {ns : List Int} {q z : Int} {c : Nat} (N : Near ns q c) (hf : q / 2 ^ c % 2 = 1) (hz : z = q / 2 ^ c * 2 ^ c - 1) :
    cnt (fun y => decide (y ≤ shortOf (marksOf ns) z)) (shortsOf ns) = cnt (fun y => decide (y < q)) ns ∧
    cnt (fun y => decide (y ≤ Builtin.bitXor (q / 2 ^ c) 1)) (ns.map fun k => k.fdiv (2 ^ c)) = cnt (fun y => decide (y < q)) ns ∧
    cnt (fun y => decide (y < shortOf (marksOf ns) z + 1)) (shortsOf ns) = cnt (fun y => decide (y < q)) ns := by
  refine ⟨?_, ?_, ?_⟩
  · unfold shortsOf
    rw [cnt_map]
    exact cnt_congr fun k hk => by simp only [decide_eq_decide]; exact N.fig1 hf hz k hk
  · rw [cnt_map]
    refine cnt_congr fun k hk => ?_
    simp only [decide_eq_decide]
    rw [fdiv_two, xor_one, N.lt_iff hk]
    omega
  · unfold shortsOf
    rw [cnt_map]
    exact cnt_congr fun k hk => by simp only [decide_eq_decide]; rw [← N.fig1 hf hz k hk]; omega
/-- what is asked where the number has a 0 -/
theorem Near.end0 {ns : List Int} {q z : Int} {c : Nat} (N : Near ns q c) (hf : q / 2 ^ c % 2 = 0) (hz : z = Builtin.bitOr (q / 2 ^ c) 1 * 2 ^ c) :
    cnt (fun y => decide (y < shortOf (marksOf ns) z)) (shortsOf ns) = cnt (fun y => decide (y < q)) ns ∧
    cnt (fun y => decide (y < Builtin.bitXor (q / 2 ^ c) 1)) (ns.map fun k => k.fdiv (2 ^ c)) = cnt (fun y => decide (y < q)) ns := by
  have hz' : z = (q / 2 ^ c + 1) * 2 ^ c := by rw [hz, or_one, hf, Int.sub_zero]
  refine ⟨?_, ?_⟩
  · unfold shortsOf
    rw [cnt_map]
    exact cnt_congr fun k hk => by simp only [decide_eq_decide]; exact N.fig0 hf hz' k hk
  · rw [cnt_map]
    refine cnt_congr fun k hk => ?_
    simp only [decide_eq_decide]
    have := N.ne hk
    rw [fdiv_two, xor_one, N.lt_iff hk]
    omega
theorem heads_sorted {ns : List Int} (R : Rising ns) (c : Nat) : (ns.map fun k => k.fdiv (2 ^ c)).Pairwise (· ≤ ·) := by
  rw [List.pairwise_map]
  refine List.Pairwise.imp (fun h => ?_) R
  rw [fdiv_two, fdiv_two]
  exact div_mono c (Int.le_of_lt h)
theorem down_le' {ns : List Int} (h : ns.Pairwise (· ≤ ·)) (x : Int) : Down (fun y => decide (y ≤ x)) ns := fun i j hij hj q => by
  simp only [decide_eq_true_eq] at q ⊢
  rcases Nat.lt_or_eq_of_le hij with z | z
  · have := List.pairwise_iff_getElem.mp h i j (by omega) hj z
    simp only [List.getD_eq_getElem?_getD, List.getElem?_eq_getElem hj, List.getElem?_eq_getElem (show i < ns.length by omega), Option.getD_some] at q ⊢
    omega
  · rw [z]; exact q
theorem down_lt' {ns : List Int} (h : ns.Pairwise (· ≤ ·)) (x : Int) : Down (fun y => decide (y < x)) ns := fun i j hij hj q => by
  simp only [decide_eq_true_eq] at q ⊢
  rcases Nat.lt_or_eq_of_le hij with z | z
  · have := List.pairwise_iff_getElem.mp h i j (by omega) hj z
    simp only [List.getD_eq_getElem?_getD, List.getElem?_eq_getElem hj, List.getElem?_eq_getElem (show i < ns.length by omega), Option.getD_some] at q ⊢
    omega
  · rw [z]; exact q
theorem cnt_at {ns : List Int} (R : Rising ns) {i : Nat} (hi : i < ns.length) : cnt (fun y => decide (y < ns.getD i 0)) ns = (i : Int) := by
  have D := down_lt R (ns.getD i 0)
  have h1 := cnt_of_down D hi
  simp only [decide_eq_true_eq] at h1
  have c0 := cnt_lo (fun y => decide (y < ns.getD i 0)) ns
  have c1 := cnt_hi (fun y => decide (y < ns.getD i 0)) ns
  by_cases z : cnt (fun y => decide (y < ns.getD i 0)) ns < (i : Int)
  · have hj : (cnt (fun y => decide (y < ns.getD i 0)) ns).toNat < ns.length := by omega
    have h2 := cnt_of_down D hj
    have h3 := getD_lt R (show (cnt (fun y => decide (y < ns.getD i 0)) ns).toNat < i by omega) hi
    simp only [decide_eq_true_eq] at h2
    have := h2.mpr h3
    omega
  · have : ¬ (i : Int) < cnt (fun y => decide (y < ns.getD i 0)) ns := fun q => by have := h1.mp q; omega
    omega
/-- a key stands at its place -/
theorem get_at {ns : List Int} (R : Rising ns) {q : Int} (hq : q ∈ ns) : ns.getD (cnt (fun y => decide (y < q)) ns).toNat 0 = q ∧ cnt (fun y => decide (y < q)) ns < (ns.length : Int) := by
  obtain ⟨i, hi, rfl⟩ := List.getElem_of_mem hq
  have e : ns.getD i 0 = ns[i] := by simp [List.getD_eq_getElem?_getD, hi]
  have h := cnt_at R hi
  rw [e] at h
  rw [h, Int.toNat_natCast, e]
  exact ⟨rfl, by omega⟩
theorem cnt_le_succ {ns : List Int} (R : Rising ns) {q : Int} (hq : q ∈ ns) : cnt (fun y => decide (y ≤ q)) ns = cnt (fun y => decide (y < q)) ns + 1 := by
  induction ns with
  | nil => exact nomatch hq
  | cons n r ih =>
    have Rr := (List.pairwise_cons.mp R).2
    have hr := (List.pairwise_cons.mp R).1
    rcases List.mem_cons.mp hq with rfl | hq
    · have e : cnt (fun y => decide (y < q)) r = cnt (fun y => decide (y ≤ q)) r := cnt_eq_iff.mpr fun h => by have := hr q h; omega
      unfold cnt at e ⊢
      rw [List.countP_cons, List.countP_cons]
      simp
      omega
    · have := ih Rr hq
      have hl := hr q hq
      unfold cnt at this ⊢
      rw [List.countP_cons, List.countP_cons]
      simp [hl, Int.le_of_lt hl]
      omega
theorem filter_len (p : Int → Bool) (ns : List Int) : (((ns.filter p).length : Nat) : Int) = cnt p ns := by
  unfold cnt
  rw [List.countP_eq_length_filter]

theorem at_slice : True := by
  w_top off
  k_with_none
  trivial
section
variable {prog : Program} {w : World} {A : Around} {E : Value → Shared → Prop} {s : Shared} {h₀ : Heap} {L : Addr} {m : Str → Option Value} {news : List (Addr × Obj)} {a b c d : Value} {t sl : Addr} {u : Tok} {Q : Value → Shared → Prop}
/-- what [:2] asks of a row of four -/
theorem ask_two {Q : Int × Int × Nat → Shared → Prop} (hs : s.heap.IsSliceOf sl .none (.int 2 u) .none) (h : Q (0, 1, 2) s) : wpAny (model prog w) A (Builtin.Slice.sliceApplied (.ref sl) (pure 4)) Q E s := by
  have ⟨_, ho, _, hd⟩ := hs
  have get : ∀ {k : Nat} {v : Value} {P : Value → Shared → Prop}, (#[Value.none, .int 2 u, .none] : Array Value)[k]? = some v → P v s → wpAny (model prog w) A (field (.ref sl) k) P E s := fun e p => wpAny_field ho hd e p
  have fields : ∀ {P : Value × Value × Value → Shared → Prop}, P (.none, .int 2 u, .none) s → wpAny (model prog w) A (Builtin.Slice.sliceFields (.ref sl)) P E s := fun p =>
    wpAny_bind (get (k := 0) rfl (wpAny_bind (get (k := 1) rfl (wpAny_bind (get (k := 2) rfl (wpAny_pure p))))))
  refine wpAny_bind (fields (wpAny_bind (slicePart_none ?_)))
  rw [if_neg (by decide)]
  exact wpAny_bind (slicePart_none (wpAny_bind (slicePart_int (wpAny_bind (wpAny_pure (wpAny_pure h))))))
/-- the first two of a row of four -/
theorem take_two (ht : IsTup s.heap t #[a, b, c, d]) (hs : s.heap.IsSliceOf sl .none (.int 2 u) .none) (h : Q (.ref s.heap.objs.size) { s with heap := s.heap.push { cls := .type "tuple", data := .seq #[a, b] } }) :
    wpAny (model prog w) A (getItem (.ref t) (.ref sl)) Q E s := by
  have isSlice : s.TypeIs (.ref sl) "slice" := hs.imp fun _ x => ⟨x.1, x.2.1⟩
  refine wpAny_holding (wpAny_bind (wpAny_sequenceKey ht.typeIs (by decide) (wpAny_bind (wpAny_callSpecial?_slot (name := Str.ofString "__getitem__") ht.typeIs PySem.F.slot_tuple_getitem ?_))))
  refine wpAny_call_entry PySem.F.slot_tuple_getitem ht.typeIs PySem.F.entry_tuple_getitem ?_ (PySem.F.args_tuple_getitem_2 _ _)
  refine wpAny_bind (m := Builtin.Tuple.tupleItemsOf (.ref t)) (tupleItemsOf_ ht (wpAny_bind (wpAny_typeOf isSlice ?_)))
  rw [if_pos (by decide)]
  exact wpAny_bind (ask_two hs (wpAny_bind (m := Builtin.Tuple.tupleExact #[a, b]) (wpAny_newObj_type (wpAny_pure ⟨_, rfl, wpAny_pure h⟩) (by size_fits))))
theorem first_two {value slice : Expr} (F : Fr h₀ L s.heap m) (N : News h₀ L s.heap news) (hm : (t, tupObj [a, b, c, d]) ∈ news)
    (h : ∀ D h', Fr h₀ L h' m → News h₀ L h' ((D, tupObj [a, b]) :: news) → (∀ p ∈ news, p.1 < D) → Q (.ref D) { s with heap := h' })
    (hs : subscripted slice false (.ref t) (.ref s.heap.objs.size) = operate [.ref s.heap.objs.size, .ref t] (getItem (.ref t) (.ref s.heap.objs.size)))
    (hg : ∀ r, letTemporaryGo value (.ref t) r = pure ()) :
    wpAny (model prog w) A (subscriptTail value slice (.ref t) (.ref s.heap.objs.size)) Q E { s with heap := s.heap.push { cls := .type "slice", data := .fields #[.none, .int 2 u, .none] } } := by
  generalize hp : s.heap.push { cls := .type "slice", data := .fields #[.none, .int 2 u, .none] } = g
  have up : ∀ b o, s.heap.get? b = some o → g.get? b = some o := fun b o e => hp ▸ Heap.get?_push_of_some _ e
  have F₁ : Fr h₀ L g m := F.keeps up
  have N₁ : News h₀ L g news := N.grown up
  have ht : IsTup g t #[a, b, c, d] := ⟨_, (N₁ _ hm).1, rfl, _, rfl⟩
  refine subscriptTail_ops (s := { s with heap := g }) ht.typeIs PySem.F.slot_tuple_getitem.lookup (take_two (u := u) ht (hp ▸ Heap.IsSliceOf.new ..) ?_) hs hg
  exact h _ _ (F₁.push _) (N₁.push F₁ _) fun p hp' => Heap.lt_size (N₁ p hp').1
end
local macro_rules | `(tactic| walk_at "subscriptTail Name Slice ref ref") => `(tactic| (k_here; (with_reducible show wpAny _ _ (subscriptTail _ (PySem.Expr.Slice none (some _) none _) (Value.ref _) (Value.ref _)) _ _ _); k_dflt (refine' first_two ?F ?N ?m ?_ ?s ?t; (case F => k_asm); (case N => k_asm); (case m => k_mem); (case s => with_unfolding_all rfl); (case t => kmk_pure)); intro D' h' F' N' l1; (try k_lt l1); (try k_sweep)))
section
variable {prog : Program} {w : World} {A : Around} {h₀ : Heap} {L : Addr} {m : Str → Option Value} {env : Env} {ct elt : Expr} {x : Str} {scope : Scope} {cl : List (Str × Addr)} {s : Shared} {S : List (Addr × Obj) → Prop} {Fin : List Value → List (Addr × Obj) → Prop}
theorem fold_filter (p : Int → Bool) : ∀ (ns l : List Int), ns.foldl (fun l k => if p k = true then l ++ [k] else l) l = l ++ ns.filter p
  | [], l => (List.append_nil l).symm
  | k :: r, l => by
    rw [List.foldl_cons, fold_filter p r]
    cases e : p k <;> simp [e]
/-- a comprehension over a list of ints that keeps the items of one kind -/
theorem comp_filter {vs : List Value} {ns : List Int} {news : List (Addr × Obj)} (p : Int → Bool) (hi : IntsAre vs ns)
    (turn : ∀ k t I oI C oC D m₂ ys h tk (E' : Value → Shared → Prop), k ∈ ns → LCg.NsObj oC m₂ → m₂ x = some (.int k t) → Fr h₀ L h m → News h₀ L h ((I, oI) :: (C, oC) :: (D, LCg.lst ys) :: news) →
      LCg.Off3 I C D news → ((@Ne Nat I C) ∧ (@Ne Nat I D) ∧ (@Ne Nat C D)) →
      wpAny (model prog w) A (isTrue ct (compEnvC scope cl C env) (eval ct (compEnvC scope cl C env))) (fun b s' => if b = true then
        wpAny (model prog w) A (eval elt (compEnvC scope cl C env)) (LCg.CompEnd h₀ L m { s with heap := h, toks := tk } I oI C oC D (LCg.lst ys) S (fun y news' => news' = news ∧ p k = true ∧ ∃ t', y = .int k t')) E' s'
        else LCg.CompEnd h₀ L m { s with heap := h, toks := tk } I oI C oC D (LCg.lst ys) S (fun _ news' => news' = news ∧ p k = false) Value.none s') E' { s with heap := h, toks := tk })
    (fin : ∀ ys, IntsAre ys (ns.filter p) → Fin ys news) : LCt.CompRestT prog w A h₀ L m env ct elt x scope cl s S (fun i v => vs.toArray[i]? = some v) Fin vs.toArray.size 0 [] news := by
  refine kci_list (fun l k => if p k = true then l ++ [k] else l) hi (fun k t I oI C oC D m₂ ys l h tk E' hk _ hC hx F N off ne _ => ?_) (fun ys iy _ => fin ys (by rwa [fold_filter, List.nil_append] at iy)) (fun l k => by dsimp only; split <;> simp)
  refine wpAny_mono (turn k t I oI C oC D m₂ ys h tk E' hk hC hx F N off ne) (fun b s' => ?_) fun _ _ e => e
  cases b with
  | false => exact fun ⟨h', tk', nw, e, F', N', o, hS, hn, hp⟩ => ⟨h', tk', nw, e, F', N', o, hS, hn, if_neg (by rw [hp]; decide)⟩
  | true => exact fun q => wpAny_mono q (fun _ _ ⟨h', tk', nw, e, F', N', o, hS, hn, hp, t', hy⟩ => ⟨h', tk', nw, e, F', N', o, hS, hn, k, t', hy, if_pos hp⟩) fun _ _ e => e
end
local macro_rules | `(tactic| walk_at "CompSrcT") => `(tactic| (k_here; k_extra "srcT"))
set_option maxHeartbeats 1000000 in
theorem getC {w : World} {A : Around} {s : Shared} {Q E : Value → Shared → Prop} {l : Addr} {vs : List Value} {ns : List Int} {n : Nat} {b : Int} {tb : Tok}
    (H : Here w A 2 20 s [(l, listOf vs.toArray n)]) (hi : IntsAre vs ns) (b0 : 0 ≤ b) (b1 : b < (ns.length : Int)) (hs : ns.length < 1000)
    (ret : ∀ t h' tk', Keep [] s.heap h' → Q (.int (ns.getD b.toNat 0) t) { s with heap := h', toks := tk' }) :
    wpAny (model PySem.Challenge.rw_wf0065_01.row.prog w) A (call (.ref 162) [.ref l, .int b tb]) Q E s := by
  obtain ⟨dp, un, gd, env, outer, A₀, base, h₀, L, m, mg, mb, p, loose, mean, rfl, B, F, N, X, T, hf, hke, hdp, hun, c1, c2⟩ := H
  revert X; k_fill; intro X
  refine wpAny_call ?_
  k_dflt (refine' enterH (binds := [(Str.ofString "a", .ref l), (Str.ofString "b", .int b tb)]) ⟨B, F, X, N, T, rfl, hf, hke⟩ (by walk_at "mine def") (by walk_at "mine def") (by walk_at "mine binds") (by walk_at "mine takes") (by walk_at "mine locals") (by decide) ?_; k_whole)
  rintro g L' h' ⟨F', N', B', X', T', G', l1, st'⟩
  have hkeep := fun (h₂ : Heap) (m₂ : Str → Option Value) (F₂ : Fr g L' h₂ m₂) (N₂ : News g L' h₂ _) => Keep.led N G' F₂ N₂
  have hvl := hi.length
  clear B F N X T hf c1 c2 st'
  k_lt l1
  dsimp only [Run]
  k_unmd
  k_fold
  k_steps
  (try dsimp only)
  (try k_unfold)
  (try dsimp only [Back])
  exact ret _ _ _ (hkeep _ _ (by assumption) (by assumption))
local macro_rules | `(tactic| walk_at "mine call") => `(tactic| (k_dflt (refine' getC ?H ?hi ?b0 ?b1 ?hs ?_; (case H => walk_at "mine here"); (case hi => l_ints); (case b0 => walk_at "mine fact"); (case b1 => walk_at "mine fact"); (case hs => walk_at "mine fact"); k_whole); intro t9 h9 tk9 k9; walk_at "mine back"))
local macro_rules | `(tactic| walk_at "call builtin:min") => `(tactic| (k_here; k_extra "min"))
local macro_rules | `(tactic| walk_at "mine down") => `(tactic| first | exact down_le' (heads_sorted (by assumption) _) _ | exact down_lt' (heads_sorted (by assumption) _) _)
theorem ints_small {vs : List Value} {ns : List Int} (hi : IntsAre vs ns) (h : ns.length ≤ 1000) : vs.toArray.size ≤ sizeLine := by
  rw [PySem.sizeLine_eq, List.size_toArray, hi.length]
  omega
theorem slice_beside' {ns : List Int} {q P x : Int} {c : Nat} (h : ∃ i : Nat, i < ns.length ∧ P - 1 ≤ (i : Int) ∧ (i : Int) < P + 1 ∧ dl (ns.getD i 0) q = c + 1) (hx0 : 0 ≤ x) (hx : x ≤ P - 1 ∨ x ≤ 0) :
    ∃ k ∈ (ns.drop x.toNat).take (min (P + 1).toNat ns.length - x.toNat), dl k q = c + 1 := by
  obtain ⟨i, hi, h1, h2, e⟩ := h
  have g : ns.getD i 0 = ns[i] := by simp [List.getD_eq_getElem?_getD, hi]
  rw [g] at e
  refine ⟨_, ?_, e⟩
  refine List.mem_take_iff_getElem.mpr ⟨i - x.toNat, ?_, ?_⟩
  · rw [List.length_drop]
    omega
  · rw [List.getElem_drop]
    congr 1
    omega
theorem Near.top {ns : List Int} {q : Int} {c : Nat} (N : Near ns q c) (ht : ∀ x ∈ ns, x < 2 ^ 43) (hq : q < 2 ^ 43) : c < 43 := by
  obtain ⟨k, hk, e⟩ := N.some
  have h0 := N.h0 k hk
  have : dl k q ≤ 43 := by
    rw [dl_le h0 N.hq, Int.ediv_eq_zero_of_lt h0 (ht k hk), Int.ediv_eq_zero_of_lt N.hq hq]
  omega
theorem fig_lo (ks : List Int) (z h : Int) : 0 ≤ shortOf ks z + Builtin.bitAnd h 1 := by
  have := (shortOf_bound ks z).1
  rw [bitAnd_m1]
  omega
theorem fig_hi (ks : List Int) (z h : Int) : shortOf ks z + Builtin.bitAnd h 1 ≤ 2 ^ ks.length := by
  have := (shortOf_bound ks z).2
  rw [bitAnd_m1]
  omega
/-- what the walk wants to know of the mark -/
theorem mark_facts {ns : List Int} {q mv : Int} (Gd : Good ns) (q0 : 0 ≤ q) (q43 : q < 2 ^ 43) (hn : q ∉ ns) (hm : mv ∈ ns.map fun k => Builtin.bitXor k q) (hmin : ∀ z ∈ ns.map fun k => Builtin.bitXor k q, mv ≤ z) :
    ∃ c : Nat, (Builtin.Int.intBits mv : Int) - 1 = (c : Int) ∧ Near ns q c ∧ c < 43 ∧ 0 ≤ q.fdiv (2 ^ ((Builtin.Int.intBits mv : Int) - 1).toNat) ∧ q.fdiv (2 ^ ((Builtin.Int.intBits mv : Int) - 1).toNat) < 2 ^ 43 ∧
      0 ≤ Builtin.bitOr (q.fdiv (2 ^ ((Builtin.Int.intBits mv : Int) - 1).toNat)) 1 ∧ Builtin.bitOr (q.fdiv (2 ^ ((Builtin.Int.intBits mv : Int) - 1).toNat)) 1 ≤ 2 ^ 43 := by
  obtain ⟨c, e, N⟩ := near_of Gd.R Gd.h0 q0 hn hm hmin
  have hp := two_pos ((Builtin.Int.intBits mv : Int) - 1).toNat
  have h1 : 0 ≤ q.fdiv (2 ^ ((Builtin.Int.intBits mv : Int) - 1).toNat) := by rw [fdiv_two]; exact Int.ediv_nonneg q0 (Int.le_of_lt hp)
  have h2 : q.fdiv (2 ^ ((Builtin.Int.intBits mv : Int) - 1).toNat) ≤ q := by rw [fdiv_two]; exact Int.ediv_le_self _ q0
  refine ⟨c, e, N, N.top Gd.top q43, h1, by omega, ?_, ?_⟩
  · rw [or_one]; omega
  · rw [or_one]; omega
theorem slice_pos {ns : List Int} {P : Int} {f : Int → Int} (p0 : 0 ≤ P) (p1 : P ≤ (ns.length : Int)) (h3 : 3 ≤ ns.length) :
    0 < (List.map f (List.take (min (P + 1).toNat ns.length - (if 0 > P - 1 then 0 else P - 1).toNat) (List.drop (if 0 > P - 1 then 0 else P - 1).toNat ns))).length := by
  rw [List.length_map, List.length_take, List.length_drop]
  split <;> omega
theorem slice_sub {ns : List Int} {a b : Nat} : ∀ k ∈ List.take b (List.drop a ns), k ∈ ns := fun _ hk => List.mem_of_mem_drop (List.mem_of_mem_take hk)
theorem news_tail {h₀ h : Heap} {L : Addr} {p : Addr × Obj} {l : List (Addr × Obj)} (N : News h₀ L h (p :: l)) : News h₀ L h l := fun q hq => N q (.tail _ hq)
theorem fig_is {q mk : Int} {c : Nat} (e : mk = (c : Int)) : Builtin.bitAnd (q.fdiv (2 ^ mk.toNat)) 1 = q / 2 ^ c % 2 := by
  subst e
  rw [Int.toNat_natCast, fdiv_two, bitAnd_m1]
theorem codeW_small {h₀ : Heap} {ex : List (Addr × Obj)} {q : Str} {a : Option Addr} (W : CodeW h₀ ex q a) : ∃ ex', (∀ p ∈ ex', p ∈ ex) ∧ CodeW h₀ ex' q a ∧ ∀ p ∈ ex', ∃ vs, p.2.data = .fields vs := by
  cases a with
  | none => exact ⟨[], fun _ h => (nomatch h), trivial, fun _ h => (nomatch h)⟩
  | some c =>
    rcases W with r | ⟨oc, vs, t, hm, hd, hv⟩
    · exact ⟨[], fun _ h => (nomatch h), .inl r, fun _ h => (nomatch h)⟩
    · exact ⟨[(c, oc)], fun p hp => by rw [List.mem_singleton.mp hp]; exact hm, .inr ⟨oc, vs, t, .head _, hd, hv⟩, fun p hp => by rw [List.mem_singleton.mp hp]; exact ⟨vs, hd⟩⟩
/-- of the code objects made only those that the tables name are kept -/
theorem tabP_small {H h₀ : Heap} {a₀ b₀ a b : Option Addr} {ex : List (Addr × Obj)} (W : TabP H h₀ a₀ b₀ a b ex) : ∃ ex', (∀ p ∈ ex', p ∈ ex) ∧ TabP H h₀ a₀ b₀ a b ex' ∧ ∀ p ∈ ex', ∃ vs, p.2.data = .fields vs := by
  obtain ⟨x1, s1, w1, d1⟩ := codeW_small W.w1
  obtain ⟨x2, s2, w2, d2⟩ := codeW_small W.w2
  exact ⟨x1 ++ x2, fun p hp => (List.mem_append.mp hp).elim (s1 p) (s2 p), ⟨w1.more fun p hp => List.mem_append_left _ hp, w2.more fun p hp => List.mem_append_right _ hp, W.g1, W.g2, W.G⟩, fun p hp => (List.mem_append.mp hp).elim (d1 p) (d2 p)⟩
theorem news_swap8 {h₀ h : Heap} {L : Addr} {p1 p2 p3 p4 p5 p6 p7 p8 : Addr × Obj} {ex ex' : List (Addr × Obj)} (N : News h₀ L h (p1 :: p2 :: p3 :: p4 :: p5 :: p6 :: p7 :: p8 :: ex)) (s : ∀ p ∈ ex', p ∈ ex) : News h₀ L h (p1 :: p2 :: p3 :: p4 :: p5 :: p6 :: p7 :: p8 :: ex') := fun q hq => N q (by
  simp only [List.mem_cons] at hq ⊢
  rcases hq with h | h | h | h | h | h | h | h | h
  · exact .inl h
  · exact .inr (.inl h)
  · exact .inr (.inr (.inl h))
  · exact .inr (.inr (.inr (.inl h)))
  · exact .inr (.inr (.inr (.inr (.inl h))))
  · exact .inr (.inr (.inr (.inr (.inr (.inl h)))))
  · exact .inr (.inr (.inr (.inr (.inr (.inr (.inl h))))))
  · exact .inr (.inr (.inr (.inr (.inr (.inr (.inr (.inl h)))))))
  · exact .inr (.inr (.inr (.inr (.inr (.inr (.inr (.inr (s _ h)))))))))
theorem ex_ne {h₀ h : Heap} {L c : Addr} {o : Obj} {v : Option Value} {all ex : List (Addr × Obj)} (N : News h₀ L h all) (hm : (c, o) ∈ all) (hs : ∀ p ∈ ex, p ∈ all) (hd : ∀ p ∈ ex, ∃ vs, p.2.data = .fields vs) (hc : o.data = .cell v) : ∀ p ∈ ex, p.1 ≠ c := fun p hp e => by
  have h1 := (N p (hs p hp)).1
  rw [e, (N _ hm).1] at h1
  obtain ⟨vs, h2⟩ := hd p hp
  rw [← Option.some.inj h1, hc] at h2
  cases h2
theorem Near.fin0 {ns : List Int} {q mk : Int} {c : Nat} (N : Near ns q c) (e : mk = (c : Int)) (hf : q / 2 ^ c % 2 = 0) :
    decide ([cnt (fun y => decide (y < shortOf (marksOf ns) (Builtin.bitOr (q.fdiv (2 ^ mk.toNat)) 1 * 2 ^ mk.toNat))) (shortsOf ns), cnt (fun y => decide (y < Builtin.bitXor (q.fdiv (2 ^ mk.toNat)) 1)) (List.map (fun k' => k'.fdiv (2 ^ mk.toNat)) ns)] =
      [(((List.filter (fun y => decide (y < q)) ns).length : Nat) : Int), (((List.filter (fun y => decide (y < q)) ns).length : Nat) : Int)]) = true ∧
    (cnt (fun y => decide (y < shortOf (marksOf ns) (Builtin.bitOr (q.fdiv (2 ^ mk.toNat)) 1 * 2 ^ mk.toNat) + Builtin.bitAnd (q.fdiv (2 ^ mk.toNat)) 1)) (shortsOf ns) == (((List.filter (fun y => decide (y < q)) ns).length : Nat) : Int)) = true := by
  have h0 := fig_is (q := q) e
  subst e
  rw [Int.toNat_natCast] at h0 ⊢
  rw [h0, hf, filter_len, fdiv_two, Int.add_zero]
  obtain ⟨h1, h2⟩ := N.end0 hf rfl
  rw [h1, h2]
  simp
theorem Near.fin1 {ns : List Int} {q mk : Int} {c : Nat} (N : Near ns q c) (e : mk = (c : Int)) (hf : q / 2 ^ c % 2 = 1) :
    decide ([cnt (fun y => decide (y ≤ shortOf (marksOf ns) (q.fdiv (2 ^ mk.toNat) * 2 ^ mk.toNat - 1))) (shortsOf ns), cnt (fun y => decide (y ≤ Builtin.bitXor (q.fdiv (2 ^ mk.toNat)) 1)) (List.map (fun k' => k'.fdiv (2 ^ mk.toNat)) ns)] =
      [(((List.filter (fun y => decide (y < q)) ns).length : Nat) : Int), (((List.filter (fun y => decide (y < q)) ns).length : Nat) : Int)]) = true ∧
    (cnt (fun y => decide (y < shortOf (marksOf ns) (q.fdiv (2 ^ mk.toNat) * 2 ^ mk.toNat - 1) + Builtin.bitAnd (q.fdiv (2 ^ mk.toNat)) 1)) (shortsOf ns) == (((List.filter (fun y => decide (y < q)) ns).length : Nat) : Int)) = true := by
  have h0 := fig_is (q := q) e
  subst e
  rw [Int.toNat_natCast] at h0 ⊢
  rw [h0, hf, filter_len, fdiv_two]
  obtain ⟨h1, h2, h3⟩ := N.end1 hf rfl
  rw [h1, h2, h3]
  simp
local macro_rules | `(tactic| walk_at "mine least") => `(tactic| exact slice_pos (by assumption) (by assumption) (by assumption))
local macro_rules | `(tactic| walk_at "mine some") => `(tactic| kso_len)

theorem at_founda : True := by
  w_top off
  k_with_none
  trivial
set_option maxHeartbeats 8000000 in
theorem foundC1 {w : World} {A : Around} {s : Shared} {Q E : Value → Shared → Prop} {ns : List Int} {q : Int} {tq tf to : Tok} {ta tb : Option Addr} {rn rm rs rr : Addr} {vm vx vr : List Value} {nm nx nr : Nat}
    (H : Here w A 110 1100 s [(rn, tupObj [.ref rm, .ref rs, .int (fieldsV ns) tf, .int (onesV ns) to]), (rm, listOf vm.toArray nm), (rs, listOf vx.toArray nx), (rr, listOf vr.toArray nr), (66, tabObj (tabOf 85 4 ta)), (73, tabObj (tabOf 100 4 tb))]) (t1 : CodeAt s.heap qI ta) (t2 : CodeAt s.heap qD tb)
    (im : IntsAre vm (marksOf ns)) (ix : IntsAre vx (shortsOf ns)) (ir : IntsAre vr ns) (Gd : Good ns) (q0 : 0 ≤ q) (q43 : q < 2 ^ 43) (hq : q ∈ ns)
    (ret : ∀ h' tk', Keep [66, 73] s.heap h' → TabsN s.heap ta tb h' → Q (.bool true) { s with heap := h', toks := tk' }) :
    wpAny (model PySem.Challenge.rw_wf0065_01.row.prog w) A (call (.ref 198) [.ref rr, .ref rn, .int q tq]) Q E s := by
  obtain ⟨dp, un, gd, env, outer, A₀, base, h₀, L, m, mg, mb, p, loose, mean, rfl, B, F, N, X, T, hf, hke, hdp, hun, c1, c2⟩ := H
  revert X; k_fill; intro X
  refine wpAny_call ?_
  k_dflt (refine' enterC (binds := [(Str.ofString "row", .ref rr), (Str.ofString "node", .ref rn), (Str.ofString "asked", .int q tq)]) ⟨B, F, X, N, T, rfl, hf, hke⟩ (by walk_at "mine def") (by walk_at "mine def") rfl (by walk_at "mine takes") rfl (by decide +kernel) ?_; k_whole)
  rintro g L' h' tk cells Y' ⟨F', N', B', X', T', G', l1, st'⟩
  have W' : TabP g g ta tb ta tb [] := tabP_startL t1 t2 G' (by walk_at "mine off")
  have hsub := fun (h₂ : Heap) (m₂ : Str → Option Value) (nw : List (Addr × Obj)) (F₂ : Fr g L' h₂ m₂) (N₂ : News g L' h₂ nw) (hc) => (Keep.ledT N G' F₂ N₂ hc : Keep [66, 73] s.heap h₂)
  have c1' := c1.keeps st'
  have c2' := c2.keeps st'
  have q1 : @Ne Nat rn 66 := led_ne N (p := (rn, _)) (q := (66, _)) (by k_mem) (by k_mem) (by intro e; cases e)
  have q2 : @Ne Nat rn 73 := led_ne N (p := (rn, _)) (q := (73, _)) (by k_mem) (by k_mem) (by intro e; cases e)
  have q3 : @Ne Nat rm 66 := led_ne N (p := (rm, _)) (q := (66, _)) (by k_mem) (by k_mem) (by intro e; cases e)
  have q4 : @Ne Nat rm 73 := led_ne N (p := (rm, _)) (q := (73, _)) (by k_mem) (by k_mem) (by intro e; cases e)
  have q5 : @Ne Nat rs 66 := led_ne N (p := (rs, _)) (q := (66, _)) (by k_mem) (by k_mem) (by intro e; cases e)
  have q6 : @Ne Nat rs 73 := led_ne N (p := (rs, _)) (q := (73, _)) (by k_mem) (by k_mem) (by intro e; cases e)
  have q7 : @Ne Nat rr 66 := led_ne N (p := (rr, _)) (q := (66, _)) (by k_mem) (by k_mem) (by intro e; cases e)
  have q8 : @Ne Nat rr 73 := led_ne N (p := (rr, _)) (q := (73, _)) (by k_mem) (by k_mem) (by intro e; cases e)
  clear B F N X T hf c1 c2 st' t1 t2
  k_lt l1
  k_cells Y'
  (try simp only [List.cons_append, List.nil_append] at N')
  dsimp only [Run]
  k_unmd
  k_fold
  have hvm := im.length
  have hvx := ix.length
  have hvr := ir.length
  have hsl := shortsOf_length ns
  have hn6 := Gd.len6
  have hm5 : (marksOf ns).length ≤ 5 := Nat.le_trans (marksOf_length ns) (Nat.sub_le_sub_right hn6 1)
  have hn3 := Gd.len3
  have hm2 := Gd.m2
  have hm0 := marksOf_nonneg Gd.R Gd.h0
  have hRs := shorts_rising Gd.R Gd.h0
  have hR := Gd.R
  obtain ⟨s0, s1⟩ := shortOf_bound (marksOf ns) q
  have hMk := kstMark
  have p0 := cnt_lo (fun y => decide (y < shortOf (marksOf ns) q)) (shortsOf ns)
  have p1 := cnt_hi (fun y => decide (y < shortOf (marksOf ns) q)) (shortsOf ns)
  rw [hsl] at p1
  have hF := filter_len (fun y => decide (y < q)) ns
  have hbl : (cnt (fun y => decide (y < shortOf (marksOf ns) q)) (shortsOf ns) != cnt (fun y => decide (y < shortOf (marksOf ns) q)) (shortsOf ns)) = false := by simp
  have hfb : (cnt (fun y => decide (y < q)) ns != (((List.filter (fun y => decide (y < q)) ns).length : Nat) : Int)) = false := by rw [hF]; simp
  have hany : (ns.any fun x => x == q) = true := List.any_eq_true.mpr ⟨q, hq, by simp⟩
  have hpk := place_key Gd.R Gd.h0 hq
  obtain ⟨hg1, hg2⟩ := get_at hR hq
  have hsucc := cnt_le_succ hR hq
  have hpb : (cnt (fun y => decide (y < shortOf (marksOf ns) q)) (shortsOf ns) == (((List.filter (fun y => decide (y < q)) ns).length : Nat) : Int)) = true := by rw [hF, hpk]; simp
  have hgb : (ns.getD (cnt (fun y => decide (y < shortOf (marksOf ns) q)) (shortsOf ns)).toNat 0 == q) = true := by rw [hpk, hg1]; simp
  k_with "mine fact" => first | exact hm0 | exact fig_lo _ _ _ | exact fig_hi _ _ _
  k_with "cend" => (k_dflt (first | exact LCg.CompEnd.intro (by k_asm) (by k_asm) _ (fun p hp => hp) zoff (by lcg_src) ⟨rfl, _, rfl⟩ | exact LCg.CompEnd.intro (by k_asm) (by k_asm) _ (fun p hp => hp) zoff (by lcg_src) ⟨rfl, decide_eq_true (by assumption), _, rfl⟩ | exact LCg.CompEnd.intro (by k_asm) (by k_asm) _ (fun p hp => hp) zoff (by lcg_src) ⟨rfl, decide_eq_false (by assumption)⟩))
  k_with "srcT" => (k_dflt ((refine' LCt.CompSrcT.ledger rfl (by k_asm) (by k_asm) (by k_mem) ?zsz ?zR; (case zsz => (rw [PySem.sizeLine_eq]; simp only [List.size_toArray]; omega)); (case' zR => (intro g'; refine' comp_filter (fun y => decide (y < q)) ir ?zturn ?zfin; (case' zturn => (intro zk zt zI zoI zC zoC zD zm zys zh ztk zE zmem zNs zx zF zN zoff zne; have zoff2 := zoff; (simp only [LCg.Off3, and_true] at zoff2))); (case' zfin => (intro zys zi; have zl := zi.length; have zf := List.length_filter_le (fun y => decide (y < q)) ns; have zf2 := filter_len (fun y => decide (y < q)) ns)); (all_goals (try k_fold)))))))
  k_with "min" => first | (k_dflt (refine' kso_min (by k_asm) (by k_asm) (by kso_list) (by l_ints) (by walk_at "mine least") (by with_unfolding_all rfl) ?_; k_whole; intro zh0 zM0 zt0 zk0 zF0 zN0 za0 zb0; (try k_sweep))) | (k_dflt (refine Stop.of ?_))
  have hz2 : (cnt (fun y => decide (y ≤ q)) ns == (((List.filter (fun y => decide (y < q)) ns).length : Nat) : Int) + 1) = true := by rw [hF, hsucc]; simp
  k_steps
  k_with_none
  (try dsimp only)
  (try k_unfold)
  (try dsimp only [Back])
  rw [hz2]
  (rename News g _ _ _ => nwE)
  refine' ret _ _ (hsub _ _ _ (by assumption) nwE ?e1) ?e2
  case e1 => walk_at "mine consts"
  case e2 => exact tabs_endL (tabs_end (by assumption) (by k_asm) nwE (by k_mem) (by k_mem) (by walk_at "mine ex")) G' (by walk_at "mine off")

theorem at_foundb : True := by
  w_top off
  k_with_none
  trivial
set_option maxHeartbeats 8000000 in
theorem foundC2 {w : World} {A : Around} {s : Shared} {Q E : Value → Shared → Prop} {ns : List Int} {q : Int} {tq tf to : Tok} {ta tb : Option Addr} {rn rm rs rr : Addr} {vm vx vr : List Value} {nm nx nr : Nat}
    (H : Here w A 110 1100 s [(rn, tupObj [.ref rm, .ref rs, .int (fieldsV ns) tf, .int (onesV ns) to]), (rm, listOf vm.toArray nm), (rs, listOf vx.toArray nx), (rr, listOf vr.toArray nr), (66, tabObj (tabOf 85 4 ta)), (73, tabObj (tabOf 100 4 tb))]) (t1 : CodeAt s.heap qI ta) (t2 : CodeAt s.heap qD tb)
    (im : IntsAre vm (marksOf ns)) (ix : IntsAre vx (shortsOf ns)) (ir : IntsAre vr ns) (Gd : Good ns) (q0 : 0 ≤ q) (q43 : q < 2 ^ 43) (hq : q ∉ ns)
    (ret : ∀ h' tk', Keep [66, 73] s.heap h' → TabsN s.heap ta tb h' → Q (.bool true) { s with heap := h', toks := tk' }) :
    wpAny (model PySem.Challenge.rw_wf0065_01.row.prog w) A (call (.ref 198) [.ref rr, .ref rn, .int q tq]) Q E s := by
  obtain ⟨dp, un, gd, env, outer, A₀, base, h₀, L, m, mg, mb, p, loose, mean, rfl, B, F, N, X, T, hf, hke, hdp, hun, c1, c2⟩ := H
  revert X; k_fill; intro X
  refine wpAny_call ?_
  k_dflt (refine' enterC (binds := [(Str.ofString "row", .ref rr), (Str.ofString "node", .ref rn), (Str.ofString "asked", .int q tq)]) ⟨B, F, X, N, T, rfl, hf, hke⟩ (by walk_at "mine def") (by walk_at "mine def") rfl (by walk_at "mine takes") rfl (by decide +kernel) ?_; k_whole)
  rintro g L' h' tk cells Y' ⟨F', N', B', X', T', G', l1, st'⟩
  have W' : TabP g g ta tb ta tb [] := tabP_startL t1 t2 G' (by walk_at "mine off")
  have hsub := fun (h₂ : Heap) (m₂ : Str → Option Value) (nw : List (Addr × Obj)) (F₂ : Fr g L' h₂ m₂) (N₂ : News g L' h₂ nw) (hc) => (Keep.ledT N G' F₂ N₂ hc : Keep [66, 73] s.heap h₂)
  have c1' := c1.keeps st'
  have c2' := c2.keeps st'
  have q1 : @Ne Nat rn 66 := led_ne N (p := (rn, _)) (q := (66, _)) (by k_mem) (by k_mem) (by intro e; cases e)
  have q2 : @Ne Nat rn 73 := led_ne N (p := (rn, _)) (q := (73, _)) (by k_mem) (by k_mem) (by intro e; cases e)
  have q3 : @Ne Nat rm 66 := led_ne N (p := (rm, _)) (q := (66, _)) (by k_mem) (by k_mem) (by intro e; cases e)
  have q4 : @Ne Nat rm 73 := led_ne N (p := (rm, _)) (q := (73, _)) (by k_mem) (by k_mem) (by intro e; cases e)
  have q5 : @Ne Nat rs 66 := led_ne N (p := (rs, _)) (q := (66, _)) (by k_mem) (by k_mem) (by intro e; cases e)
  have q6 : @Ne Nat rs 73 := led_ne N (p := (rs, _)) (q := (73, _)) (by k_mem) (by k_mem) (by intro e; cases e)
  have q7 : @Ne Nat rr 66 := led_ne N (p := (rr, _)) (q := (66, _)) (by k_mem) (by k_mem) (by intro e; cases e)
  have q8 : @Ne Nat rr 73 := led_ne N (p := (rr, _)) (q := (73, _)) (by k_mem) (by k_mem) (by intro e; cases e)
  clear B F N X T hf c1 c2 st' t1 t2
  k_lt l1
  k_cells Y'
  (try simp only [List.cons_append, List.nil_append] at N')
  dsimp only [Run]
  k_unmd
  k_fold
  have hvm := im.length
  have hvx := ix.length
  have hvr := ir.length
  have hsl := shortsOf_length ns
  have hn6 := Gd.len6
  have hm5 : (marksOf ns).length ≤ 5 := Nat.le_trans (marksOf_length ns) (Nat.sub_le_sub_right hn6 1)
  have hn3 := Gd.len3
  have hm2 := Gd.m2
  have hm0 := marksOf_nonneg Gd.R Gd.h0
  have hRs := shorts_rising Gd.R Gd.h0
  have hR := Gd.R
  obtain ⟨s0, s1⟩ := shortOf_bound (marksOf ns) q
  have hMk := kstMark
  have p0 := cnt_lo (fun y => decide (y < shortOf (marksOf ns) q)) (shortsOf ns)
  have p1 := cnt_hi (fun y => decide (y < shortOf (marksOf ns) q)) (shortsOf ns)
  rw [hsl] at p1
  have hF := filter_len (fun y => decide (y < q)) ns
  have hbl : (cnt (fun y => decide (y < shortOf (marksOf ns) q)) (shortsOf ns) != cnt (fun y => decide (y < shortOf (marksOf ns) q)) (shortsOf ns)) = false := by simp
  have hfb : (cnt (fun y => decide (y < q)) ns != (((List.filter (fun y => decide (y < q)) ns).length : Nat) : Int)) = false := by rw [hF]; simp
  have hany : (ns.any fun x => x == q) = false := (Bool.eq_false_iff).mpr fun e => by
    obtain ⟨x, hx, e⟩ := List.any_eq_true.mp e
    exact hq (by rw [show x = q by simpa using e] at hx; exact hx)
  have hle := cnt_eq_iff.mpr hq
  have hlb : (cnt (fun y => decide (y ≤ q)) ns != (((List.filter (fun y => decide (y < q)) ns).length : Nat) : Int)) = false := by rw [hF, hle]; simp
  k_with "mine fact" => first | exact hm0 | exact fig_lo _ _ _ | exact fig_hi _ _ _
  k_with "cend" => (k_dflt (first | exact LCg.CompEnd.intro (by k_asm) (by k_asm) _ (fun p hp => hp) zoff (by lcg_src) ⟨rfl, _, rfl⟩ | exact LCg.CompEnd.intro (by k_asm) (by k_asm) _ (fun p hp => hp) zoff (by lcg_src) ⟨rfl, decide_eq_true (by assumption), _, rfl⟩ | exact LCg.CompEnd.intro (by k_asm) (by k_asm) _ (fun p hp => hp) zoff (by lcg_src) ⟨rfl, decide_eq_false (by assumption)⟩))
  k_with "srcT" => (k_dflt ((refine' LCt.CompSrcT.ledger rfl (by k_asm) (by k_asm) (by k_mem) ?zsz ?zR; (case zsz => (rw [PySem.sizeLine_eq]; simp only [List.size_toArray]; omega)); (case' zR => (intro g'; refine' comp_filter (fun y => decide (y < q)) ir ?zturn ?zfin; (case' zturn => (intro zk zt zI zoI zC zoC zD zm zys zh ztk zE zmem zNs zx zF zN zoff zne; have zoff2 := zoff; (simp only [LCg.Off3, and_true] at zoff2))); (case' zfin => (intro zys zi; have zl := zi.length; have zf := List.length_filter_le (fun y => decide (y < q)) ns; have zf2 := filter_len (fun y => decide (y < q)) ns)); (all_goals (try k_fold)))))))
  k_with "min" => first | (k_dflt (refine' kso_min (by k_asm) (by k_asm) (by kso_list) (by l_ints) (by walk_at "mine least") (by with_unfolding_all rfl) ?_; k_whole; intro zh0 zM0 zt0 zk0 zF0 zN0 za0 zb0; (try k_sweep))) | (k_dflt (refine Stop.of ?_))
  k_steps
  · refine Stop.intro ?_
    k_dflt (refine' kso_min (by k_asm) (by k_asm) (by kso_list) (by l_ints) (by walk_at "mine some") (by with_unfolding_all rfl) ?_; k_whole; intro zh zM zt zk zF zN za zb)
    obtain ⟨zc, zce, zNr, zc43, zh0, zh1, zo0, zo1⟩ := mark_facts Gd q0 q43 hq za zb
    have zbs := zNr.beside_bits slice_sub (slice_beside' (zNr.beside rfl) (by split <;> omega) (by split <;> omega)) za0 zb0
    clear za zb za0 zb0
    (repeat (rename (@Ne Nat _ _) ∧ _ => zz; clear zz))
    (repeat (rename List.length _ = _ => zz; clear zz))
    (repeat (rename List.length _ ≤ List.length _ => zz; clear zz))
    (repeat (rename IntsAre _ (List.map (fun k => Builtin.bitXor k q) _) => zz; clear zz))
    (repeat (rename IntsAre _ (List.take _ _) => zz; clear zz))
    have zN2 := news_tail (news_tail (news_tail (news_tail (news_tail zN))))
    clear zN
    obtain ⟨zex, zsx, zW, zdx⟩ := tabP_small (by assumption)
    have zN3 := news_swap8 zN2 zsx
    clear zN2
    have zC3 := ex_ne zN3 (.head _) (by walk_at "mine ex") zdx (by assumption)
    have hvm := im.length
    have hvx := ix.length
    have hvr := ir.length
    have hsl := shortsOf_length ns
    have hfig := fig_is (q := q) zce
    have hmb : ((Builtin.Int.intBits zM0 : Int) - 1 != (Builtin.Int.intBits zM : Int) - 1) = false := by rw [zce, zbs]; simp
    (try k_sweep)
    rcases (show q / 2 ^ zc % 2 = 0 ∨ q / 2 ^ zc % 2 = 1 by omega) with hf | hf
    · rw [hf] at hfig
      have hfgb : (Builtin.bitAnd (q.fdiv (2 ^ ((Builtin.Int.intBits zM : Int) - 1).toNat)) 1 != 0) = false := by rw [hfig]; rfl
      obtain ⟨hz1, hz2⟩ := zNr.fin0 zce hf
      k_steps
      (try dsimp only)
      (try k_unfold)
      (try dsimp only [Back])
      rw [hz2]
      (rename News g _ _ _ => nwE)
      refine' ret _ _ (hsub _ _ _ (by assumption) nwE ?e1) ?e2
      case e1 => walk_at "mine consts"
      case e2 => exact tabs_endL (tabs_end (by assumption) (by k_asm) nwE (by k_mem) (by k_mem) (by walk_at "mine ex")) G' (by walk_at "mine off")
    · rw [hf] at hfig
      have hfgb : (Builtin.bitAnd (q.fdiv (2 ^ ((Builtin.Int.intBits zM : Int) - 1).toNat)) 1 != 0) = true := by rw [hfig]; rfl
      obtain ⟨hz1, hz2⟩ := zNr.fin1 zce hf
      k_steps
      (try dsimp only)
      (try k_unfold)
      (try dsimp only [Back])
      rw [hz2]
      (rename News g _ _ _ => nwE)
      refine' ret _ _ (hsub _ _ _ (by assumption) nwE ?e1) ?e2
      case e1 => walk_at "mine consts"
      case e2 => exact tabs_endL (tabs_end (by assumption) (by k_asm) nwE (by k_mem) (by k_mem) (by walk_at "mine ex")) G' (by walk_at "mine off")

theorem at_law : True := by
  w_top off
  k_with_none
  trivial
theorem foundC {w : World} {A : Around} {s : Shared} {Q E : Value → Shared → Prop} {ns : List Int} {q : Int} {tq tf to : Tok} {ta tb : Option Addr} {rn rm rs rr : Addr} {vm vx vr : List Value} {nm nx nr : Nat}
    (H : Here w A 110 1100 s [(rn, tupObj [.ref rm, .ref rs, .int (fieldsV ns) tf, .int (onesV ns) to]), (rm, listOf vm.toArray nm), (rs, listOf vx.toArray nx), (rr, listOf vr.toArray nr), (66, tabObj (tabOf 85 4 ta)), (73, tabObj (tabOf 100 4 tb))]) (t1 : CodeAt s.heap qI ta) (t2 : CodeAt s.heap qD tb)
    (im : IntsAre vm (marksOf ns)) (ix : IntsAre vx (shortsOf ns)) (ir : IntsAre vr ns) (Gd : Good ns) (q0 : 0 ≤ q) (q43 : q < 2 ^ 43)
    (ret : ∀ h' tk', Keep [66, 73] s.heap h' → TabsN s.heap ta tb h' → Q (.bool true) { s with heap := h', toks := tk' }) :
    wpAny (model PySem.Challenge.rw_wf0065_01.row.prog w) A (call (.ref 198) [.ref rr, .ref rn, .int q tq]) Q E s := by
  by_cases hq : q ∈ ns
  · exact foundC1 H t1 t2 im ix ir Gd q0 q43 hq ret
  · exact foundC2 H t1 t2 im ix ir Gd q0 q43 hq ret
theorem tabP_triv {h₀ h : Heap} {L : Addr} {l : List (Addr × Obj)} (_ : News h₀ L h l) : TabP h₀ h₀ none none none none [] := ⟨trivial, trivial, .inl rfl, .inl rfl, fun _ _ e _ => e⟩
theorem tabs_init {h₀ h : Heap} {L : Addr} (N : News h₀ L h [(66, tabObj #[]), (73, tabObj #[])]) : News h₀ L h [(66, tabObj (tabOf 85 4 none)), (73, tabObj (tabOf 100 4 none))] := N
theorem keyOf_eq {n : Int} (h0 : 0 ≤ n) (h1 : n < 1000000) : keyOf n = n % 8 * 2 ^ 40 + n / 8 := by
  unfold keyOf
  rw [Int.fmod_eq_emod_of_nonneg _ (by decide), Int.fdiv_eq_ediv_of_nonneg _ (by decide), show (40 : Int).toNat = 40 from rfl, bitOr_and]
  have a0 : 0 ≤ n % 8 * 2 ^ 40 := by omega
  have b0 : 0 ≤ n / 8 := by omega
  have e1 : n % 8 * 2 ^ 40 % 2 ^ 40 = 0 := Int.mul_emod_left _ _
  have e2 : n / 8 / 2 ^ 40 = 0 := by omega
  rw [and_split a0 b0 40, e1, e2, bitAnd_comm 0, bitAnd_zero, bitAnd_zero]
  omega
theorem keyOf_bound {n : Int} (h0 : 0 ≤ n) (h1 : n < 1000000) : 0 ≤ keyOf n ∧ keyOf n < 2 ^ 43 := by
  rw [keyOf_eq h0 h1]
  omega
theorem rows_length : ∀ (ks row : List Int), (ks.foldl insKey row).length ≤ row.length + ks.length
  | [], _ => by simp
  | k :: r, row => by
    have h1 := rows_length r (insKey row k)
    have h2 := insKey_length (row := row) (k := k)
    rw [List.foldl_cons, List.length_cons]; omega
theorem three_of {l : List Int} {a b c : Int} (ha : a ∈ l) (hb : b ∈ l) (hc : c ∈ l) (h1 : a ≠ b) (h2 : b ≠ c) (h3 : a ≠ c) : 3 ≤ l.length := by
  obtain ⟨i, hi, rfl⟩ := List.getElem_of_mem ha
  obtain ⟨j, hj, rfl⟩ := List.getElem_of_mem hb
  obtain ⟨k, hk, rfl⟩ := List.getElem_of_mem hc
  have n1 : i ≠ j := fun e => h1 (by subst e; rfl)
  have n2 : j ≠ k := fun e => h2 (by subst e; rfl)
  have n3 : i ≠ k := fun e => h3 (by subst e; rfl)
  omega
theorem two_of {l : List Int} {a b : Int} (ha : a ∈ l) (hb : b ∈ l) (h1 : a ≠ b) : 2 ≤ l.length := by
  obtain ⟨i, hi, rfl⟩ := List.getElem_of_mem ha
  obtain ⟨j, hj, rfl⟩ := List.getElem_of_mem hb
  have n1 : i ≠ j := fun e => h1 (by subst e; rfl)
  omega
/-- the law's rows are good -/
theorem good_row {ms : List Int} (hm : ∀ n ∈ ms, 0 ≤ n ∧ n < 1000000) (hl : ms.length ≤ 3) : Good (rowOf (ms ++ [40, 48, 41])) := by
  have R := rowOf_rising (ms ++ [40, 48, 41])
  have hn : ∀ n ∈ ms ++ [40, 48, 41], 0 ≤ n ∧ n < 1000000 := fun n h => by
    rcases List.mem_append.mp h with h | h
    · exact hm n h
    · simp only [List.mem_cons, List.not_mem_nil, or_false] at h
      omega
  have hb : ∀ x ∈ rowOf (ms ++ [40, 48, 41]), 0 ≤ x ∧ x < 2 ^ 43 := fun x hx => by
    obtain ⟨n, h, rfl⟩ := rowOf_mem.mp hx
    exact keyOf_bound (hn n h).1 (hn n h).2
  have m5 : (5 : Int) ∈ rowOf (ms ++ [40, 48, 41]) := rowOf_mem.mpr ⟨40, by simp, by rw [keyOf_eq (by decide) (by decide)]; decide⟩
  have m6 : (6 : Int) ∈ rowOf (ms ++ [40, 48, 41]) := rowOf_mem.mpr ⟨48, by simp, by rw [keyOf_eq (by decide) (by decide)]; decide⟩
  have m7 : (2 ^ 40 + 5 : Int) ∈ rowOf (ms ++ [40, 48, 41]) := rowOf_mem.mpr ⟨41, by simp, by rw [keyOf_eq (by decide) (by decide)]; decide⟩
  have h0 := fun x hx => (hb x hx).1
  refine ⟨R, h0, fun x hx => (hb x hx).2, three_of m5 m6 m7 (by decide) (by decide) (by decide), ?_, ?_⟩
  · have := rows_length ((ms ++ [40, 48, 41]).map keyOf) []
    unfold rowOf
    rw [List.length_map, List.length_append] at this
    simp at this ⊢
    omega
  · have k1 := mark_in R h0 (d := 1) m5 m6 (by decide) (by decide)
    have k2 := mark_in R h0 (d := 40) m5 m7 (by decide) (by decide)
    exact two_of k1 k2 (by decide)
theorem asked_bound {x y : Int} (x0 : 0 ≤ x) (x1 : x < 2 ^ 43) (y0 : 0 ≤ y) (y1 : y < 2 ^ 43) : 0 ≤ Builtin.bitXor x y ∧ Builtin.bitXor x y < 2 ^ 43 := by
  have h := xor_nonneg x0 y0
  refine ⟨h, (bits_iff h 43).mp ?_⟩
  show dl x y ≤ 43
  rw [dl_le x0 y0, Int.ediv_eq_zero_of_lt x0 x1, Int.ediv_eq_zero_of_lt y0 y1]
theorem pick_mem {ns : List Int} {lo hi st : Option Int} {x : Int} (h : x ∈ pickNums ns lo hi st) : x ∈ ns := by
  unfold pickNums at h
  obtain ⟨i, _, e⟩ := List.mem_filterMap.mp h
  exact List.mem_of_getElem? e
theorem evens_le {ns : List Int} (h : ns.length ≤ 6) : (pickNums ns none none (some 2)).length ≤ 3 := by
  unfold pickNums
  refine Nat.le_trans (List.length_filterMap_le _ _) ?_
  generalize ns.length = n at h
  have : n = 0 ∨ n = 1 ∨ n = 2 ∨ n = 3 ∨ n = 4 ∨ n = 5 ∨ n = 6 := by omega
  rcases this with rfl | rfl | rfl | rfl | rfl | rfl | rfl <;> decide
theorem odds_le {ns : List Int} (h : ns.length ≤ 6) : (pickNums ns (some 1) none (some 2)).length ≤ 3 := by
  unfold pickNums
  refine Nat.le_trans (List.length_filterMap_le _ _) ?_
  generalize ns.length = n at h
  have : n = 0 ∨ n = 1 ∨ n = 2 ∨ n = 3 ∨ n = 4 ∨ n = 5 ∨ n = 6 := by omega
  rcases this with rfl | rfl | rfl | rfl | rfl | rfl | rfl <;> decide
section
variable {prog : Program} {w : World} {A : Around} {E : Value → Shared → Prop} {s : Shared} {env : Env} {h₀ H : Heap} {x : Str} {body : List Stmt} {Q : Flow → Shared → Prop}
/-- a loop over a list of ints whose turn may fill the tables and stores nothing -/
theorem loop_tabs {ax : Addr} {vs : List Value} {ns : List Int} {n : Nat} {m₀ : Str → Option Value} {loc ex : List (Addr × Obj)} {a₀ b₀ a b : Option Addr}
    (hh : A.handled = none) (hi : IntsAre vs ns) (F : Fr h₀ env.locals s.heap m₀) (N : News h₀ env.locals s.heap ((ax, listOf vs.toArray n) :: (loc ++ (66, tabObj (tabOf 85 4 a)) :: (73, tabObj (tabOf 100 4 b)) :: ex))) (W : TabP H h₀ a₀ b₀ a b ex)
    (turn : ∀ k t it I h tk a b ex, k ∈ ns → it.cls = .type "list_iterator" → (∀ p ∈ loc, p.1 < I) → TabP H h₀ a₀ b₀ a b ex → Apart ex [(I, it), (ax, listOf vs.toArray n)] → Fr h₀ env.locals h (fun y => if y = x then some (.int k t) else m₀ y) →
      News h₀ env.locals h ((I, it) :: (ax, listOf vs.toArray n) :: (loc ++ (66, tabObj (tabOf 85 4 a)) :: (73, tabObj (tabOf 100 4 b)) :: ex)) → ((@Ne Nat I 66) ∧ (@Ne Nat I 73) ∧ (@Ne Nat ax 66) ∧ (@Ne Nat ax 73)) →
      wpAny (model prog w) A (execs body env) (fun f s₂ => f = .next ∧ ∃ h' tk' a' b' ex', s₂ = { s with heap := h', toks := tk' } ∧ Fr h₀ env.locals h' (fun y => if y = x then some (.int k t) else m₀ y) ∧
        News h₀ env.locals h' ((I, it) :: (ax, listOf vs.toArray n) :: (loc ++ (66, tabObj (tabOf 85 4 a')) :: (73, tabObj (tabOf 100 4 b')) :: ex')) ∧ TabP H h₀ a₀ b₀ a' b' ex' ∧ Apart ex' [(I, it), (ax, listOf vs.toArray n)]) E { s with heap := h, toks := tk })
    (done : ∀ u h tk p q, Fr h₀ env.locals h (fun y => if y = x then u else m₀ y) → News h₀ env.locals h [(66, tabObj p), (73, tabObj q)] → Q .next { s with heap := h, toks := tk }) :
    wpAny (model prog w) A (pyIter (.ref ax)) (fun it s₂ => LoopAtV prog w A h₀ env x body Q E it s₂) E s := by
  have n66 := N _ (show (66, tabObj (tabOf 85 4 a)) ∈ _ from .tail _ (List.mem_append_right _ (.head _)))
  have n73 := N _ (show (73, tabObj (tabOf 100 4 b)) ∈ _ from .tail _ (List.mem_append_right _ (.tail _ (.head _))))
  have nax := N _ (.head _)
  have x66 : @Ne Nat ax 66 := fun e => by
    have h1 := nax.1
    rw [show (ax, listOf vs.toArray n).1 = 66 from e, n66.1] at h1
    exact absurd (congrArg Obj.cls (Option.some.inj h1)) (by intro e; cases e)
  have x73 : @Ne Nat ax 73 := fun e => by
    have h1 := nax.1
    rw [show (ax, listOf vs.toArray n).1 = 73 from e, n73.1] at h1
    exact absurd (congrArg Obj.cls (Option.some.inj h1)) (by intro e; cases e)
  obtain ⟨ex₁, s₁, W₁, d₁⟩ := tabP_small W
  have N₁ : News h₀ env.locals s.heap ((ax, listOf vs.toArray n) :: (loc ++ (66, tabObj (tabOf 85 4 a)) :: (73, tabObj (tabOf 100 4 b)) :: ex₁)) := fun p hp => N p (by
    rcases List.mem_cons.mp hp with rfl | hp
    · exact .head _
    · refine .tail _ ?_
      rcases List.mem_append.mp hp with hp | hp
      · exact List.mem_append_left _ hp
      · refine List.mem_append_right _ ?_
        rcases List.mem_cons.mp hp with rfl | hp
        · exact .head _
        · rcases List.mem_cons.mp hp with rfl | hp
          · exact .tail _ (.head _)
          · exact .tail _ (.tail _ (s₁ p hp)))
  have xax : ∀ p ∈ ex₁, p.1 ≠ ax := fun p hp e => by
    have h1 := (N₁ p (.tail _ (List.mem_append_right _ (.tail _ (.tail _ hp))))).1
    rw [e, nax.1] at h1
    obtain ⟨us, h2⟩ := d₁ p hp
    rw [← Option.some.inj h1] at h2
    cases h2
  refine iter_listUnr hh F N₁ (.head _) rfl rfl fun I hI => ?_
  have I66 : @Ne Nat I 66 := fun e => by have := hI (66, tabObj (tabOf 85 4 a)) (.tail _ (List.mem_append_right _ (.head _))); rw [show I = 66 from e] at this; exact Nat.lt_irrefl _ this
  have I73 : @Ne Nat I 73 := fun e => by have := hI (73, tabObj (tabOf 100 4 b)) (.tail _ (List.mem_append_right _ (.tail _ (.head _)))); rw [show I = 73 from e] at this; exact Nat.lt_irrefl _ this
  have Iax : ax ≠ I := Nat.ne_of_lt (hI _ (.head _))
  have Iloc : ∀ p ∈ loc, p.1 < I := fun p hp => hI p (.tail _ (List.mem_append_left _ hp))
  have key : ∀ (us : List Value) (ks : List Int) (u : Option Value) (a b : Option Addr) (ex : List (Addr × Obj)), IntsAre us ks → (∀ k ∈ ks, k ∈ ns) → TabP H h₀ a₀ b₀ a b ex → (∀ p ∈ ex, p.1 ≠ I) → (∀ p ∈ ex, p.1 ≠ ax) →
      ListRest prog w A E h₀ env x body Q s I (ax, listOf vs.toArray n) us (fun y => if y = x then u else m₀ y) ((ax, listOf vs.toArray n) :: (loc ++ (66, tabObj (tabOf 85 4 a)) :: (73, tabObj (tabOf 100 4 b)) :: ex)) := by
    intro us
    induction us with
    | nil =>
      intro ks u a b ex _ _ _ _ _
      refine ListRest.zero fun h tk F' N' => done u h tk (tabOf 85 4 a) (tabOf 100 4 b) F' fun p hp => ?_
      simp only [List.mem_cons, List.not_mem_nil, or_false] at hp
      rcases hp with rfl | rfl
      · exact N' _ (by simp)
      · exact N' _ (by simp)
    | cons v r ih =>
      intro ks u a b ex hi' hk W' hx hxa
      cases hi' with
      | cons k t hr =>
        refine ListRest.succ fun it h tk hit F' N' => ?_
        have em : (fun y => if y = x then some (Value.int k t) else (fun y => if y = x then u else m₀ y) y) = fun y => if y = x then some (Value.int k t) else m₀ y := by
          funext y
          by_cases hy : y = x
          · rw [if_pos hy, if_pos hy]
          · rw [if_neg hy, if_neg hy]; exact if_neg hy
        rw [em] at F'
        refine wpAny_mono (turn k t it I h tk a b ex (hk k (.head _)) hit Iloc W' ⟨hx, hxa, trivial⟩ F' N' ⟨I66, I73, x66, x73⟩) (fun f s₂ p => ?_) fun _ _ e => e
        obtain ⟨rfl, h', tk', a', b', ex', rfl, F₂, N₂, W₂, A₂⟩ := p
        refine ⟨h', tk', _, _, rfl, F₂, N₂, fun p hp => ?_, .head _, ih _ _ a' b' ex' hr (fun k hk' => hk k (.tail _ hk')) W₂ A₂.1 A₂.2.1⟩
        rcases List.mem_cons.mp hp with rfl | hp
        · exact Iax
        · rcases List.mem_append.mp hp with hp | hp
          · exact Nat.ne_of_lt (Iloc p hp)
          · rcases List.mem_cons.mp hp with rfl | hp
            · exact Ne.symm I66
            · rcases List.mem_cons.mp hp with rfl | hp
              · exact Ne.symm I73
              · exact A₂.1 p hp
  have e0 : (fun y => if y = x then m₀ x else m₀ y) = m₀ := by
    funext y
    by_cases hy : y = x
    · rw [if_pos hy, hy]
    · rw [if_neg hy]
  have := key vs ns (m₀ x) a b ex₁ hi (fun _ h => h) W₁ (fun p hp => Nat.ne_of_lt (hI p (.tail _ (List.mem_append_right _ (.tail _ (.tail _ hp)))))) xax
  rwa [e0] at this
end
section
variable {prog : Program} {w : World} {A : Around} {E : Value → Shared → Prop} {s : Shared} {h₀ : Heap} {L l : Addr} {m : Str → Option Value} {news : List (Addr × Obj)} {value slice : PySem.Expr} {vs : List Value} {ns : List Int} {vl vk : Value} {lo : Option Int} {Q : Value → Shared → Prop}
/-- every second int of a list -/
theorem slice_two {ops : List Value} (F : Fr h₀ L s.heap m) (N : News h₀ L s.heap news) (hl : s.heap.IsList l vs.toArray) (hi : IntsAre vs ns) (pl : IsPart vl lo) (pk : IsPart vk (some 2)) (hlen : ns.length < 1000)
    (h : ∀ D ws h', Fr h₀ L h' m → News h₀ L h' ((D, listOf (List.toArray ws) 0) :: news) → (∀ p ∈ news, p.1 < D) → IntsAre ws (pickNums ns lo none (some 2)) → Q (.ref D) { s with heap := h' })
    (hs : subscripted slice false (.ref l) (.ref s.heap.objs.size) = operate ops (getItem (.ref l) (.ref s.heap.objs.size))) (ht : ∀ r, letTemporaryGo value (.ref l) r = pure ()) :
    wpAny (model prog w) A (subscriptTail value slice (.ref l) (.ref s.heap.objs.size)) Q E { s with heap := s.heap.push { cls := .type "slice", data := .fields #[vl, .none, vk] } } := by
  refine slice_list3 F N hl pl IsPart.none pk (by decide) (fun h' F' N' => h _ (slicePick vs.toArray lo none (some 2)).toList h' F' ?_ (fun p hp => Nat.lt_succ_of_lt (Heap.lt_size (N p hp).1)) (IntsAre.pick hi lo none (some 2))) hs ht (by rw [PySem.sizeLine_eq, List.size_toArray, hi.length]; omega)
  rw [Array.toArray_toList]
  exact N'
end
theorem law_nums (S : List Int) : ∀ n ∈ (S.take 6).map (fun k' => k'.fmod (10 ^ Int.toNat 6)), 0 ≤ n ∧ n < 1000000 := fun n hn => by
  obtain ⟨k, _, rfl⟩ := List.mem_map.mp hn
  rw [show ((10 : Int) ^ Int.toNat 6) = 1000000 from rfl, Int.fmod_eq_emod_of_nonneg _ (by decide)]
  omega
theorem law_len (S : List Int) : ((S.take 6).map (fun k' => k'.fmod (10 ^ Int.toNat 6))).length ≤ 6 := by
  rw [List.length_map, List.length_take]
  omega
theorem law_good {vs : List Value} {S : List Int} (_ : IntsAre vs S) : Good (rowOf (pickNums ((S.take 6).map (fun k' => k'.fmod (10 ^ Int.toNat 6))) none none (some 2) ++ [40, 48, 41])) :=
  good_row (fun n hn => law_nums S n (pick_mem hn)) (evens_le (law_len S))
theorem law_evens {vs : List Value} {S : List Int} (_ : IntsAre vs S) : (pickNums ((S.take 6).map (fun k' => k'.fmod (10 ^ Int.toNat 6))) none none (some 2)).length ≤ 3 := evens_le (law_len S)
theorem law_odds {vs : List Value} {S : List Int} (_ : IntsAre vs S) : (pickNums ((S.take 6).map (fun k' => k'.fmod (10 ^ Int.toNat 6))) (some 1) none (some 2)).length ≤ 3 := odds_le (law_len S)
theorem law_num6 {vs : List Value} {S : List Int} (_ : IntsAre vs S) : ((S.take 6).map (fun k' => k'.fmod (10 ^ Int.toNat 6))).length ≤ 6 := law_len S
theorem law_asked {vs : List Value} {S : List Int} (_ : IntsAre vs S) : ∀ n ∈ pickNums ((S.take 6).map (fun k' => k'.fmod (10 ^ Int.toNat 6))) (some 1) none (some 2) ++ [24, 5, 2], 0 ≤ n ∧ n < 1000000 := fun n hn => by
  rcases List.mem_append.mp hn with h | h
  · exact law_nums S n (pick_mem h)
  · simp only [List.mem_cons, List.not_mem_nil, or_false] at h
    omega
theorem turn_facts {ns : List Int} (Gd : Good ns) {k : Int} (k0 : 0 ≤ k) (k1 : k < 1000000) : 0 ≤ k.fmod (ns.length : Int) ∧ k.fmod (ns.length : Int) < (ns.length : Int) ∧
    0 ≤ Builtin.bitXor (ns.getD (k.fmod (ns.length : Int)).toNat 0) (k.fdiv (ns.length : Int)) ∧ Builtin.bitXor (ns.getD (k.fmod (ns.length : Int)).toNat 0) (k.fdiv (ns.length : Int)) < 2 ^ 43 := by
  have h3 := Gd.len3
  rw [Int.fmod_eq_emod_of_nonneg _ (Int.natCast_nonneg _), Int.fdiv_eq_ediv_of_nonneg _ (Int.natCast_nonneg _)]
  have m0 := Int.emod_nonneg k (show (ns.length : Int) ≠ 0 by omega)
  have m1 := Int.emod_lt_of_pos k (show 0 < (ns.length : Int) by omega)
  have hm : ns.getD (k % (ns.length : Int)).toNat 0 ∈ ns := by
    have : (k % (ns.length : Int)).toNat < ns.length := by omega
    simp [List.getD_eq_getElem?_getD, this]
  have d0 : 0 ≤ k / (ns.length : Int) := Int.ediv_nonneg k0 (Int.natCast_nonneg _)
  have d1 : k / (ns.length : Int) ≤ k := Int.ediv_le_self _ k0
  exact ⟨m0, m1, asked_bound (Gd.h0 _ hm) (Gd.top _ hm) d0 (by omega)⟩
local macro_rules | `(tactic| walk_at "subscriptTail Name Slice ref ref") => `(tactic| (k_here; (with_reducible show wpAny _ _ (subscriptTail _ (PySem.Expr.Slice _ none (some _) _) (Value.ref _) (Value.ref _)) _ _ _); k_dflt (refine' slice_two ?F ?N ?l ?i ?p ?q ?z ?_ ?s ?t; (case F => k_asm); (case N => k_asm); (case l => kmk_list); (case i => l_ints); (case p => kmk_part); (case q => kmk_part); (case z => walk_at "mine fact"); (case s => with_unfolding_all rfl); (case t => kmk_pure)); intro D' ws' h' F' N' l1 hI'; (try k_lt l1); (try k_sweep)))
/-- a good row, no longer named -/
theorem rowG {w : World} {A : Around} {s : Shared} {Q E : Value → Shared → Prop} {l : Addr} {vs : List Value} {ns : List Int}
    (H : Here w A 30 300 s []) (hl : s.heap.IsList l vs.toArray) (hi : IntsAre vs ns) (hlen : ns.length < 800) (Gd : Good (rowOf ns))
    (ret : ∀ R r vs' n' h' tk', Good R → (R.length ≤ 6 ∧ 3 ≤ R.length) → (∀ k ∈ marksOf R, 0 ≤ k) → Rising (shortsOf R) → Keep [] s.heap h' → s.heap.get? r = none → h'.get? r = some (listOf vs'.toArray n') → IntsAre vs' R → Q (.ref r) { s with heap := h', toks := tk' }) :
    wpAny (model PySem.Challenge.rw_wf0065_01.row.prog w) A (call (.ref 169) [.ref l]) Q E s :=
  rowC H hl hi hlen fun r vs' n' h' tk' k f g i => ret _ r vs' n' h' tk' Gd ⟨Gd.len6, Gd.len3⟩ (marksOf_nonneg Gd.R Gd.h0) (shorts_rising Gd.R Gd.h0) k f g i

theorem at_zip : True := by
  w_top off
  k_with_none
  trivial
section
variable {prog : Program} {w : World} {A : Around} {E : Value → Shared → Prop} {s : Shared} {h₀ h h' : Heap} {L : Addr} {m : Str → Option Value} {env : Env} {news : List (Addr × Obj)}
/-- a comprehension begins: its list and its names are made, and all that stood stands -/
theorem comp_open {scope : Scope} {cl : List (Str × Addr)} {T : Value → Addr → Env → Shared → Prop} (hcell : ∀ y ∈ scope.names, y.2 ≠ .cell) (hkind : scope.kind = .function)
    (go : ∀ h m' tk, Keep [] s.heap h → h.get? s.heap.objs.size = some (LCg.lst []) → h.Ns (s.heap.objs.size + 1) m' → T (.ref s.heap.objs.size) (s.heap.objs.size + 1) (compEnvC scope cl (s.heap.objs.size + 1) env) { s with heap := h, toks := tk }) :
    wpAny (model prog w) A (newList []) (fun v s₁ => wpAny (model prog w) A (newFunctionEnv scope env.globals cl [] env.qual none .none (some env)) (fun e s₂ => T v e.locals { e with scope := relabel scope env } s₂) E s₁) E s := by
  refine wpAny_newObj_type (wpAny_newFunctionEnv hcell (fun _ z => nomatch z) (fun h ns sb => ?_) hkind)
  have z : (s.heap.push { cls := .type "list", dict := none, data := .seq ([] : List Value).toArray }).objs.size = s.heap.objs.size + 1 := Heap.size_push ..
  dsimp only at ns sb ⊢
  rw [z] at ns sb ⊢
  have up : ∀ b o, b ≠ s.heap.objs.size + 1 → (s.heap.push { cls := .type "list", dict := none, data := .seq ([] : List Value).toArray }).get? b = some o → h.get? b = some o := fun b o n e => (sb.2 b n).trans (Heap.get?_push_of_some _ e)
  exact go h _ _ (fun b o e _ => up b o (Nat.ne_of_lt (Nat.lt_succ_of_lt (Heap.lt_size e))) (Heap.get?_push_of_some _ e)) (up _ _ (Nat.ne_of_lt (Nat.lt_succ_self _)) (Heap.get?_push_size _ rfl)) ns
/-- a pair's two items take the comprehension's two names -/
theorem pair_names {x x₂ : Str} {px px₂ tp : Pos} {tk : Nat} {scope : Scope} {cl : List (Str × Addr)} {C T : Addr} {v₁ v₂ : Value} {m' : Str → Option Value} {Q : Unit → Shared → Prop} (hh : A.handled = none) (hkind : scope.kind = .function)
    (hx : scope.names.lookup x = some .local) (hx₂ : scope.names.lookup x₂ = some .local) (ne : x ≠ x₂) (ht : IsTup s.heap T #[v₁, v₂]) (ns : s.heap.Ns C m')
    (go : ∀ h m₂ tk, Keep [C] s.heap h → h.Ns C m₂ → m₂ x = some v₁ → m₂ x₂ = some v₂ → Q () { s with heap := h, toks := tk }) :
    wpAny (model prog w) A (assign (.Tuple [.Name x px, .Name x₂ px₂] tk tp) (compEnvC scope cl C env) (.ref T)) Q E s := by
  have local_ : ∀ {y : Str}, scope.names.lookup y = some .local → (compEnvC scope cl C env).kindOf y = some .local := lookup_relabel_local
  have fn : ((compEnvC scope cl C env).scope.kind == .class || ((compEnvC scope cl C env).scope.kind == .module && (compEnvC scope cl C env).locals != (compEnvC scope cl C env).globals)) = false := by
    rw [show (compEnvC scope cl C env).scope.kind = .function from hkind]; rfl
  refine assign_Tuple_tuple hh ht rfl rfl fun h₁ e₁ => ?_
  have k₁ : ∀ b o, s.heap.get? b = some o → h₁.get? b = some o := fun b o e => e₁ b o (Nat.ne_of_lt (Heap.lt_size e)) e
  refine assignInOrder_cons (wpAny_assign_Name (wpAny_storeName_local (local_ hx) (ns.keeps k₁) (fun h₂ n₂ s₂ => ?_) fn))
  refine assignInOrder_cons (wpAny_assign_Name (wpAny_storeName_local (local_ hx₂) n₂ (fun h₃ n₃ s₃ => assignInOrder_nil (go h₃ _ _ (fun b o e n => ?_) n₃ ?_ ?_)) fn))
  · exact Keep.one s₃ b o (Keep.one s₂ b o (k₁ b o e) n) n
  · simp [ne]
  · simp

def ZipSt (l1 l2 z TI TO i1 i2 : Addr) (vs₁ vs₂ : List Value) (i : Nat) (h : Heap) : Prop :=
  IsZip h z TI TO .none ∧ IsPair h TI (.ref i1) (.ref i2) ∧ (∃ a b, IsPair h TO a b) ∧ h.IsListIter i1 l1 i ∧ h.IsListIter i2 l2 i ∧ h.IsList l1 vs₁.toArray ∧ h.IsList l2 vs₂.toArray
def boolsOf (g : Int → Int → Bool) (as bs : List Int) : List Value := (as.zip bs).map fun q => .bool (g q.1 q.2)
theorem boolsOf_length (g : Int → Int → Bool) (as bs : List Int) : (boolsOf g as bs).length = (as.zip bs).length := List.length_map ..
theorem boolsOf_next {g : Int → Int → Bool} {as bs : List Int} {a b : Int} {i : Nat} (ha : as[i]? = some a) (hb : bs[i]? = some b) : (boolsOf g as bs).take (i + 1) = (boolsOf g as bs).take i ++ [.bool (g a b)] := by
  have e : (boolsOf g as bs)[i]? = some (.bool (g a b)) := by
    rw [boolsOf, List.getElem?_map, List.getElem?_zip_eq_some (z := (a, b)) |>.mpr ⟨ha, hb⟩]; rfl
  rw [List.take_add_one, e]; rfl
def TurnZ (prog : Program) (w : World) (A : Around) (h₀ : Heap) (L : Addr) (m : Str → Option Value) (env : Env) (elt : Expr) (x x₂ : Str) (scope : Scope) (cl : List (Str × Addr)) (news : List (Addr × Obj)) (g : Int → Int → Bool) (s : Shared) : Prop :=
  ∀ a b ta tb C oC m₂ h tk (E' : Value → Shared → Prop), LCg.NsObj oC m₂ → m₂ x = some (.int a ta) → m₂ x₂ = some (.int b tb) → Fr h₀ L h m → News h₀ L h ((C, oC) :: news) →
    wpAny (model prog w) A (eval elt (compEnvC scope cl C env)) (fun y s₂ => ∃ h' tk', y = .bool (g a b) ∧ s₂ = { s with heap := h', toks := tk' } ∧ Keep [] h h') E' { s with heap := h, toks := tk }
/-- the list and the names of a comprehension lie apart from all that stood -/
structure ZOff (h₀ : Heap) (L : Addr) (news : List (Addr × Obj)) (fp : List Addr) (D C : Addr) : Prop where
  dc : D ≠ C
  dl : D ≠ L
  cl : C ≠ L
  d0 : h₀.get? D = none
  c0 : h₀.get? C = none
  df : D ∉ fp
  cf : C ∉ fp
  nd : ∀ p ∈ news, p.1 < D
  nc : ∀ p ∈ news, p.1 ≠ C
theorem ZOff.new {fp : List Addr} (F : Fr h₀ L h m) (N : News h₀ L h news) (hfp : ∀ b ∈ fp, b < h.objs.size) : ZOff h₀ L news fp h.objs.size (h.objs.size + 1) :=
  have le := Nat.le_trans F.above (Nat.le_of_lt F.ns.lt)
  have lt : ∀ p ∈ news, p.1 < h.objs.size := fun p hp => Heap.lt_size (N p hp).1
  { dc := Nat.ne_of_lt (Nat.lt_succ_self _), dl := Nat.ne_of_gt F.ns.lt, cl := Nat.ne_of_gt (Nat.lt_succ_of_lt F.ns.lt), d0 := Heap.get?_none_of_le le, c0 := Heap.get?_none_of_le (Nat.le_succ_of_le le)
    df := fun z => absurd (hfp _ z) (Nat.lt_irrefl _), cf := fun z => absurd (hfp _ z) (Nat.not_lt.mpr (Nat.le_succ _)), nd := lt, nc := fun p hp => Nat.ne_of_lt (Nat.lt_succ_of_lt (lt p hp)) }
/-- what holds ahead of turn i -/
structure ZAt (h₀ : Heap) (L : Addr) (m : Str → Option Value) (news : List (Addr × Obj)) (St : Nat → Heap → Prop) (D C : Addr) (ys : List Value) (i : Nat) (h : Heap) : Prop where
  st : St i h
  fr : Fr h₀ L h m
  names : ∃ m', h.Ns C m'
  made : News h₀ L h ((D, LCg.lst ys) :: news)
section
variable {St : Nat → Heap → Prop} {D C : Addr} {ys : List Value} {fp : List Addr}
theorem ZOff.off {wr : List Addr} (G : ZOff h₀ L news fp D C) (sub : ∀ b ∈ wr, b ∈ fp) (off : ∀ p ∈ news, p.1 ∉ wr) : ∀ p ∈ (D, LCg.lst ys) :: news, p.1 ∉ wr := fun p hp z =>
  (List.mem_cons.mp hp).elim (fun e => G.df (sub D (by rw [e] at z; exact z))) fun hp => off p hp z
/-- a step that writes the walker's own places alone -/
theorem ZAt.moved {wr : List Addr} {i j : Nat} (X : ZAt h₀ L m news St D C ys i h) (G : ZOff h₀ L news fp D C) (sub : ∀ b ∈ wr, b ∈ fp) (hL : L ∉ wr) (h0 : ∀ b ∈ wr, h₀.get? b = none) (off : ∀ p ∈ news, p.1 ∉ wr) (k : Keep wr h h') (st : St j h') : ZAt h₀ L m news St D C ys j h' :=
  have ⟨m', n⟩ := X.names
  { st, fr := k.fr X.fr hL h0, names := ⟨m', n.at' fun o e => k C o e fun z => G.cf (sub C z)⟩, made := k.made X.made (G.off sub off) }
/-- a step that sets the names -/
theorem ZAt.named {i : Nat} {m' : Str → Option Value} (X : ZAt h₀ L m news St D C ys i h) (G : ZOff h₀ L news fp D C) (k : Keep [C] h h') (n : h'.Ns C m') (st : St i h') : ZAt h₀ L m news St D C ys i h' :=
  { st, fr := k.fr X.fr (not_one G.cl.symm) fun b z => (List.mem_singleton.mp z) ▸ G.c0, names := ⟨m', n⟩, made := k.made X.made fun p hp => not_one ((List.mem_cons.mp hp).elim (fun e => e ▸ G.dc) (G.nc p)) }
/-- a step that writes nothing that stands -/
theorem ZAt.grown {i : Nat} (X : ZAt h₀ L m news St D C ys i h) (k : Keep [] h h') (st : St i h') : ZAt h₀ L m news St D C ys i h' :=
  { st, fr := X.fr.keeps k.all, names := X.names.imp fun _ n => n.keeps k.all, made := X.made.grown k.all }
/-- a step that lays the next element -/
theorem ZAt.laid {i : Nat} {y : Value} (X : ZAt h₀ L m news St D C ys i h) (G : ZOff h₀ L news fp D C) (k : Keep [D] h h') (e : h'.get? D = some (LCg.lst (ys ++ [y]))) (st : St i h') : ZAt h₀ L m news St D C (ys ++ [y]) i h' :=
  { st, fr := k.fr X.fr (not_one G.dl.symm) fun b z => (List.mem_singleton.mp z) ▸ G.d0, names := X.names.imp fun _ n => n.at' fun o e => k C o e (not_one G.dc.symm)
    made := fun p hp => (List.mem_cons.mp hp).elim (fun q => q ▸ ⟨e, G.dl, G.d0⟩) fun hp => k.made (fun p hp => X.made p (.tail _ hp)) (fun p hp => not_one (Nat.ne_of_lt (G.nd p hp))) p hp }
end
/-- a comprehension over zip of two lists of ints whose element is a bool, told by any rule that writes nothing -/
theorem block_Z {elt iter : Expr} {x x₂ : Str} {px px₂ tp : Pos} {tk : Nat} {scope : Scope} {cl : List (Str × Addr)} {pos : Pos} {z TI TO i1 i2 l1 l2 : Addr} {vs₁ vs₂ : List Value} {as bs : List Int}
    {RR : Value → Addr → Result → Shared → Prop} (g : Int → Int → Bool)
    (hh : A.handled = none) (ap : ZipApart z TI TO i1 i2 l1 l2) (hst : ZipSt l1 l2 z TI TO i1 i2 vs₁ vs₂ 0 s.heap) (hj1 : IntsAre vs₁ as) (hj2 : IntsAre vs₂ bs) (hsz : as.length < 1000)
    (hcell : ∀ y ∈ scope.names, y.2 ≠ .cell) (hkind : scope.kind = .function) (hx : scope.names.lookup x = some .local) (hx₂ : scope.names.lookup x₂ = some .local) (hxx : x ≠ x₂)
    (hfp : ∀ b ∈ [z, TI, TO, i1, i2, l1, l2], b < s.heap.objs.size) (F : Fr h₀ L s.heap m) (N : News h₀ L s.heap news) (hLw : L ∉ [z, TO, i1, i2]) (hw0 : ∀ b ∈ [z, TO, i1, i2], h₀.get? b = none) (hnw : ∀ p ∈ news, p.1 ∉ [z, TO, i1, i2])
    (turn : TurnZ prog w A h₀ L m env elt x x₂ scope cl news g s)
    (hRR : ∀ D C h tk, ZOff h₀ L news [z, TI, TO, i1, i2, l1, l2] D C → Fr h₀ L h m → News h₀ L h ((D, LCg.lst (boolsOf g as bs)) :: news) → (∃ m', h.Ns C m') → RR (.ref D) C (.ok .next) { s with heap := h, toks := tk }) :
    wpAny (model prog w) A (newList []) (fun acc s₃ => wpAny (model prog w) A (newFunctionEnv scope env.globals cl [] env.qual none .none (some env)) (fun cenv s₄ =>
      codeAny (model prog w) A (.compStart (.ListComp elt [⟨.Tuple [.Name x px, .Name x₂ px₂] tk tp, iter, [], 0⟩] scope pos) 0 (.ref z) acc { cenv with scope := relabel scope env }) (RR acc cenv.locals) s₄) E s₃) E s := by
  have W := WalksT.zip2 (prog := prog) (w := w) hh z TI TO i1 i2 l1 l2 ap vs₁.toArray vs₂.toArray
  rw [show min vs₁.toArray.size vs₂.toArray.size = (as.zip bs).length by rw [List.size_toArray, List.size_toArray, hj1.length, hj2.length, List.length_zip]] at W
  have short : ∀ i, ((boolsOf g as bs).take i).length < 1000 := fun i => Nat.lt_of_le_of_lt (List.length_take_le' ..) (by rw [boolsOf_length, List.length_zip]; omega)
  refine comp_open (T := fun v C e t => codeAny (model prog w) A (.compStart (.ListComp elt [⟨.Tuple [.Name x px, .Name x₂ px₂] tk tp, iter, [], 0⟩] scope pos) 0 (.ref z) v e) (RR v C) t) hcell hkind fun h m' tk₀ up hD hC => ?_
  have G := ZOff.new F N hfp
  generalize s.heap.objs.size = D at hD hC G ⊢
  generalize D + 1 = C at hC G ⊢
  have X : ZAt h₀ L m news (ZipSt l1 l2 z TI TO i1 i2 vs₁ vs₂) D C [] 0 h :=
    { st := W.frame _ _ _ hst fun b _ => up.all b, fr := F.keeps up.all, names := ⟨m', hC⟩, made := fun p hp => (List.mem_cons.mp hp).elim (fun q => q ▸ ⟨hD, G.dl, G.d0⟩) (N.grown up.all p) }
  have start : ∀ s', s' = { s with heap := h, toks := tk₀ } → codeAny (model prog w) A (.compLoop (.ListComp elt [⟨.Tuple [.Name x px, .Name x₂ px₂] tk tp, iter, [], 0⟩] scope pos) 0 (.ref z) (.ref D) (compEnvC scope cl C env)) (RR (.ref D) C) s' := by
    intro s' e
    refine LCp.codeAny_compLoop_pair (fun k t => ∃ i h tk, i + k = (as.zip bs).length ∧ t = { s with heap := h, toks := tk } ∧ ZAt h₀ L m news (ZipSt l1 l2 z TI TO i1 i2 vs₁ vs₂) D C ((boolsOf g as bs).take i) i h) ?_ (as.zip bs).length ⟨0, h, tk₀, Nat.zero_add _, e, X⟩
    rintro k t ⟨i, h, tk, hi, rfl, X⟩
    rcases Nat.eq_zero_or_pos k with rfl | hk
    · obtain rfl : i = (as.zip bs).length := hi
      refine W.done _ _ _ X.st fun h₁ tk₁ k₁ => ?_
      have k₁ : Keep [z, TO, i1, i2] h h₁ := fun b o e n => k₁ b o n e
      rw [← boolsOf_length g, List.take_length] at X
      exact hRR D C h₁ tk₁ G (k₁.fr X.fr hLw hw0) (k₁.made X.made (G.off W.sub hnw)) (X.names.imp fun _ n => n.at' fun o e => k₁ C o e fun q => G.cf (W.sub C q))
    · refine W.item i _ _ _ (by omega) X.st fun T vals h₁ tk₁ hP _ hT hM k₁ => ?_
      obtain ⟨v₁, v₂, e₁, e₂, rfl⟩ := hP
      obtain ⟨a, ta, rfl, ha⟩ := IntsAre.at hj1 i v₁ (by simpa using e₁)
      obtain ⟨b, tb, rfl, hb⟩ := IntsAre.at hj2 i v₂ (by simpa using e₂)
      refine W.go _ _ _ i T _ _ _ hM fun h₂ st₂ k₂ => ?_
      have X₂ := X.moved G W.sub hLw hw0 hnw (fun b o e n => k₂ b o n (k₁ b o n e)) st₂
      obtain ⟨n₂, hn₂⟩ := X₂.names
      refine pair_names hh hkind hx hx₂ hxx (hT.imp fun o y => ⟨k₂ T o (W.apart _ _ _ hM) y.1, y.2⟩) hn₂ fun h₃ m₃ tk₃ k₃ hn₃ y₁ y₂ => ?_
      have X₃ := X₂.named G k₃ hn₃ (W.frame _ _ _ st₂ fun b hb o e => k₃ b o e (not_one fun q => G.cf (q ▸ hb)))
      obtain ⟨oC, hoC, hC⟩ := LCg.ns_obj hn₃
      refine wpAny_mono (turn a b ta tb C oC m₃ h₃ tk₃ _ hC y₁ y₂ X₃.fr fun p hp => (List.mem_cons.mp hp).elim (fun q => q ▸ ⟨hoC, G.cl, G.c0⟩) fun hp => X₃.made p (.tail _ hp)) ?_ fun _ _ e => e
      rintro y _ ⟨h₄, tk₄, rfl, rfl, k₄⟩
      have X₄ := X₃.grown k₄ (W.frame _ _ _ X₃.st fun b _ => k₄.all b)
      refine append_at (hsz := by rw [PySem.sizeLine_eq, List.size_toArray]; exact Nat.le_trans (Nat.le_of_lt (short i)) (by decide)) (X₄.made _ (.head _)).1 fun h₅ s₅ e₅ => ?_
      have X₅ := X₄.laid G (Keep.one s₅) (e₅.trans (congrArg some (LCg.lst_snoc _ _))) (W.frame _ _ _ X₄.st fun b hb o e => Keep.one s₅ b o e (not_one fun q => G.df (q ▸ hb)))
      rw [← boolsOf_next ha hb] at X₅
      exact ⟨k - 1, by omega, i + 1, h₅, tk₄, by omega, rfl, X₅⟩
  exact codeAny_compStart_list (start _ rfl) (W.self 0 _ _ _ X.st (start _ rfl))
def SrcZ (prog : Program) (w : World) (A : Around) (h₀ : Heap) (L : Addr) (m : Str → Option Value) (env : Env) (elt : Expr) (x x₂ : Str) (scope : Scope) (cl : List (Str × Addr)) (Q : Value → Shared → Prop) (xv : Value) (s₁ : Shared) : Prop :=
  ∃ (z TI TO i1 i2 l1 l2 : Addr) (vs₁ vs₂ : List Value) (as bs : List Int) (news : List (Addr × Obj)) (g : Int → Int → Bool), xv = .ref z ∧ A.handled = none ∧ ZipApart z TI TO i1 i2 l1 l2 ∧ ZipSt l1 l2 z TI TO i1 i2 vs₁ vs₂ 0 s₁.heap ∧ IntsAre vs₁ as ∧ IntsAre vs₂ bs ∧ as.length < 1000 ∧
    (∀ b ∈ [z, TI, TO, i1, i2, l1, l2], b < s₁.heap.objs.size) ∧ Fr h₀ L s₁.heap m ∧ News h₀ L s₁.heap news ∧ L ∉ [z, TO, i1, i2] ∧ (∀ b ∈ [z, TO, i1, i2], h₀.get? b = none) ∧ (∀ p ∈ news, p.1 ∉ [z, TO, i1, i2]) ∧
    TurnZ prog w A h₀ L m env elt x x₂ scope cl news g s₁ ∧ ∀ D h tk, Fr h₀ L h m → News h₀ L h ((D, LCg.lst (boolsOf g as bs)) :: news) → (∀ p ∈ news, p.1 < D) → Q (.ref D) { s₁ with heap := h, toks := tk }
theorem ListComp_Z {elt iter : Expr} {x x₂ : Str} {px px₂ tp : Pos} {tk : Nat} {scope : Scope} {cl : List (Str × Addr)} {pos : Pos} {Q : Value → Shared → Prop} (_F : Fr h₀ L s.heap m) (hclos : closureFor scope env = pure cl) (hcell : ∀ y ∈ scope.names, y.2 ≠ .cell) (hkind : scope.kind = .function)
    (hnames : ∀ y ∈ scope.names, y.2 = .local → scope.names.lookup y.1 = some .local) (hx : scope.names.lookup x = some .local) (hx₂ : scope.names.lookup x₂ = some .local) (hxx : x ≠ x₂) (hs : ∀ x, foldedSetIterable iter env x = pure x)
    (src : wpAny (model prog w) A (eval iter env) (SrcZ prog w A h₀ L m env elt x x₂ scope cl Q) E s) : wpAny (model prog w) A (eval (.ListComp elt [⟨.Tuple [.Name x px, .Name x₂ px₂] tk tp, iter, [], 0⟩] scope pos) env) Q E s := by
  rw [eval_ListComp]
  refine wpAny_comprehension_free (use := none) rfl hs hclos hkind hnames (wpAny_mono src ?_ fun _ _ e => e)
  rintro _ s₁ ⟨z, TI, TO, i1, i2, l1, l2, vs₁, vs₂, as, bs, news, g, rfl, hh, ap, hst, hj1, hj2, hsz, hfp, F, N, hLw, hw0, hnw, turn, fin⟩
  refine (WalksT.zip2 (prog := prog) (w := w) hh z TI TO i1 i2 l1 l2 ap vs₁.toArray vs₂.toArray).self 0 _ _ _ hst (block_Z g hh ap hst hj1 hj2 hsz hcell hkind hx hx₂ hxx hfp F N hLw hw0 hnw turn ?_)
  rintro D C h' tk' G F' N' ⟨m', n⟩
  have off : ∀ p ∈ (D, LCg.lst (boolsOf g as bs)) :: news, p.1 ∉ [C] := fun p hp => not_one ((List.mem_cons.mp hp).elim (fun e => e ▸ G.dc) (G.nc p))
  exact ⟨m', n, fun h'' sb => fin D h'' tk' ((Keep.one sb).fr F' (not_one G.cl.symm) fun b q => (List.mem_singleton.mp q) ▸ G.c0) ((Keep.one sb).made N' off) G.nd⟩
theorem zip_lt {n b l1 l2 : Nat} (h1 : l1 < n) (h2 : l2 < n) (z : b ∈ [n + 4, n + 2, n + 3, n, n + 1, l1, l2]) : b < n + 5 := by
  simp only [List.mem_cons, List.not_mem_nil, or_false] at z
  omega
theorem zip_srcZ {elt : Expr} {x x₂ : Str} {scope : Scope} {cl : List (Str × Addr)} {Q : Value → Shared → Prop} {l1 l2 : Addr} {vs₁ vs₂ : List Value} {as bs : List Int} (g : Int → Int → Bool)
    (hh : A.handled = none) (hl1 : s.heap.IsList l1 vs₁.toArray) (hl2 : s.heap.IsList l2 vs₂.toArray) (hi1 : IntsAre vs₁ as) (hi2 : IntsAre vs₂ bs) (hsz : as.length < 1000) (F : Fr h₀ L s.heap m) (N : News h₀ L s.heap news)
    (turn : TurnZ prog w A h₀ L m env elt x x₂ scope cl news g s)
    (fin : ∀ D h tk, Fr h₀ L h m → News h₀ L h ((D, LCg.lst (boolsOf g as bs)) :: news) → (∀ p ∈ news, p.1 < D) → Q (.ref D) { s with heap := h, toks := tk }) :
    wpAny (model prog w) A (call (.type "zip") [.ref l1, .ref l2]) (SrcZ prog w A h₀ L m env elt x x₂ scope cl Q) E s :=
  have le := Nat.le_trans F.above (Nat.le_of_lt F.ns.lt)
  call_zip_2 hl1 hl2 fun h' hz hTI hTO hit1 hit2 hsz' up =>
    ⟨_, _, _, _, _, l1, l2, vs₁, vs₂, as, bs, news, g, rfl, hh, zipApart_new (list_lt hl1) (list_lt hl2), ⟨hz, hTI, ⟨_, _, hTO⟩, hit1, hit2, hl1.at fun o e => up l1 o e, hl2.at fun o e => up l2 o e⟩, hi1, hi2, hsz,
      fun _ q => hsz' ▸ zip_lt (list_lt hl1) (list_lt hl2) q, F.keeps up, N.grown up, fun q => Nat.not_lt.mpr (zip_made q) F.ns.lt, fun _ q => Heap.get?_none_of_le (Nat.le_trans le (zip_made q)), fun p hp q => Nat.not_lt.mpr (zip_made q) (Heap.lt_size (N p hp).1), turn, fin⟩
end
theorem bools_all {R : List Int} (h : Rising R) : boolsOf (fun a b => decide (a < b)) R (R.drop 1) = List.replicate (R.length - 1) (.bool true) := by
  unfold boolsOf
  refine List.eq_replicate_iff.mpr ⟨by rw [List.length_map, List.length_zip, List.length_drop]; omega, fun v hv => ?_⟩
  obtain ⟨q, hq, rfl⟩ := List.mem_map.mp hv
  obtain ⟨a, b⟩ := q
  have := (zip_adj h hq).2.2
  simp [this]
local macro_rules | `(tactic| walk_at "eval ListComp") => `(tactic| (k_here; k_dflt (refine ListComp_Z (by k_asm) (by with_unfolding_all rfl) (by decide) (by rfl) (by decide) (by rfl) (by rfl) (by decide) (by intro _; rfl) ?_)))
section
variable {prog : Program} {w : World} {A : Around} {E : Value → Shared → Prop} {s : Shared} {h₀ : Heap} {L l : Addr} {m : Str → Option Value} {news : List (Addr × Obj)} {value slice : PySem.Expr} {vs : List Value} {ns : List Int} {Q : Value → Shared → Prop}
theorem slice_from1 {t : Tok} (F : Fr h₀ L s.heap m) (N : News h₀ L s.heap news) (hl : s.heap.IsList l vs.toArray) (hi : IntsAre vs ns) (hlen : ns.length < 1000)
    (h : ∀ D ws h', Fr h₀ L h' m → News h₀ L h' ((D, listOf (List.toArray ws) 0) :: news) → (∀ p ∈ news, p.1 < D) → IntsAre ws (ns.drop 1) → Q (.ref D) { s with heap := h' })
    (hs : subscripted slice false (.ref l) (.ref s.heap.objs.size) = operate [.ref s.heap.objs.size, .ref l] (getItem (.ref l) (.ref s.heap.objs.size))) (ht : ∀ r, letTemporaryGo value (.ref l) r = pure ()) :
    wpAny (model prog w) A (subscriptTail value slice (.ref l) (.ref s.heap.objs.size)) Q E { s with heap := s.heap.push { cls := .type "slice", data := .fields #[.int 1 t, .none, .none] } } :=
  kmk_slice_ints F N hl (IsPart.int 1 t) IsPart.none hi (kmk_from hi (by decide)) rfl (fun D ws h' F' N' l1 i _ _ => h D ws h' F' N' l1 i) hs ht (ints_small hi (by omega))
end
local macro_rules | `(tactic| walk_at "subscriptTail Name Slice ref ref") => `(tactic| (k_here; (with_reducible show wpAny _ _ (subscriptTail _ (PySem.Expr.Slice (some _) none none _) (Value.ref _) (Value.ref _)) _ _ _); k_dflt (refine' slice_from1 ?F ?N ?l ?i ?z ?_ ?s ?t; (case F => k_asm); (case N => k_asm); (case l => walk_at "mine list"); (case i => with_reducible assumption); (case z => (rw [shortsOf_length]; omega)); (case s => with_unfolding_all rfl); (case t => kmk_pure)); intro D' ws' h' F' N' l1 hI'; (try k_lt l1); (try k_sweep)))
theorem bools_canLay : ∀ n : Nat, PyData.canLayAll0 (List.replicate n (PyData.bool true)) = true
  | 0 => by simp [PyData.canLayAll0]
  | n + 1 => by simp [List.replicate_succ, PyData.canLayAll0, PyData.canLay0, bools_canLay n]
theorem bools_depth : ∀ n : Nat, PyData.depthAll (List.replicate n (PyData.bool true)) ≤ 1
  | 0 => by simp [PyData.depthAll]
  | n + 1 => by
    have := bools_depth n
    simp only [List.replicate_succ, PyData.depthAll, PyData.depth]
    omega
theorem bools_shaped (n : Nat) : SeqAt.shaped (.list (List.replicate n (PyData.bool true))) = true := by
  have h1 := bools_depth n
  have h2 : PyData.depth (.list (List.replicate n (PyData.bool true))) ≤ 64 := by simp only [PyData.depth]; omega
  show (PyData.canLay0 (.list (List.replicate n (PyData.bool true))) && decide (PyData.depth (.list (List.replicate n (PyData.bool true))) ≤ 64)) = true
  rw [Bool.and_eq_true]
  exact ⟨by simp only [PyData.canLay0]; exact bools_canLay n, decide_eq_true h2⟩
theorem bools_noMix : ∀ n : Nat, SeqAt.noMixAll (List.replicate n (PyData.bool true)) (List.replicate n (PyData.bool true)) = true
  | 0 => by simp [SeqAt.noMixAll]
  | n + 1 => by simp [List.replicate_succ, SeqAt.noMixAll, SeqAt.noMix, bools_noMix n]
theorem bools_same : ∀ n : Nat, PySem.Spec.sameAll (List.replicate n (PyData.bool true)) (List.replicate n (PyData.bool true)) = true
  | 0 => by simp [PySem.Spec.sameAll]
  | n + 1 => by simp [List.replicate_succ, PySem.Spec.sameAll, PySem.Spec.same, bools_same n]
theorem bools_reads {h : Heap} : ∀ n : Nat, ReadsAll h (List.replicate n (.bool true)) (List.replicate n (PyData.bool true)) []
  | 0 => .nil
  | n + 1 => by
    have := ReadsAll.cons (Reads.bool (h := h) true) (bools_reads (h := h) n)
    simpa [List.replicate_succ] using this
theorem bools_read {h : Heap} {a : Addr} {n : Nat} (hl : h.IsList a (List.replicate n (Value.bool true)).toArray) : Reads h (.ref a) (.list (List.replicate n (PyData.bool true))) [a] := by
  obtain ⟨o, ho, hc, k, hd⟩ := hl
  exact Reads.list ho hc hd (by simpa using bools_reads n)
theorem ne_bools {prog : Program} {w : World} {A : Around} {E : Value → Shared → Prop} {s : Shared} {a b : Addr} {n : Nat} {Q : Value → Shared → Prop} (hl : s.heap.IsList a (List.replicate n (Value.bool true)).toArray) (hl' : s.heap.IsList b (List.replicate n (Value.bool true)).toArray) (hu : A.units + 64 < cLine)
    (h : Q (.bool false) s) : wpAny (model prog w) A (compareOp .NotEq (.ref a) (.ref b)) Q E s :=
  ne_dataH_same (bools_read hl) (bools_read hl') (bools_shaped n) (bools_shaped n) hu (by simp only [SeqAt.noMix]; exact bools_noMix n) (by simp only [PySem.Spec.same]; rw [bools_same]; exact h)
theorem ne_boolsM {prog : Program} {w : World} {A : Around} {E : Value → Shared → Prop} {s : Shared} {a b : Addr} {n : Nat} {k : Int} {Q : Value → Shared → Prop} (hl : s.heap.IsList a (List.replicate n (Value.bool true)).toArray) (hl' : s.heap.IsList b (List.replicate k.toNat #[Value.bool true].toList).flatten.toArray) (hk : k.toNat = n) (hu : A.units + 64 < cLine)
    (h : Q (.bool false) s) : wpAny (model prog w) A (compareOp .NotEq (.ref a) (.ref b)) Q E s := by
  have e : (List.replicate k.toNat #[Value.bool true].toList).flatten = List.replicate n (Value.bool true) := by rw [hk]; simp
  rw [e] at hl'
  exact ne_bools hl hl' hu h
local macro_rules | `(tactic| walk_at "compareOp NotEq ref ref") => `(tactic| k_extra "ne")

theorem at_main : True := by
  w_top off
  k_with_none
  trivial
theorem apart_step {h₀ h : Heap} {L : Addr} {news l ex ex' : List (Addr × Obj)} (x : ∀ p ∈ ex', p.1 ∈ ex.map (·.1) ∨ h.get? p.1 = none) (N : News h₀ L h news) (sub : ∀ p ∈ l, p ∈ news) (a : Apart ex l) : Apart ex' l :=
  a.more x fun p hp => (N p (sub p hp)).1
def TurnEnd (H h₀ : Heap) (L : Addr) (m : Str → Option Value) (led : List (Addr × Obj)) (a₀ b₀ : Option Addr) (its : List (Addr × Obj)) (s : Shared) (f : Flow) (s₂ : Shared) : Prop :=
  f = .next ∧ ∃ h' tk' a' b' ex', s₂ = { s with heap := h', toks := tk' } ∧ Fr h₀ L h' m ∧ News h₀ L h' (led ++ (66, tabObj (tabOf 85 4 a')) :: (73, tabObj (tabOf 100 4 b')) :: ex') ∧ TabP H h₀ a₀ b₀ a' b' ex' ∧ Apart ex' its
theorem loop_tabsL {prog : Program} {w : World} {A : Around} {E : Value → Shared → Prop} {s : Shared} {env : Env} {h₀ H : Heap} {x : Str} {body : List Stmt} {Q : Flow → Shared → Prop}
    {ax : Addr} {vs : List Value} {ns : List Int} {n : Nat} {m₀ : Str → Option Value} {news loc ex : List (Addr × Obj)} {a₀ b₀ a b : Option Addr}
    (hh : A.handled = none) (F : Fr h₀ env.locals s.heap m₀) (N : News h₀ env.locals s.heap ((ax, listOf vs.toArray n) :: news)) (hi : IntsAre vs ns) (S : LocS ((66, tabObj (tabOf 85 4 a)) :: (73, tabObj (tabOf 100 4 b)) :: ex) news loc) (W : TabP H h₀ a₀ b₀ a b ex)
    (turn : ∀ k t it I h tk a b ex, k ∈ ns → it.cls = .type "list_iterator" → (∀ p ∈ loc, p.1 < I) → TabP H h₀ a₀ b₀ a b ex → Apart ex [(I, it), (ax, listOf vs.toArray n)] → Fr h₀ env.locals h (fun y => if y = x then some (.int k t) else m₀ y) →
      News h₀ env.locals h ((I, it) :: (ax, listOf vs.toArray n) :: (loc ++ (66, tabObj (tabOf 85 4 a)) :: (73, tabObj (tabOf 100 4 b)) :: ex)) → ((@Ne Nat I 66) ∧ (@Ne Nat I 73) ∧ (@Ne Nat ax 66) ∧ (@Ne Nat ax 73)) →
      wpAny (model prog w) A (execs body env) (TurnEnd H h₀ env.locals (fun y => if y = x then some (.int k t) else m₀ y) ((I, it) :: (ax, listOf vs.toArray n) :: loc) a₀ b₀ [(I, it), (ax, listOf vs.toArray n)] s) E { s with heap := h, toks := tk })
    (done : ∀ u h tk p q, Fr h₀ env.locals h (fun y => if y = x then u else m₀ y) → News h₀ env.locals h [(66, tabObj p), (73, tabObj q)] → Q .next { s with heap := h, toks := tk }) :
    wpAny (model prog w) A (pyIter (.ref ax)) (fun it s₂ => LoopAtV prog w A h₀ env x body Q E it s₂) E s := by
  rw [S.eq] at N
  exact loop_tabs hh hi F N W turn done
set_option maxHeartbeats 8000000 in
theorem law_holds : PySem.Challenge.rw_wf0065_01.Holds := hd (by
  k_with_none
  k_go0
  all_goals try k_fold
  (rename News _ _ _ [_, _] => nw0)
  have nw1 := tabs_init nw0
  have W0 := tabP_triv nw0
  clear nw0
  have hMk := kstMark
  have hrl : recursionLimit = 1000 := rfl
  have hcl : cLine = 9900 := rfl
  (rename IntsAre _ _ => hS)
  have hGd := law_good hS
  have hE3 := law_evens hS
  have hO3 := law_odds hS
  have hN6 := law_num6 hS
  have hAs := law_asked hS
  k_with "mine call" => (k_dflt (refine' nodeC ?nodeC_H ?nodeC_t1 ?nodeC_t2 ?nodeC_hl ?nodeC_hi ?nodeC_hlen ?nodeC_hk0 ?_; (case nodeC_H => walk_at "mine here"); (case nodeC_t1 => walk_at "mine tab1"); (case nodeC_t2 => walk_at "mine tab2"); (case nodeC_hl => walk_at "mine list"); (case nodeC_hi => l_ints); (case nodeC_hlen => walk_at "mine fact"); (case nodeC_hk0 => walk_at "mine fact"); k_whole); intro r9 rm9 rs9 vm9 vx9 nm9 nx9 tf9 to9 h9 tk9 kp9 tb9 fr9 fm9 fs9 gt9 gm9 im9 gs9 ix9; (try dsimp only at kp9); (try dsimp only at tb9); (try dsimp only at fr9); (try dsimp only at fm9); (try dsimp only at fs9); (refine' tabs_elim ?nodeC_zW ?nodeC_zF ?nodeC_zN ?nodeC_zS kp9 tb9 ?_; (case nodeC_zF => k_asm); (case nodeC_zN => k_asm); (case nodeC_zS => walk_at "mine loc"); (case nodeC_zW => assumption)); clear kp9 tb9; intro a9 b9 ex9 F9 N9 W9 X9 Z9; (have M1 := tabs_new (by k_asm) N9 fs9 gs9); (have M2 := tabs_new (by k_asm) M1 fm9 gm9); (have M3 := tabs_new (by k_asm) M2 fr9 gt9); clear N9 M1 M2 Z9 fr9 fm9 fs9 gt9 gm9 gs9; (try simp only [List.cons_append, List.nil_append] at M3); walk_at "mine apart"; (try k_sweep); (try dsimp only); (try k_fold))
  k_with "mine call" => (k_dflt (refine' rowG ?rowG_H ?rowG_hl ?rowG_hi ?rowG_hlen ?rowG_Gd ?_; (case rowG_H => walk_at "mine here"); (case rowG_hl => walk_at "mine list"); (case rowG_hi => l_ints); (case rowG_hlen => walk_at "mine fact"); (case rowG_Gd => assumption); k_whole); intro zR r9 vs9 n9 h9 tk9 zGd zLen zM0 zRs k9 f9 g9 i9; obtain ⟨zL6, zL3⟩ := zLen; walk_at "mine new")
  k_with "mine call" => (k_dflt (refine' foundC ?foundC_H ?foundC_t1 ?foundC_t2 ?foundC_im ?foundC_ix ?foundC_ir ?foundC_Gd ?foundC_q0 ?foundC_q43 ?_; (case foundC_H => walk_at "mine here"); (case foundC_t1 => walk_at "mine tab1"); (case foundC_t2 => walk_at "mine tab2"); (case foundC_im => l_ints); (case foundC_ix => l_ints); (case foundC_ir => l_ints); (case foundC_Gd => assumption); (case foundC_q0 => walk_at "mine fact"); (case foundC_q43 => walk_at "mine fact"); k_whole); intro h9 tk9 k9 tb9; walk_at "mine tabs")
  k_with "exec For Name BinOp cons nil" => (k_here; (rename Fr _ _ _ _ => lF'); (with_unfolding_all refine' For_invVF lF' ?execForN_k1 ?execForN_k2 ?_; (case execForN_k1 => exact rfl); (case execForN_k2 => exact rfl); k_whole))
  k_with "mine fact" => first | assumption | (simp only [List.length_append, List.length_cons, List.length_nil]; omega)
  k_with "mine inner" => (k_dflt (refine' ltC ?H ?_; (case H => walk_at "mine here"); k_whole); intro zh9 ztk9 zk9; exact ⟨_, _, rfl, rfl, zk9⟩)
  k_with "zip" => (k_dflt ((refine' zip_srcZ (fun a b => decide (a < b)) rfl ?l1 ?l2 ?i1 ?i2 ?sz ?F ?N ?turn ?fin); (case l1 => walk_at "mine list"); (case l2 => walk_at "mine list"); (case i1 => l_ints); (case i2 => l_ints); (case sz => (rw [shortsOf_length]; omega)); (case F => k_asm); (case N => k_asm); (case' turn => ((unfold TurnZ); intro za zb zta ztb zC zoC zm zh ztk zE zNs zx1 zx2 zF zN)); (case' fin => (intro zD zh ztk zF zN zl; (rw [bools_all (by assumption : Rising (shortsOf _)), shortsOf_length] at zN); (try k_lt zl)))))
  k_with "ne" => (k_dflt (refine' ne_boolsM ?nel ?nem ?nek ?neu ?_; (case nel => exact News.isList (by k_asm) (by k_mem)); (case nem => assumption); (case nek => omega); (case neu => (simp only [units_in1, units_deeper, Around.mark_units, units_caller]; omega)); k_whole))
  k_with "apart" => (rename ∀ p ∈ _, _ ∨ _ => x9; have zA9 := apart_step x9 (by k_asm) (List.forall_mem_cons.mpr ⟨by k_mem, List.forall_mem_cons.mpr ⟨by k_mem, List.forall_mem_nil _⟩⟩) zA; clear x9)
  k_with "pyIter ref" => (k_dflt (refine Stop.of ?_))
  k_steps
  · refine Stop.intro ?_
    k_dflt (refine' loop_tabsL ?lth ?ltF ?ltN ?lti ?ltS ?ltW ?ltt ?ltd)
    case lth => exact rfl
    case ltF => k_asm
    case ltN => k_asm
    case lti => l_ints
    case ltS => walk_at "mine loc"
    case ltW => assumption
    case ltt =>
      intro zk zt zit zI zh ztk za zb zex zmem zcls zlt zW zA zF zN zne
      (try k_lt zlt)
      (simp only [List.cons_append, List.nil_append] at zN)
      obtain ⟨zf0, zf1, zf2, zf3⟩ := turn_facts (by assumption) (hAs _ zmem).1 (hAs _ zmem).2
      k_steps
      · exact ⟨rfl, _, _, _, _, _, rfl, by k_asm, by k_asm, by assumption, by assumption⟩
    intro zu zh ztk zp zq zF zN
    k_steps
  all_goals exact (fun a b => (0 : Int)))

end Mine
theorem PySem.Challenge.cw_wf0065_01_holds : PySem.Challenge.rw_wf0065_01.Holds :=
  Mine.law_holds
