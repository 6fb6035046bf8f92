import PyProof.Rows.All
import Wide.All
import OpenK.AllK
import Wide.FinOn
import PySem.Challenge.RW_ez0423_01
set_option rowWalk.seconds 0
section
open PySem PySem.W PyProof.Rows
set_option Elab.async false
namespace Et
set_option maxRecDepth 100000 in
set_option maxHeartbeats 8000000 in
open_top hd for PySem.Challenge.rw_ez0423_01
end Et
end
section
open PySem PySem.W PySem.Calls PyProof.Rows
set_option Elab.async false
set_option maxRecDepth 100000
namespace Et

/-- what a call leaves as it was: all but the places named -/
structure After (as : List Addr) (s s' : Shared) : Prop where
  gens : s'.gens = s.gens
  os : s'.os = s.os
  keep : ∀ b o, b ∉ as → s.heap.get? b = some o → s'.heap.get? b = some o

theorem After.refl (as : List Addr) (s : Shared) : After as s s := ⟨rfl, rfl, fun _ _ _ e => e⟩
theorem After.trans {as : List Addr} {s s' s'' : Shared} (x : After as s s') (y : After as s' s'') : After as s s'' :=
  ⟨y.gens.trans x.gens, y.os.trans x.os, fun b o n e => y.keep b o n (x.keep b o n e)⟩

/-- the end of a callee's body: its frame over the heap g, and what it hands back -/
def End (g : Heap) (P : Value → Shared → Prop) (v : Value) (s' : Shared) : Prop := ∃ L' m', Fr g L' s'.heap m' ∧ P v s'

section
variable {prog : Program} {w : World} {A₀ A : Around} {s : Shared} {base h₀ : Heap} {outer : List Env} {L : Addr} {m : Str → Option Value} {env : Env} {news : List (Addr × Obj)} {K : Frag}
  {P : Value → Shared → Prop} {name qual : Str} {params : Arguments} {body : List Stmt} {scope : Scope} {dV kV doc pm cdv ct oc : Value} {an od : Option Addr} {osl : Array (Option Value)} {f : Addr} {args : Args} {binds : List (Str × Value)}
  {p : Program} {loose : List Str} {mean : ExcName → Option Value} {mg mb : Str → Option Value}

theorem enterG (B : Below A₀ base outer h₀) (F : Fr h₀ L s.heap m) (X₀ : K.In h₀) (N : News h₀ L s.heap news) (T : Top p loose mean mg mb h₀) (hA : A.frames = some (env :: outer)) (hf : env.frame = some L) (hke : env.scope.kind = .function)
    (ho : K.lookup f = some ⟨oc, od, .func (fnOf name qual params body scope dV kV doc pm an cdv ct), osl⟩) (hcd : codeIn K cdv qual = true) (hroom : A.depth < recursionLimit)
    (hbind : BindsTo s (fnOf name qual params body scope dV kV doc pm an cdv ct) args binds) (hloc : ∀ y ∈ binds, scope.names.lookup y.1 = some .local)
    (h : ∀ g L' h₁, g = hideAll s.heap (news.map (·.1)) → Fr g L' h₁ (fun y => binds.reverse.lookup y) → News g L' h₁ news → Below A base (env :: outer) g → K.In g → Top p loose mean mg mb g →
      wpAny (model prog w) (A.deeper (envOf qual scope L' f cdv)) (execs body (envOf qual scope L' f cdv))
        (fun fl s' => End g P (match fl with | .ret v => v | _ => .none) s')
        (fun _ _ => False)
        { s with heap := h₁, toks := s.toks + binds.length })
    (hco : scope.isCoroutine = false) (hgen : scope.isGenerator = false) (hk : scope.kind = .function)
    (hcell : ∀ x ∈ scope.names, x.2 ≠ .cell) :
    codeAny (model prog w) A (.call (.ref f) args) (fun r s' => match r with
      | .ok (.ret v) => (∀ b o, b ∉ news.map (·.1) → s.heap.get? b = some o → s'.heap.get? b = some o) ∧ P v s'
      | _ => False) s := by
  have hgr : ∀ R : Result → Shared → Prop, _ := fun R => groundX (R := R) B F N hA hf hke
  obtain ⟨FG, BG, st, _⟩ := hgr (fun _ _ => True)
  refine codeAny_call_def (fd := fnOf name qual params body scope dV kV doc pm an cdv ct) (body := body) (binds := binds) hroom ((X₀.keeps F.keep) _ _ ho) rfl (T.nolimit.keeps F.keep) (codeRec_of (X₀.keeps F.keep) hcd) rfl hbind hcell hloc (fun h₁ hns hk₁ => ?_) hco hgen hk
  refine wpAny_mono (h _ s.heap.objs.size h₁ rfl ⟨hns, fun b o e => hk₁ b o (of_hideAll _ e), Nat.le_of_eq (hideAll_size _ _)⟩
    (fun p hp => ⟨hk₁ _ _ (N p hp).1, Nat.ne_of_lt (Heap.lt_size (N p hp).1), hideAll_none _ (List.mem_map_of_mem hp)⟩) BG (X₀.keeps st) (T.keeps st)) (fun fl s' hl => ?_) fun _ _ y => y.elim
  obtain ⟨L', m', F', hp⟩ := hl
  exact ⟨fun b o hn e => F'.keep b o (hideAll_get _ e hn), hp⟩
end

/-- the frame about a call: what every contract asks of its caller -/
abbrev top (dp un : Nat) (gd : Option (List Code)) (cn : Str) (cs : Scope) (L a : Addr) (ccd : Value) (cl : List (Str × Addr)) (outer : List Env) : Around :=
  { handled := none, depth := dp, frames := some (envX cn cs L a ccd cl :: outer), guards := gd, units := un }


abbrev stO (nums : Addr) (at_ : Int) (t : Tok) (e : Nat) : Obj := { cls := .type "list", data := .seq #[.ref nums, .int at_ t] e }
end Et
end
section
open PySem PySem.W PySem.Calls PyProof.Rows
set_option Elab.async false
theorem Et.fresh_2 {M : Model} {A : Around} {E : Value → Shared → Prop} {s : Shared} {env : Env} {Q : Flow → Shared → Prop} (h : Q .next s) : wpAny M A (execs [] env) Q E s := by
  w_top off
  first | (walk1; exact h) | exact wpAny_execs_nil h
set_option maxRecDepth 100000
namespace Et
theorem fdiv_nonneg' {a b : Int} (ha : 0 ≤ a) (hb : 0 ≤ b) : 0 ≤ a.fdiv b := by
  rw [Int.fdiv_eq_ediv_of_nonneg _ hb]; exact Int.ediv_nonneg ha hb
theorem fdiv_le' {a b : Int} (ha : 0 ≤ a) (hb : 0 ≤ b) : a.fdiv b ≤ a := by
  rw [Int.fdiv_eq_ediv_of_nonneg _ hb]; exact Int.ediv_le_self _ ha
theorem fmod_at {a : Int} {n : Nat} (_ha : 0 ≤ a) (hn : 0 < n) : 0 ≤ a.fmod n ∧ a.fmod n < n := by
  rw [Int.fmod_eq_emod_of_nonneg _ (by omega)]
  exact ⟨Int.emod_nonneg _ (by omega), Int.emod_lt_of_pos _ (by omega)⟩
theorem fmod_pos' (a : Int) {b : Int} (hb : 0 < b) : 0 ≤ a.fmod b ∧ a.fmod b < b := by
  rw [Int.fmod_eq_emod_of_nonneg _ (by omega)]
  exact ⟨Int.emod_nonneg _ (by omega), Int.emod_lt_of_pos _ hb⟩
theorem IntsAre.get {vs : List Value} {ns : List Int} (hi : IntsAre vs ns) : ∀ i, i < vs.length → ∃ n t, vs[i]? = some (.int n t) ∧ n ∈ ns := by
  induction hi with
  | nil => intro i h; exact absurd h (Nat.not_lt_zero _)
  | cons n t hr ih =>
    intro i h
    cases i with
    | zero => exact ⟨n, t, rfl, .head _⟩
    | succ i =>
      obtain ⟨n', t', e, hm⟩ := ih i (by simpa using h)
      exact ⟨n', t', by simpa using e, .tail _ hm⟩

theorem len_step {prog : Program} {w : World} {A : Around} {E : Value → Shared → Prop} {s : Shared} {g : Heap} {L l : Addr} {m : Str → Option Value} {vs : List Value} {Q : Value → Shared → Prop} (F : Fr g L s.heap m) (hl : g.IsList l vs.toArray) (hn : vs.length ≤ 100)
    (h : Q (.int vs.length (s.toks + 1)) { s with toks := s.toks + 1 + 1 }) : wpAny (model prog w) A (call (.builtin "len") [.ref l]) Q E s :=
  len_list (Fr.lst F hl) (by simp only [List.size_toArray]; omega) (by simpa using h)
theorem item_step {prog : Program} {w : World} {A : Around} {E : Value → Shared → Prop} {s : Shared} {g : Heap} {L l : Addr} {m : Str → Option Value} {vs : List Value} {ns : List Int} {k : Int} {u : Tok} {value slice : Expr} {Q : Value → Shared → Prop}
    (F : Fr g L s.heap m) (hl : g.IsList l vs.toArray) (hi : IntsAre vs ns) (hn : vs.length ≤ 100) (hk : 0 ≤ k ∧ k < vs.length)
    (h : ∀ n t, n ∈ ns → Q (.int n t) s)
    (hs : subscripted slice false (.ref l) (.int k u) = operate [.ref l, .int k u] (getItem (.ref l) (.int k u)) := by with_unfolding_all rfl) :
    wpAny (model prog w) A (subscriptTail value slice (.ref l) (.int k u)) Q E s := by
  obtain ⟨n, t, e, hm⟩ := IntsAre.get hi k.toNat (by omega)
  have hL := Fr.lst F hl
  exact tail_any hL.typeIs slot_list_getitem.lookup (wpAny_getItem_list hL hk.1 (by omega) (by simpa using e) (h n t hm)) hs

local macro_rules | `(tactic| walk_at "call builtin:len") => `(tactic| (k_here; refine len_step (by assumption) (by assumption) (by assumption) ?_))
local macro_rules | `(tactic| walk_at "binaryOp FloorDiv int int") => `(tactic| (k_here; refine floordiv_int (by omega) ?_ (Or.inl (PyProof.noPylong_small (by omega)))))
local macro_rules | `(tactic| walk_at "binaryOp Mod int int") => `(tactic| (k_here; refine mod_int' (by omega) ?_))
local macro_rules | `(tactic| walk_at "subscriptTail Name BinOp") => `(tactic| (k_here; refine item_step (by assumption) (by assumption) (by assumption) (by assumption) (by assumption) ?_; intro nn tt hnn; have hnb := hall nn hnn))
set_option maxHeartbeats 8000000 in
theorem next_c {w : World} {dp un : Nat} {gd : Option (List Code)} {cn : Str} {cs : Scope} {L a : Addr} {ccd : Value} {cl : List (Str × Addr)} {outer : List Env}
    {A₀ : Around} {base h₀ : Heap} {m : Str → Option Value} {s : Shared} {p : Program} {loose : List Str} {mean : ExcName → Option Value} {mg mb : Str → Option Value}
    {st nums : Addr} {at_ : Int} {ta : Tok} {e : Nat} {vs : List Value} {ns : List Int} {many : Int} {tm : Tok}
    (B : Below A₀ base outer h₀) (F : Fr h₀ L s.heap m) (X : (Et.hd.heap_39 w.params).In h₀) (T : Top p loose mean mg mb h₀) (hk : cs.kind = .function)
    (hst : s.heap.get? st = some (stO nums at_ ta e)) (hstL : st ≠ L) (hst0 : h₀.get? st = none) (hnums : s.heap.IsList nums vs.toArray) (hns : st ≠ nums) (hi : IntsAre vs ns)
    (hn : 0 < vs.length) (hn2 : vs.length ≤ 100) (hall : ∀ n ∈ ns, 0 ≤ n ∧ n < 10000000) (ha : 0 ≤ at_) (ha2 : at_ < 100000) (hm : 0 < many) (hm2 : many < 100)
    (hd : dp + 20 < 1000) (hu : un + 100 < cLine) :
    wpAny (model PySem.Challenge.rw_ez0423_01.row.prog w) (top dp un gd cn cs L a ccd cl outer) (call (.ref 178) [.ref st, .int many tm])
      (fun r s' => After [st] s s' ∧ s'.drawn = s.drawn ∧ ∃ k t t' e', r = .int k t ∧ 0 ≤ k ∧ k < many ∧ s'.heap.get? st = some (stO nums (at_ + 1) t' e')) (fun _ _ => False) s := by
  revert X; k_fill; intro X
  have N : News h₀ L s.heap [(st, stO nums at_ ta e)] := fun p hp => by
    rcases List.mem_singleton.mp hp with rfl; exact ⟨hst, hstL, hst0⟩
  refine wpAny_call ?_
  refine codeAny_mono (R := fun r s' => match r with
      | .ok (.ret v) => (∀ b o, b ∉ [(st, stO nums at_ ta e)].map (·.1) → s.heap.get? b = some o → s'.heap.get? b = some o) ∧ (s'.gens = s.gens ∧ s'.os = s.os ∧ s'.drawn = s.drawn ∧ ∃ k t t' e', v = .int k t ∧ 0 ≤ k ∧ k < many ∧ s'.heap.get? st = some (stO nums (at_ + 1) t' e'))
      | _ => False) ?_ (fun r s' h => ?_)
  · k_dflt (refine' enterG ?k1 ?k2 ?k3 ?k4 ?k5 ?kA ?kF ?kK ?k6 ?k7 ?k8 ?k9 ?kB ?_ ?c2 ?c3 ?c4 ?c5; (case kA => exact rfl); (case kF => exact rfl); (case kK => assumption); (case k1 => k_asm); (case k2 => k_asm); (case k3 => k_asm); (case k4 => k_asm); (case k5 => k_asm); (case k6 => k_is); (case k7 => k_is); (case k8 => (simp only [recursionLimit]; omega)); (case k9 => exact BindsTo.of_eq rfl); (case c5 => decide); (case kB => exact locs rfl); (case c2 => exact rfl); (case c3 => exact rfl); (case c4 => exact rfl); k_whole)
    intro g L' h' hg F' N' B' X' T'
    dsimp only
    show wpAny _ _ _ _ _ _
    have hg1 : g.IsList nums vs.toArray := by
      obtain ⟨o, ho, r⟩ := hnums
      refine ⟨o, ?_, r⟩
      rw [hg]
      exact hideAll_get _ ho (by simpa using fun h => hns h.symm)
    have q1 := fdiv_nonneg' (a := at_) (b := vs.length) ha (by omega)
    have q2 := fdiv_le' (a := at_) (b := vs.length) ha (by omega)
    have q3 := fmod_at (a := at_) (n := vs.length) ha hn
    clear hg hnums B F T N X hst hst0 hstL

    try k_fold
    k_steps

    exact ⟨_, _, by assumption, rfl, rfl, rfl, _, _, _, _, rfl, (fmod_pos' _ hm).1, (fmod_pos' _ hm).2, News.get (by assumption) (by k_mem)⟩
  · split at h
    · exact ⟨⟨h.2.1, h.2.2.1, fun b o n => h.1 b o (by simpa using n)⟩, h.2.2.2⟩
    · exact h.elim
end Et
end
section
set_option maxRecDepth 100000
namespace Et
open PySem PySem.Sre

/-- the pattern's words -/
def etCode : Array Nat := #[14, 4, 0, 1, 4294967295, 24, 11, 0, 4294967295, 13, 6, 16, 32, 16, 9, 0, 1, 23, 16, 0, 1, 17, 0, 13, 6, 16, 87, 16, 119, 0, 16, 47, 17, 1, 18, 7, 18, 16, 34, 17, 2, 24, 6, 0, 4294967295, 20, 34, 1, 17, 3, 16, 34, 15, 27, 25, 17, 4, 24, 17, 1, 4294967295, 13, 12, 21, 9, 512, 4101, 0, 0, 0, 0, 0, 0, 0, 1, 17, 5, 15, 2, 0, 24, 11, 0, 4294967295, 13, 6, 16, 32, 16, 9, 0, 1, 7, 5, 16, 44, 15, 7, 5, 6, 7, 15, 2, 0, 1]

/-! a small matcher of our own for this very pattern: its places are the pattern's, its text is one item -/
structure Kp where
  lm : Int := -1
  li : Int := -1
  whole : Bool := false
  mks : List (Option Nat) := []
structure Fk where
  wait : Wait
  pc : Nat
  pos : Nat
  count : Int := 0
  kept : Kp := {}
  began : Option Nat := none
structure S where
  pc : Nat
  pos : Nat
  hd : Nat
  mks : List (Option Nat)
  lm : Int := -1
  li : Int := -1
  lp : Option (Int × Option Nat) := none
  inr : Bool := false
  fr : List Fk := []
  w : Nat := 0
  ans : Option Bool := none
  out : Option Bool := none

def sp (c : Nat) : Bool := c == 32 || c == 9
def notSyn (c : Nat) : Bool := !(c == 9 || c == 32 || c == 34 || c == 44)
/-- the four stars: least, the place behind, what they take -/
def star? : Nat → Option (Nat × Nat × (Nat → Bool))
  | 5 => some (0, 17, sp)
  | 41 => some (0, 48, fun c => c != 34)
  | 57 => some (1, 75, notSyn)
  | 80 => some (0, 92, sp)
  | _ => none
/-- one sign: what it takes, the place behind -/
def one? : Nat → Option ((Nat → Bool) × Nat)
  | 23 => some ((fun c => c == 87 || c == 119), 30)
  | 30 => some ((fun c => c == 47), 32)
  | 37 => some ((fun c => c == 34), 39)
  | 50 => some ((fun c => c == 34), 52)
  | 94 => some ((fun c => c == 44), 96)
  | _ => none
def mark? : Nat → Option Nat
  | 21 => some 0 | 32 => some 1 | 39 => some 2 | 48 => some 3 | 55 => some 4 | 75 => some 5
  | _ => none
def jump? : Nat → Option Nat
  | 52 => some 80 | 77 => some 80 | 96 => some 104 | 101 => some 104
  | _ => none
def alt? : Nat → Option Nat
  | 36 => some 18 | 54 => some 25 | 79 => some 0 | 93 => some 5 | 98 => some 5 | 103 => some 0
  | _ => none

def S.say (f : S) (b : Bool) : S := { f with ans := some b }
def S.keep (f : S) (whole : Bool) : Kp := { lm := f.lm, li := f.li, whole, mks := if whole then f.mks.take (f.lm + 1).toNat else [] }
def S.back (f : S) (k : Kp) : S := { f with lm := k.lm, li := k.li, mks := if k.whole then k.mks ++ f.mks.drop k.mks.length else f.mks }
def S.go (f : S) (k : Fk) (pc pos : Nat) : Option S :=
  if f.w + 1 + k.kept.mks.length > 16777216 then none else
  some { f with fr := k :: f.fr, w := f.w + 1 + k.kept.mks.length, pc, pos, hd := pos }
def S.alt (f : S) (a : Nat) (k : Kp) : Option S :=
  match alt? a with
  | none => none
  | some 0 => some (f.say false)
  | some _ => f.go { wait := .nextBranch, pc := a, pos := f.pos, kept := k } (a + 1) f.pos
def clearTo (lm : Int) (n : Nat) (mks : List (Option Nat)) : List (Option Nat) := (List.range n).foldl (fun (a : List (Option Nat)) (j : Nat) => if (j : Int) > lm then a.set j none else a) mks
def S.mark (f : S) (i : Nat) : S :=
  { f with mks := (if (i : Int) ≤ f.lm + 1 then f.mks else clearTo f.lm i f.mks).set i (some f.pos), lm := max f.lm i, li := if i % 2 == 1 then (i / 2 + 1 : Nat) else f.li, pc := f.pc + 2 }
def taken (P : Nat → Bool) (t : List Nat) (p : Nat) : Nat := ((t.drop p).takeWhile P).length
def S.tail (f : S) (count : Int) : Option S :=
  { f with inr := false }.go { wait := .maxTail, pc := f.pc, pos := f.pos, count, kept := f.keep false } f.pc f.pos

def S.exec (t : List Nat) (ex : Bool) (f : S) : Option S :=
  match star? f.pc with
  | some (least, next, P) =>
    if least + f.pos > t.length then (if ex then some (f.say false) else none) else
    let n := taken P t f.pos
    if !ex && decide (f.pos + n ≥ t.length) then none else
    if n < least then some (f.say false) else
    { f with pos := f.pos + n }.go { wait := .giveBack, pc := f.pc, pos := f.pos + n, count := n, kept := f.keep f.inr } next (f.pos + n)
  | none =>
  match one? f.pc with
  | some (P, next) =>
    if f.pos < t.length then
      if P (t.getD f.pos 0) then some { f with pc := next, pos := f.pos + 1 } else some (f.say false)
    else if ex then some (f.say false) else none
  | none =>
  match mark? f.pc with
  | some i => some (f.mark i)
  | none =>
  match jump? f.pc with
  | some j => some { f with pc := j }
  | none =>
  if f.pc = 17 then
    match f.lp, f.inr with
    | none, false => { f with lp := some (-1, none), inr := true }.go { wait := .closeLoop, pc := 17, pos := f.pos } 34 f.pos
    | _, _ => none
  else if f.pc = 34 then
    match f.lp, f.inr with
    | some (c, b), true =>
      if c + 1 < 0 then none else
      let f := { f with pc := 35 }
      if c + 1 < 1 && b != some f.pos then
        { f with lp := some (c + 1, some f.pos) }.go { wait := .maxMore, pc := 35, pos := f.pos, count := c + 1, kept := f.keep true, began := b } 21 f.pos
      else f.tail (c + 1)
    | _, _ => none
  else if f.pc = 35 then f.alt 36 (f.keep f.inr)
  else if f.pc = 92 then f.alt 93 (f.keep f.inr)
  else if f.pc = 99 then
    if f.pos < t.length then some (f.say false) else if ex && f.pos == t.length then some { f with pc := 101 } else none
  else if f.pc = 104 then some { f with hd := f.pos, ans := some true }
  else none

def S.resume (f : S) (k : Fk) (yes : Bool) : Option S :=
  match k.wait with
  | .nextBranch => if yes then some (f.say true) else match alt? k.pc with | some l => (f.back k.kept).alt (k.pc + l) k.kept | none => none
  | .giveBack =>
    if yes then some (f.say true) else
    match star? k.pc with
    | some (least, next, _) =>
      if k.count - 1 < least then some ((f.back k.kept).say false)
      else if k.pos = 0 then none
      else { f.back k.kept with pos := k.pos - 1 }.go { wait := .giveBack, pc := k.pc, pos := k.pos - 1, count := k.count - 1, kept := k.kept } next (k.pos - 1)
    | none => none
  | .closeLoop => match f.lp with | some _ => some { f with inr := false, lp := none, ans := some yes } | none => none
  | .maxMore => match f.lp with
    | some (c, _) => if yes then some { f with lp := some (c, k.began), ans := some true } else { f.back k.kept with lp := some (k.count - 1, k.began) }.tail k.count
    | none => none
  | .maxTail => some { f with inr := true, ans := some yes }
  | _ => none

def S.step (t : List Nat) (ex : Bool) (f : S) : Option S :=
  match f.out with
  | some _ => none
  | none =>
  match f.ans, f.fr with
  | some yes, [] => some { f with out := some yes }
  | some yes, k :: rest => S.resume { f with ans := none, fr := rest, w := f.w - (1 + k.kept.mks.length), pc := k.pc, pos := k.pos } k yes
  | none, _ => S.exec t ex f

def S.run (t : List Nat) (ex : Bool) : Nat → S → Option S
  | 0, _ => none
  | n + 1, f => match S.step t ex f with
    | none => none
    | some f' => if f'.out.isSome then some f' else S.run t ex n f'

def S.first : S := { pc := 5, pos := 0, hd := 0, mks := [none, none, none, none, none, none] }

/-- what a match tells: matched up to where, the marks told -/
def S.tell (t : List Nat) (ex : Bool) : Option (Option (Nat × Int × Int × List (Option Nat))) :=
  (if ex && t.length < 1 then some { S.first with ans := some false, out := some false } else S.run t ex 400 S.first).map fun f => if f.out == some true then some (f.hd, f.lm, f.li, f.mks) else none

def cp (s : String) : List Nat := s.toList.map Char.toNat

/-! the pattern's machine over a long text, at a place d, beside ours over the item alone -/
abbrev shO (d : Nat) : Option Nat → Option Nat := Option.map (· + d)
def shK (d : Nat) (k : Kp) : PySem.Sre.Kept := { lastmark := k.lm, lastindex := k.li, whole := k.whole, marks := (k.mks.map (shO d)).toArray }
def shF (d : Nat) (k : Fk) : PySem.Sre.Frame := { wait := k.wait, pc := k.pc, pos := k.pos + d, outermost := true, count := k.count, kept := shK d k.kept, loop := 0, began := shO d k.began }
def loopsOf (d : Nat) : Option (Int × Option Nat) → Array Loop
  | none => #[]
  | some (c, b) => #[{ pc := 17, count := c, began := shO d b, outer := none }]
def big (d : Nat) (T : Array Nat) (lim : Nat) (seen : Seen) (f : S) : M :=
  { code := etCode, text := T, lim, start := d, pc := f.pc, pos := f.pos + d, handed := f.hd + d, marks := (f.mks.map (shO d)).toArray, lastmark := f.lm, lastindex := f.li,
    loops := loopsOf d f.lp, inner := if f.inr then some 0 else none, frames := f.fr.map (shF d), weight := f.w, answer := f.ans, seen,
    outcome := f.out.map fun b => if b then .matched else .failed }

structure Win (t : List Nat) (ex : Bool) (d : Nat) (T : Array Nat) (lim : Nat) : Prop where
  txt : ∀ p, p < t.length → T.getD (p + d) 0 = t.getD p 0
  len : if ex then lim = t.length + d else t.length + d ≤ lim
  low : lim < 4294967295

def wd (i : Nat) : Nat := etCode.getD i 0

section
variable {t : List Nat} {ex : Bool} {d : Nat} {T : Array Nat} {lim : Nat} {seen : Seen} {f f' : S}

theorem size_shK (k : Kp) : (shK d k).marks.size = k.mks.length := by simp [shK]
theorem say_big (b : Bool) : (big d T lim seen f).say b = big d T lim seen (f.say b) := rfl
theorem seen_big (s' : Seen) : { big d T lim seen f with seen := s' } = big d T lim s' f := rfl
theorem keep_big (w : Bool) : (big d T lim seen f).keep w = shK d (f.keep w) := by
  cases w
  · rfl
  · simp [M.keep, big, shK, S.keep, List.map_take]
theorem back_big (k : Kp) : (big d T lim seen f).putBack (shK d k) = big d T lim seen (f.back k) := by
  obtain ⟨lm, li, w, mks⟩ := k
  cases w
  · rfl
  · simp [M.putBack, big, shK, S.back, List.map_append, List.map_drop]
    rw [List.take_of_length_le (by simp)]
theorem go_big {k : Fk} {pc pos : Nat} (h : f.go k pc pos = some f') : (big d T lim seen f).attempt (shF d k) pc (pos + d) true = big d T lim seen f' := by
  unfold S.go at h
  split at h
  · cases h
  · rename_i hw
    cases h
    have e : (shF d k).kept.marks.size = k.kept.mks.length := size_shK _
    unfold M.attempt
    rw [e, if_neg (by simpa [big] using hw)]
    rfl
theorem alt_big {a : Nat} {k : Kp} (h : f.alt a k = some f') : (big d T lim seen f).alternative a (shK d k) = big d T lim seen f' := by
  unfold S.alt at h
  have hc : ∀ l, alt? a = some l → etCode.getD a 0 = l := by
    intro l hl
    unfold alt? at hl
    split at hl <;> cases hl <;> decide
  unfold M.alternative
  split at h
  · cases h
  · rename_i hl
    rw [show (big d T lim seen f).code = etCode from rfl, hc _ hl]
    cases h; rfl
  · rename_i l hn hl
    rw [show (big d T lim seen f).code = etCode from rfl, hc _ hl]
    rw [if_neg (by simpa using hn)]
    exact go_big h
theorem clear_map (i : Nat) (mks : List (Option Nat)) : (List.range i).foldl (fun (a : Array (Option Nat)) (j : Nat) => if (j : Int) > f.lm then a.setIfInBounds j none else a) (mks.map (shO d)).toArray = ((clearTo f.lm i mks).map (shO d)).toArray := by
  unfold clearTo
  generalize List.range i = l
  induction l generalizing mks with
  | nil => rfl
  | cons j r ih =>
    simp only [List.foldl_cons]
    rw [← ih]
    congr 1
    split
    · simp [List.map_set]
    · rfl
theorem mark_big (i : Nat) : (big d T lim seen f).mark i = big d T lim seen (f.mark i) := by
  unfold M.mark S.mark
  have e : (if (i : Int) ≤ (big d T lim seen f).lastmark + 1 then (big d T lim seen f).marks else (List.range i).foldl (fun (a : Array (Option Nat)) (j : Nat) => if (j : Int) > (big d T lim seen f).lastmark then a.setIfInBounds j none else a) (big d T lim seen f).marks) = (((if (i : Int) ≤ f.lm + 1 then f.mks else clearTo f.lm i f.mks)).map (shO d)).toArray := by
    show (if (i : Int) ≤ f.lm + 1 then (f.mks.map (shO d)).toArray else _) = _
    split
    · rfl
    · exact clear_map i f.mks
  simp only [e]
  simp [big, List.map_set]
end
theorem acc_sp {i : Nat} (hi : i = 9 ∨ i = 84) (c : Nat) (seen : Seen) : ∃ s', accepts etCode i c seen = .ok (sp c, s') := by
  rcases hi with rfl | rfl
  all_goals
    unfold accepts
    show ∃ s', inSet etCode c 105 _ true seen = _
    unfold inSet
    show ∃ s', (if (c == 32) = true then _ else _) = _
    by_cases h1 : (c == 32) = true
    · rw [if_pos h1]; exact ⟨_, by unfold sp; rw [h1]; rfl⟩
    · rw [if_neg h1]
      unfold inSet
      show ∃ s', (if (c == 9) = true then _ else _) = _
      by_cases h2 : (c == 9) = true
      · rw [if_pos h2]; exact ⟨_, by unfold sp; rw [h2, Bool.or_true]⟩
      · rw [if_neg h2]
        unfold inSet
        exact ⟨_, by unfold sp; simp only [Bool.not_eq_true] at h1 h2; rw [h1, h2]; rfl⟩
theorem acc_w (c : Nat) (seen : Seen) : ∃ s', accepts etCode 23 c seen = .ok ((c == 87 || c == 119), s') := by
  unfold accepts
  show ∃ s', inSet etCode c 105 _ true seen = _
  unfold inSet
  show ∃ s', (if (c == 87) = true then _ else _) = _
  by_cases h1 : (c == 87) = true
  · rw [if_pos h1]; exact ⟨_, by rw [h1]; rfl⟩
  · rw [if_neg h1]
    unfold inSet
    show ∃ s', (if (c == 119) = true then _ else _) = _
    by_cases h2 : (c == 119) = true
    · rw [if_pos h2]; exact ⟨_, by rw [h2, Bool.or_true]⟩
    · rw [if_neg h2]
      unfold inSet
      exact ⟨_, by simp only [Bool.not_eq_true] at h1 h2; rw [h1, h2]; rfl⟩
theorem acc_lit {i l : Nat} (hi : (i = 30 ∧ l = 47) ∨ (i = 37 ∧ l = 34) ∨ (i = 50 ∧ l = 34) ∨ (i = 94 ∧ l = 44)) (c : Nat) (seen : Seen) : ∃ s', accepts etCode i c seen = .ok ((c == l), s') := by
  rcases hi with ⟨rfl, rfl⟩ | ⟨rfl, rfl⟩ | ⟨rfl, rfl⟩ | ⟨rfl, rfl⟩ <;> exact ⟨_, rfl⟩
theorem acc_nq (c : Nat) (seen : Seen) : ∃ s', accepts etCode 45 c seen = .ok ((c != 34), s') := ⟨_, rfl⟩
theorem acc_ns (c : Nat) (seen : Seen) : ∃ s', accepts etCode 61 c seen = .ok (notSyn c, s') := by
  unfold accepts
  show ∃ s', inSet etCode c 105 63 true seen = _
  unfold inSet
  show ∃ s', inSet etCode c 104 64 false _ = _
  unfold inSet
  show ∃ s', (if (decide (c < 256) && (etCode.getD (64 + (1 + c / 32)) 0).testBit (c % 32)) = true then _ else _) = _
  have key : (decide (c < 256) && (etCode.getD (64 + (1 + c / 32)) 0).testBit (c % 32)) = !notSyn c := by
    by_cases h : c < 256
    · have all : ∀ c : Fin 256, (decide (c.val < 256) && (etCode.getD (64 + (1 + c.val / 32)) 0).testBit (c.val % 32)) = !notSyn c.val := by decide +kernel
      exact all ⟨c, h⟩
    · have h9 : (c == 9) = false := by simp; omega
      have h32 : (c == 32) = false := by simp; omega
      have h34 : (c == 34) = false := by simp; omega
      have h44 : (c == 44) = false := by simp; omega
      simp [notSyn, h, h9, h32, h34, h44]
  rw [key]
  cases hn : notSyn c
  · rw [if_pos (show (!false) = true from rfl)]; exact ⟨_, rfl⟩
  · rw [if_neg (by simp)]
    unfold inSet
    exact ⟨_, rfl⟩

def cnt (P : Nat → Bool) (T : Array Nat) : Nat → Nat → Nat
  | 0, _ => 0
  | n + 1, p => if P (T.getD p 0) then cnt P T n (p + 1) + 1 else 0
theorem run_cnt {i : Nat} {P : Nat → Bool} (T : Array Nat) (hacc : ∀ c seen, ∃ s', accepts etCode i c seen = .ok (P c, s')) :
    ∀ n p found seen, ∃ s', Sre.run etCode T i n p found seen = .ok (found + cnt P T n p, s')
  | 0, p, found, seen => ⟨seen, rfl⟩
  | n + 1, p, found, seen => by
    obtain ⟨s', e⟩ := hacc (T.getD p 0) seen
    unfold Sre.run cnt
    rw [e]
    cases hP : P (T.getD p 0)
    · exact ⟨s', rfl⟩
    · obtain ⟨s2, e2⟩ := run_cnt T hacc n (p + 1) (found + 1) s'
      refine ⟨s2, ?_⟩
      show Sre.run etCode T i n (p + 1) (found + 1) s' = _
      rw [e2]
      simp only [if_true]
      congr 2
      omega
theorem cnt_win {P : Nat → Bool} {T : Array Nat} : ∀ (l : List Nat) (q n : Nat), (∀ j, j < l.length → T.getD (q + j) 0 = l.getD j 0) → (n = l.length ∨ (l.length ≤ n ∧ (l.takeWhile P).length < l.length)) → cnt P T n q = (l.takeWhile P).length
  | [], q, n, _, hn => by
    rcases hn with rfl | ⟨_, h⟩
    · rfl
    · exact absurd h (by simp)
  | c :: r, q, n, hw, hn => by
    obtain ⟨n, rfl⟩ : ∃ k, n = k + 1 := ⟨n - 1, by rcases hn with rfl | ⟨h, _⟩ <;> simp at * <;> omega⟩
    have h0 := hw 0 (by simp)
    simp only [Nat.add_zero, List.getD_cons_zero] at h0
    unfold cnt
    rw [h0, List.takeWhile_cons]
    cases hP : P c
    · rfl
    · simp only [if_true, List.length_cons]
      rw [cnt_win r (q + 1) n (fun j hj => by have := hw (j + 1) (by simpa using hj); rw [show q + 1 + j = q + (j + 1) by omega, this]; rfl) ?_]
      rw [List.takeWhile_cons, hP] at hn
      simpa using hn

section
variable {t : List Nat} {ex : Bool} {d : Nat} {T : Array Nat} {lim : Nat} {seen : Seen} {f f' : S}
theorem star_acc {pc least next : Nat} {P : Nat → Bool} (h : star? pc = some (least, next, P)) :
    (∀ c seen, ∃ s', accepts etCode (pc + 4) c seen = .ok (P c, s')) ∧ etCode.getD (pc + 2) 0 = least ∧ etCode.getD (pc + 3) 0 = 4294967295 ∧ pc + 1 + etCode.getD (pc + 1) 0 = next ∧ ops[etCode.getD (pc + 0) 0]? = some .REPEAT_ONE := by
  unfold star? at h
  split at h <;> cases h
  · exact ⟨acc_sp (.inl rfl), by decide, by decide, by decide, rfl⟩
  · exact ⟨acc_nq, by decide, by decide, by decide, rfl⟩
  · exact ⟨acc_ns, by decide, by decide, by decide, rfl⟩
  · exact ⟨acc_sp (.inr rfl), by decide, by decide, by decide, rfl⟩
theorem afterRun_big {least next : Nat} {P : Nat → Bool} (hs : star? f.pc = some (least, next, P)) {count : Int} {kept : Kp} (h : f.go { wait := .giveBack, pc := f.pc, pos := f.pos, count, kept } next f.pos = some f') :
    (big d T lim seen f).afterRun .giveBack count (shK d kept) = big d T lim seen f' := by
  obtain ⟨_, _, _, h1, _⟩ := star_acc hs
  unfold M.afterRun
  rw [show (big d T lim seen f).pc + 1 + (big d T lim seen f).word 1 = next from h1]
  exact go_big h
theorem exec_repeatOne (m : M) (h : ops[m.word 0]? = some .REPEAT_ONE) : m.exec =
    if ((m.word 2 : Nat) : Int) > (m.lim : Int) - m.pos then ({ m with seen := m.seen.add (m.word 0) } : M).say false else
    match Sre.run m.code m.text (m.pc + 4) (min (m.word 3) ((m.lim : Int) - m.pos).toNat) m.pos 0 ((m.seen.add (m.word 0)).add (m.word 4)) with
    | .error why => ({ m with seen := m.seen.add (m.word 0) } : M).stick why
    | .ok (n, seen) => if n < m.word 2 then ({ m with seen } : M).say false else
      ({ m with seen, pos := m.pos + n } : M).afterRun .giveBack n (({ m with seen } : M).keep m.inner.isSome) := by
  unfold M.exec
  simp only [h]
  rfl
theorem exec_star {least next : Nat} {P : Nat → Bool} (W : Win t ex d T lim) (hs : star? f.pc = some (least, next, P)) (h : S.exec t ex f = some f') :
    ∃ seen', (big d T lim seen f).exec = big d T lim seen' f' := by
  obtain ⟨hacc, h2, h3, h1, hop⟩ := star_acc hs
  unfold S.exec at h
  rw [hs] at h
  dsimp only at h
  have hlen := W.len
  have hlow := W.low
  rw [exec_repeatOne (big d T lim seen f) hop]
  rw [show (big d T lim seen f).word 2 = least from h2, show (big d T lim seen f).word 3 = 4294967295 from h3]
  rw [show (big d T lim seen f).lim = lim from rfl, show (big d T lim seen f).pos = f.pos + d from rfl]
  split at h
  · rename_i hgt
    split at h
    · rename_i hex
      cases h
      rw [hex] at hlen
      simp only [if_true] at hlen
      rw [if_pos (by omega)]
      exact ⟨_, rfl⟩
    · cases h
  · rename_i hgt
    have hle : t.length + d ≤ lim := by cases ex <;> simp at hlen <;> omega
    rw [if_neg (by omega)]
    split at h
    · cases h
    · rename_i hsafe
      have hcnt : cnt P T (min 4294967295 ((lim : Int) - ((f.pos + d : Nat) : Int)).toNat) (f.pos + d) = taken P t f.pos := by
        have hmin : min 4294967295 ((lim : Int) - ((f.pos + d : Nat) : Int)).toNat = lim - (f.pos + d) := by omega
        rw [hmin]
        refine cnt_win (t.drop f.pos) _ _ (fun j hj => ?_) ?_
        · rw [List.length_drop] at hj
          rw [show f.pos + d + j = (f.pos + j) + d by omega, W.txt _ (by omega)]
          simp [List.getD_eq_getElem?_getD]
        · rw [List.length_drop]
          cases ex
          · right
            simp [taken] at hsafe hlen
            refine ⟨by omega, ?_⟩
            have := hsafe
            omega
          · left; simp at hlen; omega
      obtain ⟨s', er⟩ := run_cnt T hacc (min 4294967295 ((lim : Int) - ((f.pos + d : Nat) : Int)).toNat) (f.pos + d) 0 (((big d T lim seen f).seen.add ((big d T lim seen f).word 0)).add ((big d T lim seen f).word 4))
      rw [hcnt, Nat.zero_add] at er
      have er' : Sre.run (big d T lim seen f).code (big d T lim seen f).text ((big d T lim seen f).pc + 4) (min 4294967295 ((lim : Int) - ((f.pos + d : Nat) : Int)).toNat) (f.pos + d) 0 (((big d T lim seen f).seen.add ((big d T lim seen f).word 0)).add ((big d T lim seen f).word 4)) = _ := er
      rw [er']
      dsimp only
      split at h
      · rename_i hlt
        cases h
        rw [if_pos hlt]
        exact ⟨_, rfl⟩
      · rename_i hlt
        rw [if_neg hlt]
        refine ⟨s', ?_⟩
        have hk : ({ big d T lim seen f with seen := s' } : M).keep (big d T lim seen f).inner.isSome = shK d (f.keep f.inr) := by
          have : (big d T lim seen f).inner.isSome = f.inr := by cases hi : f.inr <;> simp [big, hi]
          rw [this]; exact keep_big _
        have e : ({ big d T lim seen f with seen := s', pos := f.pos + d + taken P t f.pos } : M) = big d T lim s' { f with pos := f.pos + taken P t f.pos } := by
          have hp : f.pos + d + taken P t f.pos = f.pos + taken P t f.pos + d := by omega
          rw [hp]; rfl
        have := afterRun_big (d := d) (T := T) (lim := lim) (seen := s') (f := { f with pos := f.pos + taken P t f.pos }) hs h
        exact (congrArg (fun m : M => m.afterRun .giveBack _ _) e).trans ((congrArg (fun k => M.afterRun _ .giveBack _ k) hk).trans this)

theorem one_acc {pc next : Nat} {P : Nat → Bool} (h : one? pc = some (P, next)) :
    (∀ c seen, ∃ s', accepts etCode pc c seen = .ok (P c, s')) ∧ pc + itemWidth etCode pc = next ∧ (ops[etCode.getD (pc + 0) 0]? = some .IN ∨ ops[etCode.getD (pc + 0) 0]? = some .LITERAL) := by
  unfold one? at h
  split at h <;> cases h
  · exact ⟨acc_w, by decide, .inl rfl⟩
  · exact ⟨acc_lit (.inl ⟨rfl, rfl⟩), by decide, .inr rfl⟩
  · exact ⟨acc_lit (.inr (.inl ⟨rfl, rfl⟩)), by decide, .inr rfl⟩
  · exact ⟨acc_lit (.inr (.inr (.inl ⟨rfl, rfl⟩))), by decide, .inr rfl⟩
  · exact ⟨acc_lit (.inr (.inr (.inr ⟨rfl, rfl⟩))), by decide, .inr rfl⟩
theorem exec_oneOf (m : M) (h : ops[m.word 0]? = some .IN ∨ ops[m.word 0]? = some .LITERAL) : m.exec =
    if m.pos ≥ m.lim then ({ m with seen := m.seen.add (m.word 0) } : M).say false else
    match accepts m.code m.pc (m.text.getD m.pos 0) (m.seen.add (m.word 0)) with
    | .error why => ({ m with seen := m.seen.add (m.word 0) } : M).stick why
    | .ok (false, seen) => ({ m with seen } : M).say false
    | .ok (true, seen) => ({ m with seen, pc := m.pc + itemWidth m.code m.pc, pos := m.pos + 1 } : M) := by
  unfold M.exec
  rcases h with h | h <;> simp only [h] <;> rfl
theorem exec_one {next : Nat} {P : Nat → Bool} (W : Win t ex d T lim) (h0 : star? f.pc = none) (hs : one? f.pc = some (P, next)) (h : S.exec t ex f = some f') :
    ∃ seen', (big d T lim seen f).exec = big d T lim seen' f' := by
  obtain ⟨hacc, hw, hop⟩ := one_acc hs
  unfold S.exec at h
  rw [h0, hs] at h
  dsimp only at h
  have hlen := W.len
  rw [exec_oneOf (big d T lim seen f) hop]
  rw [show (big d T lim seen f).lim = lim from rfl, show (big d T lim seen f).pos = f.pos + d from rfl]
  split at h
  · rename_i hlt
    have hle : t.length + d ≤ lim := by cases ex <;> simp at hlen <;> omega
    rw [if_neg (by omega)]
    obtain ⟨s', ea⟩ := hacc (t.getD f.pos 0) ((big d T lim seen f).seen.add ((big d T lim seen f).word 0))
    rw [← W.txt _ hlt] at ea h
    have ea' : accepts (big d T lim seen f).code (big d T lim seen f).pc ((big d T lim seen f).text.getD (f.pos + d) 0) ((big d T lim seen f).seen.add ((big d T lim seen f).word 0)) = _ := ea
    rw [ea']
    refine ⟨s', ?_⟩
    split at h
    · rename_i hp
      cases h
      rw [hp]
      have hw' : (big d T lim seen f).pc + itemWidth (big d T lim seen f).code (big d T lim seen f).pc = next := hw
      have hq : f.pos + d + 1 = f.pos + 1 + d := by omega
      dsimp only
      rw [hw', hq]
      rfl
    · rename_i hp
      cases h
      simp only [Bool.not_eq_true] at hp
      rw [hp]
      rfl
  · rename_i hge
    split at h
    · rename_i hex
      cases h
      rw [hex] at hlen
      simp only [if_true] at hlen
      rw [if_pos (by omega)]
      exact ⟨_, rfl⟩
    · cases h
theorem exec_mark {i : Nat} (h0 : star? f.pc = none) (h1 : one? f.pc = none) (hs : mark? f.pc = some i) (h : S.exec t ex f = some f') :
    ∃ seen', (big d T lim seen f).exec = big d T lim seen' f' := by
  unfold S.exec at h
  rw [h0, h1, hs] at h
  cases h
  have e : ∀ s', ∃ s'', ({ big d T lim seen f with seen := s' } : M).mark i = big d T lim s'' (f.mark i) := fun s' => ⟨s', mark_big i⟩
  have hop : etCode.getD (f.pc + 1) 0 = i ∧ ops[etCode.getD (f.pc + 0) 0]? = some .MARK := by
    clear e
    generalize f.pc = pc at hs
    unfold mark? at hs
    split at hs <;> cases hs <;> exact ⟨by decide, rfl⟩
  have hx : (big d T lim seen f).exec = ({ big d T lim seen f with seen := (big d T lim seen f).seen.add ((big d T lim seen f).word 0) } : M).mark ((big d T lim seen f).word 1) := by
    unfold M.exec
    simp only [show ops[(big d T lim seen f).word 0]? = some .MARK from hop.2]
    rfl
  rw [hx, show (big d T lim seen f).word 1 = i from hop.1]
  exact e _
theorem exec_jump {j : Nat} (h0 : star? f.pc = none) (h1 : one? f.pc = none) (h2 : mark? f.pc = none) (hs : jump? f.pc = some j) (h : S.exec t ex f = some f') :
    ∃ seen', (big d T lim seen f).exec = big d T lim seen' f' := by
  unfold S.exec at h
  rw [h0, h1, h2, hs] at h
  cases h
  have hop : f.pc + 1 + etCode.getD (f.pc + 1) 0 = j ∧ ops[etCode.getD (f.pc + 0) 0]? = some .JUMP := by
    generalize f.pc = pc at hs
    unfold jump? at hs
    split at hs <;> cases hs <;> exact ⟨by decide, rfl⟩
  have hx : (big d T lim seen f).exec = ({ big d T lim seen f with seen := (big d T lim seen f).seen.add ((big d T lim seen f).word 0), pc := (big d T lim seen f).pc + 1 + (big d T lim seen f).word 1 } : M) := by
    unfold M.exec
    simp only [show ops[(big d T lim seen f).word 0]? = some .JUMP from hop.2]
    rfl
  rw [hx, show (big d T lim seen f).pc + 1 + (big d T lim seen f).word 1 = j from hop.1]
  exact ⟨_, rfl⟩
theorem tail_big {count : Int} (hlp : f.lp.isSome = true) (h : f.tail count = some f') :
    (big d T lim seen f).afterLoop .maxTail 0 count (fun _ => false) = big d T lim seen f' := by
  unfold S.tail at h
  obtain ⟨⟨c, b⟩, hl⟩ := Option.isSome_iff_exists.mp hlp
  unfold M.afterLoop
  have ho : ((big d T lim seen f).loopAt 0).outer = none := by
    show ((loopsOf d f.lp).getD 0 _).outer = none
    rw [hl]; rfl
  dsimp only
  rw [ho]
  have e : ({ big d T lim seen f with inner := none } : M) = big d T lim seen { f with inr := false } := by simp [big]
  have hk := keep_big (d := d) (T := T) (lim := lim) (seen := seen) (f := { f with inr := false }) false
  have := go_big (d := d) (T := T) (lim := lim) (seen := seen) h
  rw [← this]
  simp only [e]
  rw [hk]
  rfl
theorem exec_rest (W : Win t ex d T lim) (h0 : star? f.pc = none) (h1 : one? f.pc = none) (h2 : mark? f.pc = none) (h3 : jump? f.pc = none) (h : S.exec t ex f = some f') :
    ∃ seen', (big d T lim seen f).exec = big d T lim seen' f' := by
  unfold S.exec at h
  rw [h0, h1, h2, h3] at h
  dsimp only at h
  have hlen := W.len
  obtain ⟨pc, pos, hd, mks, lm, li, lp, inr, fr, w, ans, out⟩ := f
  dsimp only at h h0 h1 h2 h3
  split at h
  · rename_i hpc
    subst hpc
    cases lp <;> cases inr <;> try cases h
    exact ⟨_, go_big h⟩
  · split at h
    · rename_i hpc
      subst hpc
      cases lp <;> cases inr <;> try cases h
      rename_i cb
      obtain ⟨c, b⟩ := cb
      dsimp only at h
      split at h
      · cases h
      · rename_i hc
        have hx : (big d T lim seen { pc := 34, pos, hd, mks, lm, li, lp := some (c, b), inr := true, fr, w, ans, out }).exec = (big d T lim (seen.add 18) { pc := 35, pos, hd, mks, lm, li, lp := some (c, b), inr := true, fr, w, ans, out }).until_ true := rfl
        rw [hx]
        refine ⟨seen.add 18, ?_⟩
        unfold M.until_
        show (if c + 1 < ((0 : Nat) : Int) then _ else if (!true) = true then _ else if ((decide (c + 1 < ((1 : Nat) : Int)) || (1 : Nat) == maxRepeat) && shO d b != some (pos + d)) = true then _ else _) = _
        rw [if_neg (by omega), if_neg (by simp)]
        have hb : (shO d b != some (pos + d)) = (b != some pos) := by
          cases b with
          | none => rfl
          | some q =>
            have : (q + d == pos + d) = (q == pos) := by
              by_cases hq : q = pos
              · simp [hq]
              · have h1 : (q == pos) = false := by simpa using hq
                have h2 : (q + d == pos + d) = false := by simp; omega
                rw [h1, h2]
            simp only [bne, shO, Option.map_some]
            show (! (q + d == pos + d)) = ! (q == pos)
            rw [this]
        have hm : ((1 : Nat) == maxRepeat) = false := by decide
        rw [hb, hm, Bool.or_false, show ((1 : Nat) : Int) = 1 from rfl]
        by_cases hgo : (decide (c + 1 < 1) && b != some pos) = true
        · rw [if_pos hgo] at h
          rw [if_pos hgo]
          have hk := keep_big (d := d) (T := T) (lim := lim) (seen := seen.add 18) (f := { pc := 35, pos, hd, mks, lm, li, lp := some (c, b), inr := true, fr, w, ans, out }) true
          rw [hk]
          exact go_big (seen := seen.add 18) h
        · rw [if_neg hgo] at h
          rw [if_neg hgo]
          exact tail_big (seen := seen.add 18) rfl h
    · split at h
      · rename_i hpc
        subst hpc
        have hx : (big d T lim seen { pc := 35, pos, hd, mks, lm, li, lp, inr, fr, w, ans, out }).exec = (big d T lim (seen.add 7) { pc := 35, pos, hd, mks, lm, li, lp, inr, fr, w, ans, out }).alternative 36 ((big d T lim (seen.add 7) { pc := 35, pos, hd, mks, lm, li, lp, inr, fr, w, ans, out }).keep (if inr then some 0 else none : Option Nat).isSome) := rfl
        have hi : (if inr then some 0 else none : Option Nat).isSome = inr := by cases inr <;> rfl
        rw [hx, hi, keep_big]
        exact ⟨_, alt_big h⟩
      · split at h
        · rename_i hpc
          subst hpc
          have hx : (big d T lim seen { pc := 92, pos, hd, mks, lm, li, lp, inr, fr, w, ans, out }).exec = (big d T lim (seen.add 7) { pc := 92, pos, hd, mks, lm, li, lp, inr, fr, w, ans, out }).alternative 93 ((big d T lim (seen.add 7) { pc := 92, pos, hd, mks, lm, li, lp, inr, fr, w, ans, out }).keep (if inr then some 0 else none : Option Nat).isSome) := rfl
          have hi : (if inr then some 0 else none : Option Nat).isSome = inr := by cases inr <;> rfl
          rw [hx, hi, keep_big]
          exact ⟨_, alt_big h⟩
        · split at h
          · rename_i hpc
            subst hpc
            have hx : (big d T lim seen { pc := 99, pos, hd, mks, lm, li, lp, inr, fr, w, ans, out }).exec = (if (pos + d == lim) = true then (big d T lim ((seen.add 6).add 50) { pc := 101, pos, hd, mks, lm, li, lp, inr, fr, w, ans, out }) else (big d T lim ((seen.add 6).add 50) { pc := 99, pos, hd, mks, lm, li, lp, inr, fr, w, ans := some false, out })) := rfl
            rw [hx]
            split at h
            · rename_i hlt
              cases h
              have hle : t.length + d ≤ lim := by cases ex <;> simp at hlen <;> omega
              rw [if_neg (by simp; omega)]
              exact ⟨_, rfl⟩
            · split at h
              · rename_i hq
                cases h
                simp only [Bool.and_eq_true, beq_iff_eq] at hq
                rw [hq.1] at hlen
                simp only [if_true] at hlen
                rw [if_pos (by simp; omega)]
                exact ⟨_, rfl⟩
              · cases h
          · split at h
            · rename_i hpc
              subst hpc
              cases h
              exact ⟨_, rfl⟩
            · cases h
theorem exec_big (W : Win t ex d T lim) (h : S.exec t ex f = some f') : ∃ seen', (big d T lim seen f).exec = big d T lim seen' f' := by
  cases h0 : star? f.pc with
  | some x => obtain ⟨a, b, c⟩ := x; exact exec_star W h0 h
  | none =>
    cases h1 : one? f.pc with
    | some x => obtain ⟨a, b⟩ := x; exact exec_one W h0 h1 h
    | none =>
      cases h2 : mark? f.pc with
      | some i => exact exec_mark h0 h1 h2 h
      | none =>
        cases h3 : jump? f.pc with
        | some j => exact exec_jump h0 h1 h2 h3 h
        | none => exact exec_rest W h0 h1 h2 h3 h

theorem resume_big {k : Fk} {yes : Bool} (hp : f.pc = k.pc) (hq : f.pos = k.pos) (h : S.resume f k yes = some f') : (big d T lim seen f).resume (shF d k) yes = big d T lim seen f' := by
  obtain ⟨wt, kpc, kpos, count, kept, began⟩ := k
  dsimp only at hp hq
  unfold S.resume at h
  unfold M.resume
  have hb : (big d T lim seen f).putBack (shF d ⟨wt, kpc, kpos, count, kept, began⟩).kept = big d T lim seen (f.back kept) := back_big kept
  rw [hb]
  cases wt <;> dsimp only [shF] at h ⊢
  case nextBranch =>
    cases yes
    · simp only [Bool.false_eq_true, if_false] at h ⊢
      split at h
      · rename_i l hl
        have hc : kpc + (big d T lim seen f).code.getD kpc 0 = kpc + l := by
          show kpc + etCode.getD kpc 0 = _
          unfold alt? at hl
          split at hl <;> cases hl <;> decide
        rw [hc]
        exact alt_big h
      · cases h
    · simp only [if_true] at h ⊢
      cases h; rfl
  case giveBack =>
    cases yes
    · simp only [Bool.false_eq_true, if_false] at h ⊢
      split at h
      · rename_i least next P hs
        obtain ⟨_, h2, _, _, _⟩ := star_acc hs
        have w2 : (big d T lim seen f).word 2 = least := by
          show etCode.getD (f.pc + 2) 0 = _
          rw [hp]; exact h2
        rw [w2]
        split at h
        · rename_i hlt
          cases h
          exact (if_pos hlt).trans rfl
        · rename_i hlt
          refine (if_neg hlt).trans ?_
          split at h
          · cases h
          · rename_i hk0
            have hs' : star? f.pc = some (least, next, P) := by rw [hp]; exact hs
            have e : ({ big d T lim seen (f.back kept) with pos := kpos + d - 1 } : M) = big d T lim seen { f.back kept with pos := kpos - 1 } := by
              have : kpos + d - 1 = kpos - 1 + d := by omega
              rw [this]; rfl
            have hgo : ({ f.back kept with pos := kpos - 1 } : S).go { wait := .giveBack, pc := ({ f.back kept with pos := kpos - 1 } : S).pc, pos := ({ f.back kept with pos := kpos - 1 } : S).pos, count := count - 1, kept := kept } next ({ f.back kept with pos := kpos - 1 } : S).pos = some f' := by
              have : ({ f.back kept with pos := kpos - 1 } : S).pc = kpc := hp
              rw [this]; exact h
            have := afterRun_big (d := d) (T := T) (lim := lim) (seen := seen) (f := { f.back kept with pos := kpos - 1 }) (by exact hs') hgo
            exact (congrArg (fun m : M => m.afterRun .giveBack _ _) e).trans this
      · cases h
    · simp only [if_true] at h ⊢
      cases h; rfl
  case closeLoop =>
    split at h
    · rename_i cb hl
      cases h
      obtain ⟨c, b⟩ := cb
      have ho : ((big d T lim seen f).loopAt 0).outer = none := by
        show ((loopsOf d f.lp).getD 0 _).outer = none
        rw [hl]; rfl
      have hpop : (big d T lim seen f).loops.pop = #[] := by
        show (loopsOf d f.lp).pop = #[]
        rw [hl]; rfl
      rw [ho, hpop]
      simp [big, M.say, loopsOf]
    · cases h
  case maxMore =>
    split at h
    · rename_i c b hl
      have hset : ∀ g : S, g.lp = some (c, b) → ((big d T lim seen g).setLoop 0 fun l => { l with began := shO d began }) = big d T lim seen { g with lp := some (c, began) } := by
        intro g hg
        simp [M.setLoop, big, hg, loopsOf]
      rw [hset f hl]
      cases yes
      · simp only [Bool.false_eq_true, if_false] at h ⊢
        have hb2 := back_big (d := d) (T := T) (lim := lim) (seen := seen) (f := { f with lp := some (c, began) }) kept
        have e : (((big d T lim seen { f with lp := some (c, began) }).putBack (shK d kept)).setLoop 0 fun l => { l with count := count - 1 }) = big d T lim seen { f.back kept with lp := some (count - 1, began) } := by
          rw [hb2]
          simp [M.setLoop, big, loopsOf, S.back]
          rfl
        exact (congrArg (fun m : M => m.afterLoop .maxTail 0 count fun _ => false) e).trans (tail_big rfl h)
      · simp only [if_true] at h ⊢
        cases h; rfl
    · cases h
  case maxTail =>
    cases h
    simp [big, M.say]
  all_goals cases h

theorem pc_lt (h : S.exec t ex f = some f') : f.pc < 105 := by
  rcases Nat.lt_or_ge f.pc 105 with hlt | hge
  · exact hlt
  · exfalso
    unfold S.exec at h
    generalize f.pc = pc at h hge
    have n1 : star? pc = none := by unfold star?; split <;> first | rfl | omega
    have n2 : one? pc = none := by unfold one?; split <;> first | rfl | omega
    have n3 : mark? pc = none := by unfold mark?; split <;> first | rfl | omega
    have n4 : jump? pc = none := by unfold jump?; split <;> first | rfl | omega
    have m1 : ¬ pc = 17 := by omega
    have m2 : ¬ pc = 34 := by omega
    have m3 : ¬ pc = 35 := by omega
    have m4 : ¬ pc = 92 := by omega
    have m5 : ¬ pc = 99 := by omega
    have m6 : ¬ pc = 104 := by omega
    rw [n1, n2, n3, n4] at h
    simp only [if_neg m1, if_neg m2, if_neg m3, if_neg m4, if_neg m5, if_neg m6] at h
    cases h
theorem step_big (W : Win t ex d T lim) (h : S.step t ex f = some f') : ∃ seen', (big d T lim seen f).step = big d T lim seen' f' := by
  unfold S.step at h
  split at h
  · cases h
  · rename_i ho
    unfold M.step
    have h0 : (big d T lim seen f).outcome = none := by simp [big, ho]
    rw [if_neg (by rw [h0]; simp)]
    split at h
    · rename_i yes ha hf
      cases h
      have h1 : (big d T lim seen f).answer = some yes := ha
      have h2 : (big d T lim seen f).frames = [] := by simp [big, hf]
      rw [h1, h2]
      refine ⟨seen, ?_⟩
      simp [big, ha, hf]
    · rename_i yes k rest ha hf
      have h1 : (big d T lim seen f).answer = some yes := ha
      have h2 : (big d T lim seen f).frames = shF d k :: rest.map (shF d) := by simp [big, hf]
      rw [h1, h2]
      refine ⟨seen, ?_⟩
      have e : (shF d k).kept.marks.size = k.kept.mks.length := size_shK _
      dsimp only
      rw [e]
      have em : ({ big d T lim seen f with answer := none, frames := rest.map (shF d), weight := (big d T lim seen f).weight - (1 + k.kept.mks.length), pc := (shF d k).pc, pos := (shF d k).pos, outermost := (shF d k).outermost } : M) = big d T lim seen { f with ans := none, fr := rest, w := f.w - (1 + k.kept.mks.length), pc := k.pc, pos := k.pos } := rfl
      refine (congrArg (fun m : M => m.resume (shF d k) yes) em).trans ?_
      refine resume_big ?_ ?_ h
      · rfl
      · rfl
    · rename_i ha
      have h1 : (big d T lim seen f).answer = none := ha
      rw [h1]
      dsimp only
      obtain ⟨s', e⟩ := exec_big (seen := seen) W h
      have hpc : (big d T lim seen f).pc < (big d T lim seen f).code.size := by
        show f.pc < 105
        exact pc_lt h
      rw [if_pos hpc]
      exact ⟨s', e⟩
theorem runFor_done : ∀ (n : Nat) (m : M), m.outcome.isSome = true → m.runFor n = m
  | 0, _, _ => rfl
  | n + 1, m, h => by unfold M.runFor; rw [if_pos h]
theorem run_big (W : Win t ex d T lim) : ∀ (n : Nat) (f f' : S) (seen : Seen), f.out = none → S.run t ex n f = some f' → ∃ seen', (big d T lim seen f).runFor n = big d T lim seen' f' ∧ f'.out.isSome = true
  | 0, _, _, _, _, h => by cases h
  | n + 1, f, f', seen, ho, h => by
    unfold S.run at h
    have h0 : (big d T lim seen f).outcome.isSome = false := by simp [big, ho]
    unfold M.runFor
    rw [if_neg (by rw [h0]; exact Bool.false_ne_true)]
    split at h
    · cases h
    · rename_i f1 hs
      obtain ⟨s', e⟩ := step_big (seen := seen) W hs
      rw [e]
      split at h
      · rename_i hd
        cases h
        refine ⟨s', runFor_done _ _ (by simpa [big] using hd), hd⟩
      · rename_i hd
        exact run_big W n f1 f' s' (by simpa using hd) h
end

structure Tells (m : M) (d : Nat) (r : Option (Nat × Int × Int × List (Option Nat))) : Prop where
  failed : r = none → m.outcome = some .failed
  matched : ∀ hd lm li mks, r = some (hd, lm, li, mks) → m.outcome = some .matched ∧ m.start = d ∧ m.handed = hd + d ∧ m.lastmark = lm ∧ m.lastindex = li ∧ m.marks = (mks.map (shO d)).toArray
theorem tells_big {d : Nat} {T : Array Nat} {lim : Nat} {seen : Seen} {f : S} (h : f.out.isSome = true) :
    Tells (big d T lim seen f) d (if f.out == some true then some (f.hd, f.lm, f.li, f.mks) else none) := by
  obtain ⟨b, hb⟩ := Option.isSome_iff_exists.mp h
  cases b
  · rw [if_neg (by rw [hb]; decide)]
    exact ⟨fun _ => by simp [big, hb], fun _ _ _ _ e => by cases e⟩
  · rw [if_pos (by rw [hb]; decide)]
    exact ⟨fun e => (nomatch e), fun _ _ _ _ e => by cases e; exact ⟨by simp [big, hb], rfl, rfl, rfl, rfl, rfl⟩⟩
theorem forMatch_eq (d : Nat) (T : Array Nat) (lim : Nat) : Sre.forMatch etCode T 3 d lim false false =
    if (decide (d ≤ lim) && decide (lim - d < 1)) = true then (big d T lim (({} : Seen).add 14) { S.first with hd := 0 }).say false else big d T lim (({} : Seen).add 14) S.first := by
  have e : (big d T lim (({} : Seen).add 14) S.first) = (big d T lim (({} : Seen).add 14) S.first) := rfl
  have h0 : big d T lim (({} : Seen).add 14) S.first = { code := etCode, text := T, lim, start := d, pc := 5, pos := d, handed := d, marks := Array.replicate 6 none, seen := ({} : Seen).add 14 } := by
    simp [big, S.first, loopsOf]
    rfl
  rw [show ({ S.first with hd := 0 } : S) = S.first from rfl, h0]
  rfl
theorem match_tells {t : List Nat} {ex : Bool} {d : Nat} {T : Array Nat} {lim : Nat} (W : Win t ex d T lim) (ht : ex = false → 0 < t.length) {r : Option (Nat × Int × Int × List (Option Nat))} (h : S.tell t ex = some r) :
    ∃ N, Tells ((Sre.forMatch etCode T 3 d lim false false).runFor N) d r ∧ N ≤ 400 := by
  have hlen := W.len
  rw [forMatch_eq]
  unfold S.tell at h
  split at h
  · rename_i hc
    simp only [Bool.and_eq_true, decide_eq_true_eq] at hc
    rw [hc.1] at hlen
    simp only [if_true] at hlen
    rw [if_pos (by simp; omega)]
    cases h
    refine ⟨1, ?_, by omega⟩
    exact ⟨fun _ => rfl, fun _ _ _ _ e => by cases e⟩
  · rename_i hc
    have hpos : 0 < t.length := by
      cases ex
      · exact ht rfl
      · rcases Nat.lt_or_ge t.length 1 with hl | hl
        · exact absurd (by simp [hl]) hc
        · omega
    have hle : t.length + d ≤ lim := by cases ex <;> simp at hlen <;> omega
    have hno : ¬ ((decide (d ≤ lim) && decide (lim - d < 1)) = true) := by
      simp only [Bool.and_eq_true, decide_eq_true_eq, not_and]; omega
    rw [if_neg hno]
    obtain ⟨f', hr, hf⟩ := Option.map_eq_some_iff.mp h
    obtain ⟨s', e, ho⟩ := run_big (d := d) (T := T) (lim := lim) W 400 S.first f' (({} : Seen).add 14) rfl hr
    refine ⟨400, ?_, Nat.le_refl _⟩
    rw [e, ← hf]
    exact tells_big ho
end Et
end
section
set_option maxRecDepth 100000
namespace Et
open PySem

abbrev q34 : Str := Str.ofString "\""
def sps : List Str := [Str.ofString "", Str.ofString " "]
def mks3 : List Str := [Str.ofString "", Str.ofString "W/", Str.ofString "w/"]
def nms : List Str := [Str.ofString "a", Str.ofString "b", Str.ofString "c d", Str.ofString "e,f", Str.ofString "W/", Str.ofString "x-1"]
def bares : List Str := [Str.ofString "a", Str.ofString "b", Str.ofString "x-1"]
def junks : List Str := [Str.ofString "q r", Str.ofString "\"q\"r", Str.ofString "W/ q", Str.ofString " "]

structure Item where
  txt : Str
  row : Option (Str × Bool)

def quoted (x1 mk n x2 : Str) : Item := { txt := ((x1 ++ mk) ++ ((q34 ++ n) ++ q34)) ++ x2, row := some (n, mk != Str.ofString "") }
def barely (x1 mk n x2 : Str) : Item := { txt := ((x1 ++ mk) ++ n) ++ x2, row := some (n, mk != Str.ofString "") }
def junk (j : Str) : Item := { txt := j, row := none }

def allItems : List Item :=
  (sps.flatMap fun x1 => mks3.flatMap fun mk => nms.flatMap fun n => sps.map fun x2 => quoted x1 mk n x2) ++
  (sps.flatMap fun x1 => mks3.flatMap fun mk => bares.flatMap fun n => sps.map fun x2 => barely x1 mk n x2) ++ junks.map junk
def Good (it : Item) : Prop := it ∈ allItems
theorem good_quoted {x1 mk n x2 : Str} (h1 : x1 ∈ sps) (h2 : mk ∈ mks3) (h3 : n ∈ nms) (h4 : x2 ∈ sps) : Good (quoted x1 mk n x2) := by
  refine List.mem_append_left _ (List.mem_append_left _ ?_)
  exact List.mem_flatMap.mpr ⟨x1, h1, List.mem_flatMap.mpr ⟨mk, h2, List.mem_flatMap.mpr ⟨n, h3, List.mem_map.mpr ⟨x2, h4, rfl⟩⟩⟩⟩
theorem good_barely {x1 mk n x2 : Str} (h1 : x1 ∈ sps) (h2 : mk ∈ mks3) (h3 : n ∈ bares) (h4 : x2 ∈ sps) : Good (barely x1 mk n x2) := by
  refine List.mem_append_left _ (List.mem_append_right _ ?_)
  exact List.mem_flatMap.mpr ⟨x1, h1, List.mem_flatMap.mpr ⟨mk, h2, List.mem_flatMap.mpr ⟨n, h3, List.mem_map.mpr ⟨x2, h4, rfl⟩⟩⟩⟩
theorem good_junk {j : Str} (h : j ∈ junks) : Good (junk j) := List.mem_append_right _ (List.mem_map.mpr ⟨j, h, rfl⟩)

def grpL (t : List Nat) (lm : Int) (mks : List (Option Nat)) (g : Nat) : Option (List Nat) :=
  match if ((2 * g + 1 : Nat) : Int) ≤ lm then (mks.getD (2 * g) none, mks.getD (2 * g + 1) none) else (none, none) with
  | (some b, some e) => some ((t.take e).drop b)
  | _ => none
/-- the groups tell the row -/
def tellsRow (t : List Nat) (lm : Int) (mks : List (Option Nat)) (n : List Nat) (weak : Bool) : Bool :=
  (match grpL t lm mks 0 with | some x => weak && !x.isEmpty | none => !weak) &&
  (match grpL t lm mks 1 with | some x => x == n && !n.isEmpty | none => grpL t lm mks 2 == some n && !n.isEmpty)
def inBounds (t : List Nat) (mks : List (Option Nat)) : Bool := mks.all fun m => match m with | some x => decide (x ≤ t.length) | none => true
def spansGood' (lm : Int) (mks : List (Option Nat)) : Bool := !((List.range 3).any fun g => match mks.getD (2 * g) none, mks.getD (2 * g + 1) none with | some b, some e => decide (((2 * g + 1 : Nat) : Int) ≤ lm) && decide (e < b) | _, _ => false)
def okTell (t : List Nat) (n : List Nat) (weak : Bool) (r : Option (Option (Nat × Int × Int × List (Option Nat)))) : Bool :=
  match r with
  | some (some (hd, lm, _, mks)) => hd == t.length && mks.length == 6 && spansGood' lm mks && inBounds t mks && tellsRow t lm mks n weak
  | _ => false
def noTell (r : Option (Option (Nat × Int × Int × List (Option Nat)))) : Bool := match r with | some none => true | _ => false
def checkL (t : List Nat) : Option (Str × Bool) → Bool
  | none => noTell (S.tell t true) && noTell (S.tell (t ++ [44]) false) && !t.contains 44 && !t.isEmpty
  | some (n, weak) => okTell t n.cps.toList weak (S.tell t true) && okTell (t ++ [44]) n.cps.toList weak (S.tell (t ++ [44]) false) && !t.isEmpty
def check (it : Item) : Bool := checkL it.txt.cps.toList it.row
theorem all_ok : allItems.all check = true := by decide +kernel
theorem empty_ok : noTell (S.tell [] true) = true := by decide +kernel
end Et
end
section
open PySem PySem.W PySem.Calls PyProof.Rows
set_option Elab.async false
set_option maxRecDepth 100000
namespace Et
section
variable {prog : Program} {w : World} {A : Around} {s : Shared} {env : Env}

/-- the end of a turn -/
def Turned (St : Nat → Heap → Prop) (J : Nat → Shared → Prop) (i : Nat) (s : Shared) : Prop := St (i + 1) s.heap ∧ J (i + 1) s
/-- a for loop by what holds between its turns: any state, any end -/
def Loop (prog : Program) (w : World) (A : Around) (env : Env) (x : Str) (body : List Stmt) (Q : Flow → Shared → Prop) (it : Value) (s₂ : Shared) : Prop :=
  ∃ (I : Addr) (fp : List Addr) (n : Nat) (P : Nat → Value → Prop) (St : Nat → Heap → Prop) (J : Nat → Shared → Prop),
    it = .ref I ∧ Walks prog w A I fp [I] n P St ∧ St 0 s₂.heap ∧ J 0 s₂ ∧
    (∀ i s, i < n → J i s → ∀ v h tk, P i v → St (i + 1) h → (∀ b o, b ≠ I → s.heap.get? b = some o → h.get? b = some o) →
      wpAny (model prog w) A (storeName env x v) (fun _ s₃ => wpAny (model prog w) A (execs body env) (fun f s₄ => match f with
        | .next | .cont => Turned St J i s₄
        | .brk => Q .next s₄
        | .ret v => Q (.ret v) s₄) (fun _ _ => False) s₃) (fun _ _ => False) { s with heap := h, toks := tk }) ∧
    (∀ s, J n s → ∀ h tk, (∀ b o, b ≠ I → s.heap.get? b = some o → h.get? b = some o) → Q .next { s with heap := h, toks := tk })

theorem for_own {Q : Flow → Shared → Prop} {x : Str} {px pos : Pos} {iter : Expr} {body : List Stmt}
    (h : wpAny (model prog w) A (eval iter env) (fun xv s₁ => wpAny (model prog w) A (pyIter xv) (fun it s₂ => Loop prog w A env x body Q it s₂) (fun _ _ => False) s₁) (fun _ _ => False) s)
    (hs : ∀ x, foldedSetIterable iter env x = pure x := by intro _; rfl) :
    wpAny (model prog w) A (exec (.For (.Name x px) iter body [] pos) env) Q (fun _ _ => False) s := by
  refine wpAny_For (wpAny_mono h (fun xv s₁ h₁ => wpAny_mono h₁ (fun it s₂ h₂ => ?_) fun _ _ e => e) fun _ _ e => e) hs
  obtain ⟨I, fp, n, P, St, J, rfl, W, hst, hj, step, done⟩ := h₂
  refine codeAny_forLoop (fun k s' => ∃ i, i ≤ n ∧ k = n + 1 - i ∧ St i s'.heap ∧ J i s') ?_ (n + 1) ⟨0, Nat.zero_le _, rfl, hst, hj⟩
  rintro k s' ⟨i, hi, rfl, hst', hj'⟩
  by_cases hlt : i < n
  · refine W.item i _ _ _ hlt hst' fun v h₁ tk₁ hP hst₁ hk₁ => ?_
    refine wpAny_assign_Name (wpAny_mono (step i s' hlt hj' v h₁ tk₁ hP hst₁ fun b o hb e => hk₁ b o (by simpa using hb) e) (fun _ s₃ h₃ => ?_) fun _ _ e => e.elim)
    refine wpAny_mono h₃ (fun f s₄ h₄ => ?_) fun _ _ e => e.elim
    cases f with
    | next => exact ⟨n + 1 - (i + 1), by omega, i + 1, hlt, rfl, h₄.1, h₄.2⟩
    | cont => exact ⟨n + 1 - (i + 1), by omega, i + 1, hlt, rfl, h₄.1, h₄.2⟩
    | brk => exact h₄
    | ret v => exact h₄
  · have hin : i = n := by omega
    subst hin
    refine W.done _ _ _ hst' fun h₁ tk₁ hk₁ => wpAny_execs_nil ?_
    exact done s' hj' h₁ tk₁ fun b o hb e => hk₁ b o (by simpa using hb) e
end

section
variable {w : World} {dp un : Nat} {gd : Option (List Code)} {cn : Str} {cs : Scope} {L a : Addr} {ccd : Value} {cl : List (Str × Addr)} {outer : List Env}
    {A₀ : Around} {base h₀ : Heap} {m : Str → Option Value} {s : Shared} {p : Program} {loose : List Str} {mean : ExcName → Option Value} {mg mb : Str → Option Value}
    {st nums : Addr} {at_ : Int} {ta : Tok} {e : Nat} {vs : List Value} {ns : List Int} {many : Int} {tm : Tok} {news : List (Addr × Obj)} {g : Obj → List (Addr × Obj)} {Q : Value → Shared → Prop}

theorem next_use (B : Below A₀ base outer h₀) (F : Fr h₀ L s.heap m) (X : (Et.hd.heap_39 w.params).In h₀) (T : Top p loose mean mg mb h₀) (hk : cs.kind = .function)
    (N : News h₀ L s.heap news) (U : UpdF st (stO nums at_ ta e) news g) (hnums : h₀.IsList nums vs.toArray) (hi : IntsAre vs ns)
    (hn : 0 < vs.length) (hn2 : vs.length ≤ 100) (hall : ∀ n ∈ ns, 0 ≤ n ∧ n < 10000000) (ha : 0 ≤ at_) (ha2 : at_ < 100000) (hm : 0 < many) (hm2 : many < 100)
    (hd : dp + 20 < 1000) (hu : un + 100 < cLine)
    (h : ∀ k t t' e' h' tk', 0 ≤ k → k < many → Fr h₀ L h' m → News h₀ L h' (g (stO nums (at_ + 1) t' e')) → Q (.int k t) { s with heap := h', toks := tk' }) :
    wpAny (model PySem.Challenge.rw_ez0423_01.row.prog w) (top dp un gd cn cs L a ccd cl outer) (call (.ref 178) [.ref st, .int many tm]) Q (fun _ _ => False) s := by
  obtain ⟨pre, post, rfl, hg, q1, q2⟩ := U.split
  have hm0 := N (st, stO nums at_ ta e) (List.mem_append_right _ (.head _))
  have hns : st ≠ nums := fun e => by
    obtain ⟨o, ho, _⟩ := hnums
    rw [← e, hm0.2.2] at ho; cases ho
  have hlist : s.heap.IsList nums vs.toArray := let ⟨o, ho, r⟩ := hnums; ⟨o, F.keep _ _ ho, r⟩
  refine wpAny_mono (next_c B F X T hk hm0.1 hm0.2.1 hm0.2.2 hlist hns hi hn hn2 hall ha ha2 hm hm2 hd hu) (fun r s' hr => ?_) fun _ _ e => e
  obtain ⟨⟨a1, a2, a3⟩, a4, k, t, t', e', rfl, b1, b2, b3⟩ := hr
  obtain ⟨h', g', d', tk', os'⟩ := s'
  dsimp only at a1 a2 a3 a4 b3
  subst a1; subst a2; subst a4
  have other : ∀ b o, b ≠ st → s.heap.get? b = some o → h'.get? b = some o := fun b o hb e => a3 b o (by simpa using hb) e
  refine h k t t' e' h' tk' b1 b2 ⟨F.ns.at' fun o e => other L o (Ne.symm hm0.2.1) e, fun b o e => other b o (fun q => ?_) (F.keep b o e), F.above⟩ ?_
  · rw [q, hm0.2.2] at e; cases e
  · rw [hg]
    intro p hp
    rcases List.mem_append.mp hp with hp | hp
    · have := N p (List.mem_append_left _ hp)
      exact ⟨other _ _ (q1 p hp) this.1, this.2⟩
    · rcases List.mem_cons.mp hp with rfl | hp
      · exact ⟨b3, hm0.2⟩
      · have := N p (List.mem_append_right _ (.tail _ hp))
        exact ⟨other _ _ (q2 p hp) this.1, this.2⟩
end
end Et
end
section
open PySem PySem.W PySem.Calls PyProof.Rows
set_option Elab.async false
set_option maxRecDepth 100000
namespace Et
theorem slot_frozenset_init : Slot "frozenset" "__init__" "object.__init__" :=
  .of (owner := "object") (n := "__init__") (by rw [typeLookup_type, builtinLookup_eq_fast]; kernel_rfl) (by decide +kernel) (by decide +kernel) (by decide +kernel)
    (by first | exact .inl (by decide +kernel) | exact .inr (by decide +kernel)) (by rw [isSubtype_type]; kernel_rfl)
theorem mro_frozenset : mroOf (.type "frozenset") = pure [.type "frozenset", .type "object"] := by rw [mroOf_type]; kernel_rfl
theorem lookup_frozenset_new : typeLookup (.type "frozenset") "__new__" = pure (some (.builtin "frozenset.__new__")) := by rw [typeLookup_type, builtinLookup_eq_fast]; kernel_rfl
theorem called_frozenset : TypeCalled "frozenset" "frozenset.__new__" "object.__init__" :=
  ⟨by decide +kernel, by decide +kernel, ⟨_, _, mro_frozenset⟩, madeBy_type mro_frozenset lookup_frozenset_new (by decide +kernel), by decide +kernel, by rw [isSubtype_type]; kernel_rfl, slot_frozenset_init⟩
theorem typeCall_frozenset_0 : checkTypeCall "frozenset" ⟨[], []⟩ = pure () := by kernel_rfl
theorem typeCall_frozenset_1 (a : Value) : checkTypeCall "frozenset" ⟨[a], []⟩ = pure () := by kernel_rfl
theorem newCall_frozenset_0 : checkBuiltinCall "frozenset.__new__" ⟨[.type "frozenset"], []⟩ = pure () := by kernel_rfl
theorem newCall_frozenset_1 (a : Value) : checkBuiltinCall "frozenset.__new__" ⟨[.type "frozenset", a], []⟩ = pure () := by kernel_rfl
theorem entry_frozenset_new : entryFor table "frozenset.__new__" = some Builtin.«frozenset.__new__» := entryFor_of_tree (by kernel_rfl)
theorem plain_frozenset_new : plainId "frozenset.__new__" = true := by decide +kernel
theorem sub_frozenset_self : isSubtype (.type "frozenset") (.type "frozenset") = pure true := by rw [isSubtype_type]; kernel_rfl

theorem slot_frozenset_iter : Slot "frozenset" "__iter__" "frozenset.__iter__" :=
  .of (owner := "frozenset") (n := "__iter__") (by rw [typeLookup_type, builtinLookup_eq_fast]; kernel_rfl) (by decide +kernel) (by decide +kernel) (by decide +kernel)
    (by first | exact .inl (by decide +kernel) | exact .inr (by decide +kernel)) (by rw [isSubtype_type]; kernel_rfl)
theorem entry_frozenset_iter : entryFor table "frozenset.__iter__" = some Builtin.«frozenset.__iter__» := entryFor_of_tree (by kernel_rfl)
theorem args_frozenset_iter_1 (a : Value) : argsOk "frozenset.__iter__" ⟨[a], []⟩ := by
  unfold argsOk; rw [signature?_of (id := "frozenset.__iter__") (n := ['_', '_', 'r', 'e', 't', 'i', '_', '_']) (o := ['t', 'e', 's', 'n', 'e', 'z', 'o', 'r', 'f']) (by kernel_rfl) PySem.W.FB.owner_frozenset]; kernel_rfl
theorem slot_frozenset_len : Slot "frozenset" "__len__" "frozenset.__len__" :=
  .of (owner := "frozenset") (n := "__len__") (by rw [typeLookup_type, builtinLookup_eq_fast]; kernel_rfl) (by decide +kernel) (by decide +kernel) (by decide +kernel)
    (by first | exact .inl (by decide +kernel) | exact .inr (by decide +kernel)) (by rw [isSubtype_type]; kernel_rfl)
theorem entry_frozenset_len : entryFor table "frozenset.__len__" = some Builtin.«frozenset.__len__» := entryFor_of_tree (by kernel_rfl)
theorem args_frozenset_len_1 (a : Value) : argsOk "frozenset.__len__" ⟨[a], []⟩ := by
  unfold argsOk; rw [signature?_of (id := "frozenset.__len__") (n := ['_', '_', 'n', 'e', 'l', '_', '_']) (o := ['t', 'e', 's', 'n', 'e', 'z', 'o', 'r', 'f']) (by kernel_rfl) PySem.W.FB.owner_frozenset]; kernel_rfl
theorem entry_set_iter : entryFor table "set.__iter__" = some Builtin.«frozenset.__iter__» :=
  entryFor_alias (id' := "frozenset.__iter__") (by kernel_rfl) rfl (by decide +kernel) (by kernel_rfl)
theorem slot_setit_next : Slot "set_iterator" "__next__" "set_iterator.__next__" :=
  .of (owner := "set_iterator") (n := "__next__") (by rw [typeLookup_type, builtinLookup_eq_fast]; kernel_rfl) (by decide +kernel) (by decide +kernel) (by decide +kernel)
    (by first | exact .inl (by decide +kernel) | exact .inr (by decide +kernel)) (by rw [isSubtype_type]; kernel_rfl)
theorem slot_setit_iter : Slot "set_iterator" "__iter__" "set_iterator.__iter__" :=
  .of (owner := "set_iterator") (n := "__iter__") (by rw [typeLookup_type, builtinLookup_eq_fast]; kernel_rfl) (by decide +kernel) (by decide +kernel) (by decide +kernel)
    (by first | exact .inl (by decide +kernel) | exact .inr (by decide +kernel)) (by rw [isSubtype_type]; kernel_rfl)
theorem entry_setit_next : entryFor table "set_iterator.__next__" = some Builtin.«set_iterator.__next__» := entryFor_of_tree (by kernel_rfl)
theorem owner_setit : Manifest.owners.lookup (String.ofList ['r', 'o', 't', 'a', 'r', 'e', 't', 'i', '_', 't', 'e', 's'].reverse) = some Manifest.sig_set_iterator := by kernel_rfl
theorem args_setit_next_1 (a : Value) : argsOk "set_iterator.__next__" ⟨[a], []⟩ := by
  unfold argsOk; rw [signature?_of (id := "set_iterator.__next__") (n := ['_', '_', 't', 'x', 'e', 'n', '_', '_']) (o := ['r', 'o', 't', 'a', 'r', 'e', 't', 'i', '_', 't', 'e', 's']) (by kernel_rfl) owner_setit]; kernel_rfl
theorem args_setit_iter_1 (a : Value) : argsOk "set_iterator.__iter__" ⟨[a], []⟩ := by
  unfold argsOk; rw [signature?_of (id := "set_iterator.__iter__") (n := ['_', '_', 'r', 'e', 't', 'i', '_', '_']) (o := ['r', 'o', 't', 'a', 'r', 'e', 't', 'i', '_', 't', 'e', 's']) (by kernel_rfl) owner_setit]; kernel_rfl
theorem plain_re_Pattern : PlainAttrs "re.Pattern" :=
  ⟨⟨"object.__getattribute__", by rw [typeLookup_type, builtinLookup_eq_fast]; kernel_rfl, by decide +kernel⟩, by rw [typeLookup_type, builtinLookup_eq_fast]; kernel_rfl⟩
theorem slot_pat_match : Slot "re.Pattern" "match" "re.Pattern.match" :=
  .of (owner := "re.Pattern") (n := "match") (by rw [typeLookup_type, builtinLookup_eq_fast]; kernel_rfl) (by decide +kernel) (by decide +kernel) (by decide +kernel)
    (by first | exact .inl (by decide +kernel) | exact .inr (by decide +kernel)) (by rw [isSubtype_type]; kernel_rfl)
theorem type_pat_match : typeOf (.builtin "re.Pattern.match") = pure (.type "method_descriptor") := by show builtinType _ = _; rw [builtinType_eq_fast]; kernel_rfl
theorem entry_pat_match : entryFor table "re.Pattern.match" = some Builtin.«re.Pattern.match» := entryFor_of_tree (by kernel_rfl)
theorem owner_pat : Manifest.owners.lookup (String.ofList ['n', 'r', 'e', 't', 't', 'a', 'P', '.', 'e', 'r'].reverse) = some Manifest.sig_re_Pattern := by kernel_rfl
theorem args_pat_match_3 (a b c : Value) : argsOk "re.Pattern.match" ⟨[a, b, c], []⟩ := by
  unfold argsOk; rw [signature?_of (id := "re.Pattern.match") (n := ['h', 'c', 't', 'a', 'm']) (o := ['n', 'r', 'e', 't', 't', 'a', 'P', '.', 'e', 'r']) (by kernel_rfl) owner_pat]; kernel_rfl
theorem plain_re_Match : PlainAttrs "re.Match" :=
  ⟨⟨"object.__getattribute__", by rw [typeLookup_type, builtinLookup_eq_fast]; kernel_rfl, by decide +kernel⟩, by rw [typeLookup_type, builtinLookup_eq_fast]; kernel_rfl⟩
theorem slot_match_groups : Slot "re.Match" "groups" "re.Match.groups" :=
  .of (owner := "re.Match") (n := "groups") (by rw [typeLookup_type, builtinLookup_eq_fast]; kernel_rfl) (by decide +kernel) (by decide +kernel) (by decide +kernel)
    (by first | exact .inl (by decide +kernel) | exact .inr (by decide +kernel)) (by rw [isSubtype_type]; kernel_rfl)
theorem slot_match_end : Slot "re.Match" "end" "re.Match.end" :=
  .of (owner := "re.Match") (n := "end") (by rw [typeLookup_type, builtinLookup_eq_fast]; kernel_rfl) (by decide +kernel) (by decide +kernel) (by decide +kernel)
    (by first | exact .inl (by decide +kernel) | exact .inr (by decide +kernel)) (by rw [isSubtype_type]; kernel_rfl)
theorem type_match_groups : typeOf (.builtin "re.Match.groups") = pure (.type "method_descriptor") := by show builtinType _ = _; rw [builtinType_eq_fast]; kernel_rfl
theorem type_match_end : typeOf (.builtin "re.Match.end") = pure (.type "method_descriptor") := by show builtinType _ = _; rw [builtinType_eq_fast]; kernel_rfl
theorem entry_match_groups : entryFor table "re.Match.groups" = some Builtin.«re.Match.groups» := entryFor_of_tree (by kernel_rfl)
theorem entry_match_end : entryFor table "re.Match.end" = some Builtin.«re.Match.end» := entryFor_of_tree (by kernel_rfl)
theorem owner_match : Manifest.owners.lookup (String.ofList ['h', 'c', 't', 'a', 'M', '.', 'e', 'r'].reverse) = some Manifest.sig_re_Match := by kernel_rfl
theorem args_match_groups_1 (a : Value) : argsOk "re.Match.groups" ⟨[a], []⟩ := by
  unfold argsOk; rw [signature?_of (id := "re.Match.groups") (n := ['s', 'p', 'u', 'o', 'r', 'g']) (o := ['h', 'c', 't', 'a', 'M', '.', 'e', 'r']) (by kernel_rfl) owner_match]; kernel_rfl
theorem args_match_end_1 (a : Value) : argsOk "re.Match.end" ⟨[a], []⟩ := by
  unfold argsOk; rw [signature?_of (id := "re.Match.end") (n := ['d', 'n', 'e']) (o := ['h', 'c', 't', 'a', 'M', '.', 'e', 'r']) (by kernel_rfl) owner_match]; kernel_rfl
theorem slot_set_update : Slot "set" "update" "set.update" :=
  .of (owner := "set") (n := "update") (by rw [typeLookup_type, builtinLookup_eq_fast]; kernel_rfl) (by decide +kernel) (by decide +kernel) (by decide +kernel)
    (by first | exact .inl (by decide +kernel) | exact .inr (by decide +kernel)) (by rw [isSubtype_type]; kernel_rfl)
theorem type_set_update : typeOf (.builtin "set.update") = pure (.type "method_descriptor") := by show builtinType _ = _; rw [builtinType_eq_fast]; kernel_rfl
theorem entry_set_update : entryFor table "set.update" = some Builtin.«set.update» := entryFor_of_tree (by kernel_rfl)
theorem args_set_update_2 (a b : Value) : argsOk "set.update" ⟨[a, b], []⟩ := by
  unfold argsOk; rw [signature?_of (id := "set.update") (n := ['e', 't', 'a', 'd', 'p', 'u']) (o := ['t', 'e', 's']) (by kernel_rfl) F.owner_set]; kernel_rfl
theorem entry_setit_iter : entryFor table "set_iterator.__iter__" = some Builtin.«dict_keyiterator.__iter__» :=
  entryFor_alias (id' := "dict_keyiterator.__iter__") (by kernel_rfl) rfl (by decide +kernel) (by kernel_rfl)
end Et
end
section
open PySem PySem.W PySem.Calls PyProof.Rows
set_option Elab.async false
set_option maxRecDepth 100000
namespace Et
theorem strs_len {vs : List Value} {ss : List Str} (hi : StrsAre vs ss) : vs.length = ss.length := by
  induction hi with
  | nil => rfl
  | cons y t hr ih => simp [ih]
theorem strs_at {vs : List Value} {ss : List Str} (hi : StrsAre vs ss) : ∀ (i : Nat) (v : Value), vs[i]? = some v → ∃ t, v = .str (ss.getD i Str.empty) t := by
  induction hi with
  | nil => intro i v h; simp at h
  | cons y t hr ih =>
    intro i v h
    cases i with
    | zero => simp at h; exact ⟨t, by rw [← h]; rfl⟩
    | succ i => simp at h; simpa using ih i v h
section
variable {prog : Program} {w : World}
abbrev KStr (prog : Program) (w : World) := PySem.strKind prog w

/-- the items of a set of texts: each beside its hash -/
def Els (w : World) (l : List (Int × Value)) (ks : List Str) : Prop := (∀ e ∈ l, ∃ k tk, e = (hashStr w k, .str k tk)) ∧ l.map (fun e => strOf e.2) = ks
theorem Els.nil : Els w [] [] := ⟨fun _ h => (nomatch h), rfl⟩
theorem Els.perm {l l' : List (Int × Value)} {ks : List Str} (h : Els w l ks) (p : l'.Perm l) : Els w l' (l'.map fun e => strOf e.2) ∧ (l'.map fun e => strOf e.2).Perm ks :=
  ⟨⟨fun e he => h.1 e (p.mem_iff.mp he), rfl⟩, h.2 ▸ p.map _⟩
theorem Els.push {l : List (Int × Value)} {ks : List Str} (h : Els w l ks) (k : Str) (tk : Tok) : Els w (l ++ [(hashStr w k, .str k tk)]) (ks ++ [k]) :=
  ⟨fun e he => (List.mem_append.mp he).elim (h.1 e) fun he => ⟨k, tk, List.mem_singleton.mp he⟩, by rw [List.map_append, h.2]; rfl⟩
theorem Els.elems {l : List (Int × Value)} {ks : List Str} (h : Els w l ks) : ElemsOf (KStr prog w) l := fun e he => by
  obtain ⟨k, tk, rfl⟩ := h.1 e he
  exact ⟨⟨k, strKind_is prog w k tk, rfl⟩, rfl⟩
theorem Els.mem {l : List (Int × Value)} {ks : List Str} (h : Els w l ks) (k : Str) : k ∈ ks ↔ ∃ e ∈ l, (KStr prog w).is k e.2 = true := by
  rw [← h.2, List.mem_map]
  constructor
  · rintro ⟨e, he, rfl⟩
    obtain ⟨k', tk, rfl⟩ := h.1 e he
    exact ⟨_, he, strKind_is prog w k' tk⟩
  · rintro ⟨e, he, hk⟩
    obtain ⟨k', tk, rfl⟩ := h.1 e he
    exact ⟨_, he, ((KStr prog w).inj _ _ _ hk (strKind_is prog w k' tk)).symm⟩
theorem Els.length {l : List (Int × Value)} {ks : List Str} (h : Els w l ks) : l.length = ks.length := by rw [← h.2, List.length_map]

structure SetW (w : World) (cls : String) (es : Array (Int × Value)) (t : SetTable) (ks : List Str) : Prop where
  els : Els w es.toList ks
  nodup : ks.Nodup
  fits : t.fits es.size = true
  led : t.led = true ∨ w.params.followText "set-order" = true
  plain : t.plain = false ∨ es.size = 0
  fresh : es.size = 0 → t.mask = 7 ∧ t.dummies = #[]
def SetO (w : World) (o : Obj) (cls : String) (ks : List Str) : Prop := ∃ es ep t, o = ({ cls := .type cls, data := .set es ep t } : Obj) ∧ SetW w cls es t ks

variable {A : Around} {E : Value → Shared → Prop} {s : Shared}

theorem fits_tab {t t' : SetTable} {n : Nat} (h : t.fits n = true) (h1 : t'.place = t.place) (h2 : t'.dummies = t.dummies) (h3 : t'.mask = t.mask) : t'.fits n = true := by
  unfold SetTable.fits SetTable.fill at *
  rw [h1, h2, h3]; exact h
theorem orStandIn_led (t : SetTable) (n : Nat) : (t.orStandIn n).led = t.led := by
  unfold SetTable.orStandIn; split <;> rfl
theorem layNew_led (t : SetTable) (es : Array (Int × Value)) (h : Int) (x : Value) : (layNew t es h x).2.1.led = t.led := by
  unfold layNew
  split
  · exact orStandIn_led _ _
  · rfl
theorem laid_led {mask finger moves : Nat} {led plain : Bool} {hs : Array Int} {t : SetTable} {o : Array Nat} (h : SetTable.laid mask finger moves led plain hs = some (t, o)) : t.led = led ∧ t.plain = plain := by
  unfold SetTable.laid at h
  cases hl : SetTable.layClean mask hs with
  | none => rw [hl] at h; cases h
  | some ow => rw [hl] at h; cases h; exact ⟨rfl, rfl⟩
theorem relayAll_led (t : SetTable) (es : Array (Int × Value)) (wanted : Nat) : (relayAll t es wanted).2.1.led = t.led ∧ ((relayAll t es wanted).2.1.plain = t.plain ∨ (relayAll t es wanted).2.1.plain = false) := by
  unfold relayAll
  split
  · rename_i t' order ht
    have := laid_led ht
    dsimp only
    split
    · exact ⟨this.1, .inl this.2⟩
    · exact ⟨rfl, .inr rfl⟩
  · exact ⟨rfl, .inr rfl⟩

theorem SetO.get_update {h : Heap} {a : Addr} {cls : String} {es es' : Array (Int × Value)} {ep : Nat} {t t' : SetTable} (ho : h.get? a = some ({ cls := .type cls, data := .set es ep t } : Obj)) :
    (h.update a (Obj.putSet es' t')).get? a = some ({ cls := .type cls, data := .set es' (ep + 1) t' } : Obj) := by
  have := Heap.get?_update_self (Obj.putSet es' t') ho (by rw [putSet_of es' t' rfl]; rfl)
  rw [putSet_of es' t' rfl] at this; exact this

theorem wpAny_gave {b : Bool} {Q : Unit → Shared → Prop} (h : Q () s) : wpAny (model prog w) A (match b with | true => rule "set.scan.the-table-gave-way" | false => pure ()) Q E s := by
  cases b <;> first | exact wpAny_pure h | exact wpAny_rule h

theorem add_str {a : Addr} {o : Obj} {cls : String} {ks : List Str} {k : Str} {tk : Tok} {Q : Bool → Shared → Prop} (ho : s.heap.get? a = some o) (hS : SetO w o cls ks) (hroom : ks.length + 1 < scanBound)
    (h : ∀ h' o' ks', Heap.SameBut a s.heap h' → h'.get? a = some o' → SetO w o' cls ks' → (if k ∈ ks then ks' = ks else ks'.Perm (k :: ks)) → Q (decide (k ∉ ks)) { s with heap := h' }) :
    wpAny (model prog w) A (setAddHashed a (.str k tk) (hashStr w k)) Q E s := by
  obtain ⟨es, ep, t, rfl, W⟩ := hS
  have hkey : (KStr prog w).is k (.str k tk) = true := strKind_is prog w k tk
  have hsc : (Value.str k tk).scannable = true := rfl
  have hel : ElemsOf (KStr prog w) es.toList := W.els.elems
  have hlen : es.size = ks.length := by rw [← W.els.length, Array.length_toList]
  have hb1 : es.size + 1 < scanBound := by rw [hlen]; exact hroom
  unfold setAddHashed setAddHashedIn
  refine wpAny_holding (wpAny_bind (wpAny_setState_of ho rfl W.fits ?_))
  dsimp only
  rw [byScan_of hsc (by omega) hel]
  simp only [↓reduceIte]
  unfold setAddByScan
  refine wpAny_bind ?_
  refine wpAny_bind (wpAny_rule ?_)
  refine wpAny_bind (wpAny_setScan_of (knd := KStr prog w) hkey ho rfl W.fits hel ?_)
  cases hr : List.findIdx? (fun e => (KStr prog w).is k e.2) es.toList with
  | some j =>
    dsimp only
    obtain ⟨hj, hpj, _⟩ := List.findIdx?_eq_some_iff_getElem.mp hr
    have hm : k ∈ ks := (W.els.mem (prog := prog) k).mpr ⟨_, List.getElem_mem hj, hpj⟩
    refine wpAny_pure (wpAny_pure ?_)
    have := h s.heap _ ks (Heap.SameBut.refl a s.heap) ho ⟨es, ep, t, rfl, W⟩ (by rw [if_pos hm])
    rw [show decide (k ∉ ks) = false by simp [hm]] at this
    exact this
  | none =>
    dsimp only
    have hm : k ∉ ks := fun hk => by
      obtain ⟨e, he, hp⟩ := (W.els.mem (prog := prog) k).mp hk
      have := List.findIdx?_eq_none_iff.mp hr e he
      rw [hp] at this; cases this
    have hperm := layNew_perm t es (hashStr w k) (.str k tk)
    have hfits := layNew_fits t es (hashStr w k) (.str k tk)
    have hled := layNew_led t es (hashStr w k) (.str k tk)
    show wpAny _ _ _ _ _ _
    change wpAny _ _ (let (es, t, wasDummy, gave) := layNew t es (hashStr w k) (.str k tk); _) _ _ _
    generalize hL : layNew t es (hashStr w k) (.str k tk) = R at hperm hfits hled ⊢
    obtain ⟨es1, t1, wasDummy, gave⟩ := R
    dsimp only at hperm hfits hled ⊢
    rw [Array.toList_push] at hperm
    obtain ⟨hels1, hp1⟩ := (W.els.push k tk).perm hperm
    have hp1' : (es1.toList.map fun e => strOf e.2).Perm (k :: ks) := hp1.trans (List.perm_append_singleton k ks)
    have hnd : (es1.toList.map fun e => strOf e.2).Nodup := hp1'.nodup_iff.mpr (List.nodup_cons.mpr ⟨hm, W.nodup⟩)
    have hsz1 : es1.size = es.size + 1 := by rw [← Array.length_toList, hperm.length_eq, List.length_append, Array.length_toList]; rfl
    refine wpAny_bind (wpAny_gave ?_)
    have hend : ∀ h' o' ks', Heap.SameBut a s.heap h' → h'.get? a = some o' → SetO w o' cls ks' → ks'.Perm (k :: ks) → Q true { s with heap := h' } := fun h' o' ks' q1 q2 q3 q4 => by
      have := h h' o' ks' q1 q2 q3 (by rw [if_neg hm]; exact q4)
      rwa [show decide (k ∉ ks) = true by simp [hm]] at this
    have tail : ∀ t2 : SetTable, t2.fits es1.size = true → t2.led = t.led → t2.plain = false →
        wpAny (model prog w) A (do
          storeSet a es1 t2
          if (!wasDummy && t2.tooFull) = true then do
              (match (relayAll t2 es1 (SetTable.grown es1.size)).2.2 with | true => rule "set.scan.the-table-gave-way" | false => pure ())
              storeSet a (relayAll t2 es1 (SetTable.grown es1.size)).1 (relayAll t2 es1 (SetTable.grown es1.size)).2.1
              pure (some true)
            else pure (some true)) (fun r s' => wpAny (model prog w) A (match r with
              | some added => pure added
              | none => setAddHashedIn a (.str k tk) (hashStr w k) 99999) Q E s') E s := by
      intro t2 hf2 hl2 hp2
      refine wpAny_bind (wpAny_storeSet_of ho rfl ?_ (fits_of_scanBound (by omega)))
      have ho1 := SetO.get_update (es' := es1) (t' := t2) ho
      have W1 : SetW w cls es1 t2 _ := ⟨hels1, hnd, hf2, by rw [hl2]; exact W.led, .inl hp2, fun h0 => absurd h0 (by omega)⟩
      split
      · have hp := relayAll_perm t2 es1 (SetTable.grown es1.size)
        have hfr := relayAll_fits t2 es1 (SetTable.grown es1.size)
        have hlr := relayAll_led t2 es1 (SetTable.grown es1.size)
        generalize relayAll t2 es1 (SetTable.grown es1.size) = Rl at hp hfr hlr ⊢
        obtain ⟨es2, t3, gave2⟩ := Rl
        dsimp only at hp hfr hlr ⊢
        obtain ⟨hels2, hp2'⟩ := hels1.perm hp
        have hsz2 : es2.size = es1.size := by rw [← Array.length_toList, hp.length_eq, Array.length_toList]
        refine wpAny_bind (wpAny_gave ?_)
        refine wpAny_bind (wpAny_storeSet_of ho1 rfl ?_ (fits_of_scanBound (by omega)))
        have W2 : SetW w cls es2 t3 _ := ⟨hels2, hp2'.nodup_iff.mpr hnd, hfr, by rw [hlr.1, hl2]; exact W.led, .inl (by rcases hlr.2 with e | e <;> rw [e]; exact hp2), fun h0 => absurd h0 (by omega)⟩
        exact wpAny_pure (wpAny_pure (hend _ _ _ ((Heap.SameBut.update s.heap a _).trans (Heap.SameBut.update _ a _)) (SetO.get_update ho1) ⟨_, _, _, rfl, W2⟩ (hp2'.trans hp1')))
      · exact wpAny_pure (wpAny_pure (hend _ _ _ (Heap.SameBut.update s.heap a _) ho1 ⟨_, _, _, rfl, W1⟩ hp1'))
    split
    · rename_i hpl
      refine wpAny_bind ?_
      rw [hashByValue_scannable 8 hsc]
      refine wpAny_pure ?_
      exact tail _ (SetTable.fits_plain_off hfits) hled rfl
    · rename_i hpl
      refine wpAny_bind (wpAny_pure ?_)
      simp only [↓reduceIte]
      exact tail _ hfits hled (by simpa using hpl)

theorem SetO.len {o : Obj} {cls : String} {ks : List Str} (h : SetO w o cls ks) : ∃ es ep t, o = ({ cls := .type cls, data := .set es ep t } : Obj) ∧ es.size = ks.length ∧ t.fits es.size = true := by
  obtain ⟨es, ep, t, e, W⟩ := h
  exact ⟨es, ep, t, e, by rw [← W.els.length, Array.length_toList], W.fits⟩

theorem update_loop_strs {R : Result → Shared → Prop} {I : Addr} {fp wr : List Addr} {n : Nat} {P : Nat → Value → Prop} {St : Nat → Heap → Prop} {cls : String}
    (W : Walks prog w A.in1 I fp wr n P St) (S : Addr) (hSf : S ∉ fp) (val : Nat → Str) (hval : ∀ i v, P i v → ∃ t, v = .str (val i) t) (hb : n + 1 < scanBound) :
    ∀ (k i : Nat) (s : Shared) (o : Obj) (ks : List Str), n - i = k → i ≤ n → St i s.heap → s.heap.get? S = some o → SetO w o cls ks → ks.length ≤ i → (∀ x, x ∈ ks ↔ ∃ j, j < i ∧ val j = x) →
      (∀ h' tk o' ks', (∀ b o, b ≠ S → b ∉ wr → s.heap.get? b = some o → h'.get? b = some o) → h'.get? S = some o' → SetO w o' cls ks' → (∀ x, x ∈ ks' ↔ ∃ j, j < n ∧ val j = x) → ks'.length ≤ n → R (.ok (.ret .none)) { s with heap := h', toks := tk }) →
      codeAny (model prog w) A (.builtin "set.update.loop" ⟨[.ref S, .ref I], []⟩) R s := by
  have hSw : S ∉ wr := fun h => hSf (W.sub _ h)
  intro k
  induction k with
  | zero =>
    intro i s o ks hk hi hst ho hS hlen hmem hR
    have hin : i = n := by omega
    subst hin
    refine codeAny_builtin PyProof.Rows.F.entry_set_update_loop ?_
    rw [Around.under_plainId PyProof.Rows.F.plain_set_update_loop _]
    show wpAny _ A.in1 (pyNext (.ref I) >>= _) _ _ s
    refine wpAny_bind (W.done s _ _ hst fun h' tk hk' => ?_)
    exact wpAny_pure (hR h' tk o ks (fun b o' _ hb' e => hk' b o' hb' e) (hk' S o hSw ho) hS hmem hlen)
  | succ k ih =>
    intro i s o ks hk hi hst ho hS hlen hmem hR
    have hlt : i < n := by omega
    refine codeAny_builtin PyProof.Rows.F.entry_set_update_loop ?_
    rw [Around.under_plainId PyProof.Rows.F.plain_set_update_loop _]
    show wpAny _ A.in1 (pyNext (.ref I) >>= _) _ _ s
    refine wpAny_bind (W.item i s _ _ hlt hst fun v h₁ tk₁ hP hst₁ hk₁ => ?_)
    obtain ⟨t, rfl⟩ := hval i v hP
    show wpAny _ A.in1 (holding [Value.str (val i) t] (setAdd S (.str (val i) t)) >>= _) _ _ _
    refine wpAny_bind (wpAny_holding ?_)
    unfold setAdd
    refine wpAny_holding ?_
    refine wpAny_bind ((KStr prog w).pyHash (k := val i) (strKind_is prog w _ _) ?_)
    refine add_str (s := { s with heap := h₁, toks := tk₁ + 1 }) (hk₁ S o hSw ho) hS (by omega) fun h₂ o₂ ks₂ hsb ho₂ hS₂ hks => ?_
    refine wpAny_pure ⟨plainId_quiet PyProof.Rows.F.plain_set_update_loop _, ih (i + 1) _ o₂ ks₂ (by omega) hlt (W.frame _ _ _ hst₁ fun b hb' o' e => ?_) ho₂ hS₂ ?_ ?_ ?_⟩
    · rw [hsb.2 b (fun h : b = S => hSf (by rw [← h]; exact hb'))]; exact e
    · split at hks
      · rw [hks]; omega
      · rw [hks.length_eq, List.length_cons]; omega
    · intro x
      split at hks
      · rename_i hin
        rw [hks, hmem x]
        constructor
        · rintro ⟨j, hj, e⟩; exact ⟨j, by omega, e⟩
        · rintro ⟨j, hj, e⟩
          by_cases hji : j = i
          · subst hji; rw [e] at hin; exact (hmem x).mp hin
          · exact ⟨j, by omega, e⟩
      · rw [hks.mem_iff, List.mem_cons, hmem x]
        constructor
        · rintro (e | ⟨j, hj, e⟩)
          · exact ⟨i, by omega, e.symm⟩
          · exact ⟨j, by omega, e⟩
        · rintro ⟨j, hj, e⟩
          by_cases hji : j = i
          · subst hji; exact .inl e.symm
          · exact .inr ⟨j, by omega, e⟩
    · intro h' tk o' ks' q1 q2 q3 q4 q5
      refine hR h' tk o' ks' (fun b o₀ hbS hbw e => q1 b o₀ hbS hbw ?_) q2 q3 q4 q5
      show h₂.get? b = some o₀
      rw [hsb.2 b hbS]; exact hk₁ b o₀ hbw e

theorem newSet_any {cls : String} {Q : Value → Shared → Prop}
    (h : ∀ o, SetO w o cls [] → o.isFreed = false → Q (.ref s.heap.objs.size) { s with heap := s.heap.push o }) :
    wpAny (model prog w) A (newSet (.type cls)) Q E s := by
  unfold newSet setsByText
  refine wpAny_bind (wpAny_bind (wpAny_askSetting (wpAny_pure ?_)))
  dsimp only
  simp only [newObj]
  refine wpAny_bind (wpAny_alloc (wpAny_pure ?_))
  refine h _ ⟨#[], 0, _, rfl, ⟨Els.nil, List.nodup_nil, rfl, ?_, .inr rfl, fun _ => ⟨rfl, rfl⟩⟩⟩ rfl
  show (!(w.params.followText "set-order")) = true ∨ _
  cases w.params.followText "set-order" <;> simp

theorem sub_tuple_set : isSubtype (.type "tuple") (.type "set") = pure false := by rw [isSubtype_type]; kernel_rfl
theorem sub_tuple_frozenset : isSubtype (.type "tuple") (.type "frozenset") = pure false := by rw [isSubtype_type]; kernel_rfl

/-- a list of texts laid into a set -/
theorem updateFrom_strs {id : String} {S l : Addr} {o : Obj} {cls : String} {vs : List Value} {ss : List Str} {Q : Unit → Shared → Prop} (hh : A.handled = none)
    (ho : s.heap.get? S = some o) (hS : SetO w o cls []) (hl : s.heap.IsList l vs.toArray) (hi : StrsAre vs ss) (hb : vs.length + 1 < scanBound)
    (h : ∀ h' tk o' ks', (∀ b o₀, b ≠ S → s.heap.get? b = some o₀ → h'.get? b = some o₀) → h'.get? S = some o' → SetO w o' cls ks' → (∀ x, x ∈ ks' ↔ x ∈ ss) → ks'.length ≤ ss.length → Q () { s with heap := h', toks := tk }) :
    wpAny (model prog w) A (Builtin.Frozenset.updateFrom id S (.ref l)) Q E s := by
  obtain ⟨ol, hol, hcl, nl, hdl⟩ := hl
  obtain ⟨ocls, odict, odata, oslots⟩ := ol
  simp only at hcl hdl
  subst hcl; subst hdl
  have hsls := F.sub_list_set
  have hslf := F.sub_list_frozenset
  have hne : (Value.type "list" == Value.type "dict") = false := by decide
  have hl1 : s.heap.IsList l vs.toArray := ⟨_, hol, rfl, nl, rfl⟩
  have hSl : S ≠ l := by
    intro e; subst e
    obtain ⟨es, ep, t, rfl, _⟩ := hS
    rw [ho] at hol; cases hol
  have hlS : l < s.heap.objs.size := Heap.lt_size hol
  have hSS : S < s.heap.objs.size := Heap.lt_size ho
  have key : wpAny (model prog w) A (pyIter (.ref l)) (fun it s' => wpAny (model prog w) A (do let _ ← runValue (.builtin "set.update.loop" ⟨[.ref S, it], []⟩)) Q E s') E s := by
    refine wpAny_pyIter_list hl1 ?_
    refine wpAny_bind (wpAny_runValue ?_)
    have hne2 : l ≠ s.heap.objs.size := Nat.ne_of_lt hlS
    have W := Walks.list (prog := prog) (w := w) (A := A.in1) hh s.heap.objs.size l hne2 vs.toArray
    refine update_loop_strs W S (by simp only [List.mem_cons, List.not_mem_nil, or_false, not_or]; exact ⟨Nat.ne_of_lt hSS, hSl⟩) (fun i => ss.getD i Str.empty) (fun i v hv => ?_) (by simpa using hb) (vs.toArray.size - 0) 0 _ o [] (by omega) (Nat.zero_le _)
      ⟨⟨_, Heap.get?_push_size _ rfl, rfl, rfl⟩, hl1.push _⟩ (Heap.get?_push_of_some _ ho) hS (Nat.zero_le _) (fun x => by simp) ?_
    · simp only [List.getElem?_toArray] at hv
      exact strs_at hi i v hv
    · intro h' tk o' ks' q1 q2 q3 q4 q5
      refine wpAny_pure ?_
      have hlen := strs_len hi
      refine h h' tk o' ks' (fun b o₀ hbS e => q1 b o₀ hbS ?_ (Heap.get?_push_of_some _ e)) q2 q3 (fun x => ?_) (by rw [← hlen]; simpa using q5)
      · intro hbw
        rw [List.mem_singleton] at hbw
        exact absurd (Heap.lt_size e) (by rw [hbw]; exact Nat.lt_irrefl _)
      · rw [q4 x, List.mem_iff_getElem]
        constructor
        · rintro ⟨j, hj, e⟩
          simp only [List.size_toArray] at hj
          exact ⟨j, by omega, by rw [← e]; simp [List.getD_eq_getElem?_getD, show j < ss.length by omega]⟩
        · rintro ⟨j, hj, e⟩
          exact ⟨j, by simp; omega, by rw [← e]; simp [List.getD_eq_getElem?_getD, hj]⟩
  obtain ⟨hp, g, d, tk, os⟩ := s
  unfold Builtin.Frozenset.updateFrom
  generalize hPI : pyIter = PI at key ⊢
  wp_walk
  exact key

theorem froz_new_1 {l : Addr} {T : String} {Q₁ : Value → Shared → Prop} (hT : s.TypeIs (.ref l) T) (hne : (Value.type T == Value.type "frozenset") = false)
    (h : wpAny (model prog w) A.in1 (Builtin.Frozenset.newFrom "frozenset.__new__" (.type "frozenset") (.ref l)) Q₁ E s) :
    codeAny (model prog w) A (.call (.builtin "frozenset.__new__") ⟨[.type "frozenset", .ref l], []⟩) (wants Q₁ E) s := by
  refine codeAny_of_tree ?_
  show wpAny _ A.in1 (do checkBuiltinCall "frozenset.__new__" ⟨[.type "frozenset", .ref l], []⟩; again (.builtin "frozenset.__new__" ⟨[.type "frozenset", .ref l], []⟩)) _ _ s
  refine wpAny_bind (wpAny_of_eq (newCall_frozenset_1 _) (wpAny_pure ⟨plainId_quiet plain_frozenset_new _, codeAny_builtin entry_frozenset_new ?_⟩))
  rw [Around.under_plainId plain_frozenset_new _]
  unfold Builtin.«frozenset.__new__» Builtin.Frozenset.newClass
  have hsub := sub_frozenset_self
  have hinit := slot_frozenset_init.lookup
  have h' : wpAny (model prog w) A.in1 (Builtin.Frozenset.newFrom "frozenset.__new__" (.type "frozenset") (.ref l)) (fun v s' => wpAny (model prog w) A.in1 (ret v) (fun fin s'' => match fin with | .done f => wants Q₁ E (.ok f) s'' | .again c' => c'.quiet = true ∧ codeAny (model prog w) A c' (wants Q₁ E) s'') (fun e s'' => wants Q₁ E (.error e) s'') s') E s :=
    wpAny_mono h (fun v s' q => wpAny_pure q) fun _ _ e => e
  generalize Builtin.Frozenset.newFrom = NF at h' ⊢
  obtain ⟨hp, g, d, tk, os⟩ := s
  dsimp only
  wp_walk using wpAny_typeOf hT
  exact h'

def SetAt (w : World) (h : Heap) (a : Addr) (cls : String) (ks : List Str) : Prop := ∃ o, h.get? a = some o ∧ SetO w o cls ks
theorem SetO.cls_ {o : Obj} {cls : String} {ks : List Str} (h : SetO w o cls ks) : o.cls = .type cls := by obtain ⟨_, _, _, rfl, _⟩ := h; rfl

theorem froz_call {args : List Value} {Q : Value → Shared → Prop} (hct : checkTypeCall "frozenset" ⟨args, []⟩ = pure ()) (hok : ∀ obj, argsOk "object.__init__" ⟨obj :: args, []⟩)
    (hnew : codeAny (model prog w) A.in1 (.call (.builtin "frozenset.__new__") ⟨.type "frozenset" :: args, []⟩) (wants (fun v s' => s'.TypeIs v "frozenset" ∧ Q v s') E) s) :
    wpAny (model prog w) A (call (.type "frozenset") args) Q E s :=
  callType_codes called_frozenset hct F.entry_object_init hnew fun obj s₁ hq =>
    ⟨hq.1, hok obj, (object_init_meets slot_frozenset_init.lookup called_frozenset.made (by decide)) prog w A.in1 _ s₁ ⟨hq.1, rfl, hq.2⟩⟩

theorem newFrom_strs {id cls : String} {l : Addr} {vs : List Value} {ss : List Str} {Q : Value → Shared → Prop} (hh : A.handled = none) (hl : s.heap.IsList l vs.toArray) (hi : StrsAre vs ss) (hb : vs.length + 1 < scanBound)
    (h : ∀ h' tk ks', (∀ b o₀, s.heap.get? b = some o₀ → h'.get? b = some o₀) → SetAt w h' s.heap.objs.size cls ks' → (∀ x, x ∈ ks' ↔ x ∈ ss) → ks'.length ≤ ss.length → Q (.ref s.heap.objs.size) { s with heap := h', toks := tk }) :
    wpAny (model prog w) A (Builtin.Frozenset.newFrom id (.type cls) (.ref l)) Q E s := by
  unfold Builtin.Frozenset.newFrom
  refine wpAny_bind (newSet_any fun o hS hf => ?_)
  refine wpAny_bind (wpAny_pure ?_)
  refine wpAny_bind (wpAny_holding ?_)
  refine updateFrom_strs (s := { s with heap := s.heap.push o }) hh (Heap.get?_push_size _ hf) hS (hl.push _) hi hb fun h' tk o' ks' q1 q2 q3 q4 q5 => ?_
  refine wpAny_pure (h h' tk ks' (fun b o₀ e => q1 b o₀ (Nat.ne_of_lt (Heap.lt_size e)) (Heap.get?_push_of_some _ e)) ⟨o', q2, q3⟩ q4 q5)

theorem call_frozenset_strs {l : Addr} {vs : List Value} {ss : List Str} {Q : Value → Shared → Prop} (hh : A.handled = none) (hl : s.heap.IsList l vs.toArray) (hi : StrsAre vs ss) (hb : vs.length + 1 < scanBound)
    (h : ∀ h' tk ks', (∀ b o₀, s.heap.get? b = some o₀ → h'.get? b = some o₀) → SetAt w h' s.heap.objs.size "frozenset" ks' → (∀ x, x ∈ ks' ↔ x ∈ ss) → ks'.length ≤ ss.length → Q (.ref s.heap.objs.size) { s with heap := h', toks := tk }) :
    wpAny (model prog w) A (call (.type "frozenset") [.ref l]) Q E s := by
  refine froz_call (typeCall_frozenset_1 _) (fun obj => F.args_object_init_2 obj _) (froz_new_1 hl.typeIs (by decide) ?_)
  refine newFrom_strs hh hl hi hb fun h' tk ks' q1 q2 q3 q4 => ⟨?_, h h' tk ks' q1 q2 q3 q4⟩
  obtain ⟨o, ho, hS⟩ := q2
  exact ⟨o, ho, hS.cls_⟩

theorem froz_new_0 {Q₁ : Value → Shared → Prop} (h : wpAny (model prog w) A.in1 (newSet (.type "frozenset")) Q₁ E s) :
    codeAny (model prog w) A (.call (.builtin "frozenset.__new__") ⟨[.type "frozenset"], []⟩) (wants Q₁ E) s := by
  refine codeAny_of_tree ?_
  show wpAny _ A.in1 (do checkBuiltinCall "frozenset.__new__" ⟨[.type "frozenset"], []⟩; again (.builtin "frozenset.__new__" ⟨[.type "frozenset"], []⟩)) _ _ s
  refine wpAny_bind (wpAny_of_eq newCall_frozenset_0 (wpAny_pure ⟨plainId_quiet plain_frozenset_new _, codeAny_builtin entry_frozenset_new ?_⟩))
  rw [Around.under_plainId plain_frozenset_new _]
  unfold Builtin.«frozenset.__new__» Builtin.Frozenset.newClass
  have hsub := sub_frozenset_self
  have hinit := slot_frozenset_init.lookup
  have h' : wpAny (model prog w) A.in1 (newSet (.type "frozenset")) (fun v s' => wpAny (model prog w) A.in1 (ret v) (fun fin s'' => match fin with | .done f => wants Q₁ E (.ok f) s'' | .again c' => c'.quiet = true ∧ codeAny (model prog w) A c' (wants Q₁ E) s'') (fun e s'' => wants Q₁ E (.error e) s'') s') E s :=
    wpAny_mono h (fun v s' q => wpAny_pure q) fun _ _ e => e
  generalize newSet = NF at h' ⊢
  obtain ⟨hp, g, d, tk, os⟩ := s
  dsimp only
  wp_walk
  exact h'
theorem call_frozenset_0 {Q : Value → Shared → Prop}
    (h : ∀ o, SetO w o "frozenset" [] → o.isFreed = false → Q (.ref s.heap.objs.size) { s with heap := s.heap.push o }) :
    wpAny (model prog w) A (call (.type "frozenset") []) Q E s := by
  refine froz_call typeCall_frozenset_0 (fun obj => F.args_object_init_1 obj) (froz_new_0 ?_)
  exact newSet_any fun o hS hf => ⟨⟨o, Heap.get?_push_size _ hf, hS.cls_⟩, h o hS hf⟩

/-- an empty tuple laid into a set -/
theorem updateFrom_unit {id : String} {S l : Addr} {Q : Unit → Shared → Prop} (hh : A.handled = none) (hl : s.heap.IsTuple l #[])
    (h : ∀ h' tk, (∀ b o₀, s.heap.get? b = some o₀ → h'.get? b = some o₀) → Q () { s with heap := h', toks := tk }) :
    wpAny (model prog w) A (Builtin.Frozenset.updateFrom id S (.ref l)) Q E s := by
  obtain ⟨ol, hol, hcl, nl, hdl⟩ := hl
  obtain ⟨ocls, odict, odata, oslots⟩ := ol
  simp only at hcl hdl
  subst hcl; subst hdl
  have hsls := sub_tuple_set
  have hslf := sub_tuple_frozenset
  have hne : (Value.type "tuple" == Value.type "dict") = false := by decide
  have hl1 : s.heap.IsTuple l #[] := ⟨_, hol, rfl, nl, rfl⟩
  have key : wpAny (model prog w) A (pyIter (.ref l)) (fun it s' => wpAny (model prog w) A (do let _ ← runValue (.builtin "set.update.loop" ⟨[.ref S, it], []⟩)) Q E s') E s := by
    refine wpAny_pyIter_tuple hl1 ?_
    refine wpAny_bind (wpAny_runValue ?_)
    refine codeAny_builtin PyProof.Rows.F.entry_set_update_loop ?_
    rw [Around.under_plainId PyProof.Rows.F.plain_set_update_loop _]
    show wpAny _ A.in1 (pyNext (.ref s.heap.objs.size) >>= _) _ _ _
    refine wpAny_bind (wpAny_pyNext_tuple_end (i := 0) (items := #[]) hh ⟨_, Heap.get?_push_size _ rfl, rfl, rfl⟩ (by exact ⟨_, Heap.get?_push_of_some _ hol, rfl, nl, rfl⟩) rfl fun h' he => ?_)
    refine wpAny_pure (wpAny_pure (h h' _ fun b o₀ e => he b o₀ ?_ (Heap.get?_push_of_some _ e)))
    exact Nat.ne_of_lt (Heap.lt_size e)
  obtain ⟨hp, g, d, tk, os⟩ := s
  unfold Builtin.Frozenset.updateFrom
  generalize hPI : pyIter = PI at key ⊢
  wp_walk
  exact key
theorem call_frozenset_unit {l : Addr} {Q : Value → Shared → Prop} (hh : A.handled = none) (hl : s.heap.IsTuple l #[])
    (h : ∀ h' tk, (∀ b o₀, s.heap.get? b = some o₀ → h'.get? b = some o₀) → SetAt w h' s.heap.objs.size "frozenset" [] → Q (.ref s.heap.objs.size) { s with heap := h', toks := tk }) :
    wpAny (model prog w) A (call (.type "frozenset") [.ref l]) Q E s := by
  refine froz_call (typeCall_frozenset_1 _) (fun obj => F.args_object_init_2 obj _) (froz_new_1 hl.typeIs (by decide) ?_)
  unfold Builtin.Frozenset.newFrom
  refine wpAny_bind (newSet_any fun o hS hf => ?_)
  refine wpAny_bind (wpAny_pure ?_)
  refine wpAny_bind (wpAny_holding ?_)
  refine updateFrom_unit (s := { s with heap := s.heap.push o }) hh (hl.push _) fun h' tk q1 => ?_
  have ho := q1 _ _ (Heap.get?_push_size s.heap hf)
  exact wpAny_pure ⟨⟨o, ho, hS.cls_⟩, h h' tk (fun b o₀ e => q1 b o₀ (Heap.get?_push_of_some _ e)) ⟨o, ho, hS⟩⟩
end
end Et
end
section
set_option maxRecDepth 100000
namespace Et
open PySem PySem.SetTable

def seqP (mask : Nat) : Nat → Nat × Nat → Nat × Nat
  | 0, x => x
  | n + 1, x => seqP mask n (leap mask x.1 x.2)
theorem seqP_add (mask : Nat) : ∀ (a b : Nat) (x : Nat × Nat), seqP mask (a + b) x = seqP mask b (seqP mask a x)
  | 0, b, x => by rw [Nat.zero_add]; rfl
  | a + 1, b, x => by rw [show a + 1 + b = (a + b) + 1 by omega]; exact seqP_add mask a b _
theorem leap_le (mask i p : Nat) : (leap mask i p).1 ≤ mask := by
  unfold leap; exact Nat.le_of_lt_succ (Nat.mod_lt _ (Nat.succ_pos _))
theorem runEnd_le {mask i : Nat} (h : i ≤ mask) : i ≤ runEnd mask i ∧ runEnd mask i ≤ mask := by
  unfold runEnd; split <;> omega
theorem seqP_le (mask : Nat) : ∀ (n : Nat) (x : Nat × Nat), x.1 ≤ mask → (seqP mask n x).1 ≤ mask
  | 0, _, h => h
  | n + 1, x, _ => seqP_le mask n _ (leap_le mask _ _)
theorem seqP_two (mask : Nat) : ∀ (n : Nat) (x : Nat × Nat), (seqP mask n x).2 = x.2 / 32 ^ n
  | 0, x => by simp [seqP]
  | n + 1, x => by
    unfold seqP
    rw [seqP_two mask n _]
    unfold leap
    rw [Nat.div_div_eq_div_mul, Nat.pow_succ, Nat.mul_comm]

theorem free_sound {mask : Nat} {owner : Array (Option Nat)} : ∀ (n i p j : Nat), i ≤ mask → layClean.free mask owner n i p = some j → j ≤ mask ∧ owner.getD j (some 0) = none
  | 0, _, _, _, _, h => by cases h
  | n + 1, i, p, j, hi, h => by
    unfold layClean.free at h
    split at h
    · rename_i k hk
      cases h
      have hm := List.mem_range.mp (List.mem_of_find?_eq_some hk)
      have hp := List.find?_some hk
      have := runEnd_le hi
      exact ⟨by omega, by simpa using hp⟩
    · exact free_sound n _ _ j (leap_le mask i p) h
theorem free_none {mask : Nat} {owner : Array (Option Nat)} : ∀ (n i p : Nat), i ≤ mask → layClean.free mask owner n i p = none → ∀ j, j < n → owner.getD (seqP mask j (i, p)).1 (some 0) ≠ none
  | 0, _, _, _, _, j, hj => absurd hj (Nat.not_lt_zero _)
  | n + 1, i, p, hi, h, j, hj => by
    unfold layClean.free at h
    split at h
    · cases h
    · rename_i hk
      cases j with
      | zero =>
        have h0 := List.find?_eq_none.mp hk 0 (List.mem_range.mpr (by have := runEnd_le hi; omega))
        intro e
        apply h0
        show (owner.getD (i + 0) (some 0)).isNone = true
        rw [Nat.add_zero, show owner.getD i (some 0) = none from e]; rfl
      | succ j => exact free_none n _ _ (leap_le mask i p) h j (by omega)

def orbit (mask : Nat) : Nat → Nat → List Nat
  | 0, _ => []
  | n + 1, i => i :: orbit mask n (leap mask i 0).1
theorem orbit_mem (mask : Nat) : ∀ (n i t : Nat), t ∈ orbit mask n i → ∃ j, j < n ∧ (seqP mask j (i, 0)).1 = t
  | 0, _, _, h => by cases h
  | n + 1, i, t, h => by
    unfold orbit at h
    rcases List.mem_cons.mp h with rfl | h
    · exact ⟨0, by omega, rfl⟩
    · obtain ⟨j, hj, e⟩ := orbit_mem mask n _ t h
      refine ⟨j + 1, by omega, ?_⟩
      unfold seqP
      have : leap mask i 0 = ((leap mask i 0).1, 0) := by simp [leap]
      rw [show ((i, 0) : Nat × Nat).1 = i from rfl, show ((i, 0) : Nat × Nat).2 = 0 from rfl, this]
      exact e
def covers (mask : Nat) : Bool := (List.range (mask + 1)).all fun r => (List.range (mask + 1)).all fun t => (orbit mask (mask + 1) r).contains t
theorem covers_7 : covers 7 = true := by decide +kernel
theorem covers_15 : covers 15 = true := by decide +kernel
theorem covers_31 : covers 31 = true := by decide +kernel
theorem reach {mask : Nat} (hc : covers mask = true) {i p t : Nat} (hi : i ≤ mask) (hp : p < 2 ^ 64) (ht : t ≤ mask) : ∃ j, j < turns mask ∧ (seqP mask j (i, p)).1 = t := by
  have h13 : (seqP mask 13 (i, p)).2 = 0 := by
    rw [seqP_two]; exact Nat.div_eq_of_lt (Nat.lt_of_lt_of_le hp (by decide))
  have hr := seqP_le mask 13 (i, p) hi
  unfold covers at hc
  rw [List.all_eq_true] at hc
  have h1 := hc _ (List.mem_range.mpr (Nat.lt_succ_of_le hr))
  rw [List.all_eq_true] at h1
  have h2 := h1 t (List.mem_range.mpr (Nat.lt_succ_of_le ht))
  obtain ⟨j, hj, e⟩ := orbit_mem mask _ _ t (List.contains_iff_mem.mp h2)
  refine ⟨13 + j, by unfold turns; omega, ?_⟩
  rw [seqP_add]
  rw [show seqP mask 13 (i, p) = ((seqP mask 13 (i, p)).1, 0) from Prod.ext rfl h13]
  exact e

def somes (owner : Array (Option Nat)) : List Nat := owner.toList.filterMap id
theorem somes_lt {l : List (Option Nat)} (h : (l.filterMap id).length < l.length) : ∃ j, j < l.length ∧ l.getD j (some 0) = none := by
  induction l with
  | nil => simp at h
  | cons a r ih =>
    cases a with
    | none => exact ⟨0, by simp, rfl⟩
    | some x =>
      simp only [List.filterMap_cons, id, List.length_cons] at h
      obtain ⟨j, hj, e⟩ := ih (by omega)
      exact ⟨j + 1, by simpa using hj, by simpa using e⟩
theorem somes_set {l : List (Option Nat)} {x : Nat} : ∀ {j : Nat}, j < l.length → l.getD j (some 0) = none → ((l.set j (some x)).filterMap id).Perm (x :: l.filterMap id) := by
  induction l with
  | nil => intro j h; simp at h
  | cons a r ih =>
    intro j h e
    cases j with
    | zero =>
      simp only [List.getD_cons_zero] at e
      subst e
      simp
    | succ j =>
      have := ih (j := j) (by simpa using h) (by simpa using e)
      cases a with
      | none => simpa using this
      | some y =>
        simp only [List.set_cons_succ, List.filterMap_cons, id]
        exact (this.cons y).trans (List.Perm.swap x y _)

theorem layClean_ok {mask : Nat} (hc : covers mask = true) : ∀ (l : List Int) (owner : Array (Option Nat)) (k : Nat), owner.size = mask + 1 → (somes owner).Perm (List.range k) → k + l.length ≤ mask →
    ∃ owner', l.foldl (fun acc h => do
      let (owner, k) ← acc
      let j ← layClean.free mask owner (turns mask) (bits h % (mask + 1)) (bits h)
      pure (owner.setIfInBounds j (some k), k + 1)) (some (owner, k)) = some (owner', k + l.length) ∧ owner'.size = mask + 1 ∧ (somes owner').Perm (List.range (k + l.length))
  | [], owner, k, hs, hp, _ => ⟨owner, rfl, hs, hp⟩
  | h :: r, owner, k, hs, hp, hk => by
    rw [List.length_cons] at hk
    have hi : bits h % (mask + 1) ≤ mask := Nat.le_of_lt_succ (Nat.mod_lt _ (Nat.succ_pos _))
    have hb : bits h < 2 ^ 64 := by unfold bits; omega
    have hlen : (somes owner).length = k := by rw [hp.length_eq, List.length_range]
    obtain ⟨j0, hj0, e0⟩ := somes_lt (l := owner.toList) (by show (somes owner).length < _; rw [hlen, Array.length_toList, hs]; omega)
    have e0' : owner.getD j0 (some 0) = none := by
      rw [Array.length_toList] at hj0
      simpa [List.getD_eq_getElem?_getD] using e0
    cases hf : layClean.free mask owner (turns mask) (bits h % (mask + 1)) (bits h) with
    | none =>
      obtain ⟨q, hq, e⟩ := reach hc (i := bits h % (mask + 1)) (p := bits h) (t := j0) hi hb (by rw [Array.length_toList, hs] at hj0; omega)
      exact absurd (e ▸ e0') (free_none _ _ _ hi hf q hq)
    | some j =>
      obtain ⟨hj, ej⟩ := free_sound _ _ _ _ hi hf
      have hjl : j < owner.toList.length := by rw [Array.length_toList, hs]; omega
      have hp' : (somes (owner.setIfInBounds j (some k))).Perm (List.range (k + 1)) := by
        unfold somes
        rw [Array.toList_setIfInBounds]
        refine (somes_set hjl (by simpa [List.getD_eq_getElem?_getD] using ej)).trans ?_
        rw [List.range_succ]
        exact (List.Perm.cons k hp).trans (List.perm_append_singleton k _).symm
      obtain ⟨o', h1, h2, h3⟩ := layClean_ok hc r (owner.setIfInBounds j (some k)) (k + 1) (by simpa using hs) hp' (by omega)
      refine ⟨o', ?_, h2, ?_⟩
      · rw [List.foldl_cons]
        have : (do
            let (owner, k) ← some (owner, k)
            let j ← layClean.free mask owner (turns mask) (bits h % (mask + 1)) (bits h)
            pure (owner.setIfInBounds j (some k), k + 1)) = some (owner.setIfInBounds j (some k), k + 1) := by
          simp [hf]
        rw [this, h1]
        congr 2; simp; omega
      · rw [List.length_cons, show k + (r.length + 1) = k + 1 + r.length by omega]; exact h3

theorem laid_ok {mask : Nat} (hc : covers mask = true) (hashes : Array Int) (hn : hashes.size ≤ mask) (finger moves : Nat) (led plain : Bool) :
    ∃ t order, SetTable.laid mask finger moves led plain hashes = some (t, order) ∧ t.mask = mask ∧ t.dummies = #[] ∧ t.place.size = hashes.size ∧ order.toList.Perm (List.range hashes.size) ∧ t.led = led ∧ t.plain = plain := by
  have h0 : (somes (Array.replicate (mask + 1) none)).Perm (List.range 0) := by
    unfold somes
    simp
  obtain ⟨ow, h1, h2, h3⟩ := layClean_ok hc hashes.toList (Array.replicate (mask + 1) none) 0 (by simp) h0 (by simpa using hn)
  rw [Nat.zero_add] at h1 h3
  have hl : layClean mask hashes = some ow := by
    unfold layClean
    rw [← Array.foldl_toList, h1]; rfl
  unfold SetTable.laid
  rw [hl]
  have hlive : ((List.range (mask + 1)).filterMap fun j => (ow.getD j none).map (j, ·)).map (·.2) = somes ow := by
    unfold somes
    rw [List.map_filterMap]
    have e1 : (fun j => Option.map (fun x : Nat × Nat => x.2) ((ow.getD j none).map (j, ·))) = fun j => ow.getD j none := by
      funext j; cases ow.getD j none <;> rfl
    rw [e1]
    have e2 : ow.toList = (List.range (mask + 1)).map fun j => ow.getD j none := by
      apply List.ext_getElem
      · simp [h2]
      · intro i a b
        simp at a b
        simp [Array.getD, a]
    rw [e2, List.filterMap_map]; rfl
  refine ⟨_, _, rfl, rfl, rfl, ?_, ?_, rfl, rfl⟩
  · show (List.toArray _).size = _
    rw [List.size_toArray, List.length_map, ← List.length_map (f := (·.2)), hlive, h3.length_eq, List.length_range, Array.length_toList]
  · show (List.toArray _).toList.Perm _
    rw [List.toList_toArray, hlive]
    simpa using h3
end Et
end
section
open PySem PySem.W PySem.Calls PyProof.Rows
set_option Elab.async false
set_option maxRecDepth 100000
namespace Et
section
variable {prog : Program} {w : World} {A : Around} {E : Value → Shared → Prop} {s : Shared}

theorem wpAny_choose {src : Source} {n : Nat} {Q : Nat → Shared → Prop} (hn : 0 < n) (h : ∀ k d, k < n → Q k { s with drawn := d }) : wpAny (model prog w) A (choose src n) Q E s := fun Γ p _ => by
  show Sem.wp _ _ (Sem.choose src n .pure) _ _ _ _
  rw [Sem.wp_choose]
  exact ⟨by omega, h _ _ (Nat.mod_lt _ hn)⟩

theorem eraseIdx_perm {α : Type} : ∀ (l : List α) (i : Nat) (x : α), l[i]? = some x → (x :: l.eraseIdx i).Perm l
  | [], _, _, h => by simp at h
  | a :: r, 0, x, h => by simp at h; subst h; exact .rfl
  | a :: r, i + 1, x, h => by
    simp only [List.getElem?_cons_succ] at h
    exact (List.Perm.swap a x _).trans ((eraseIdx_perm r i x h).cons a)

theorem drawOrder_any {α : Type} : ∀ (n : Nat) (xs : List α) (s : Shared) {Q : List α → Shared → Prop}, xs.length = n → (∀ ys d, ys.Perm xs → Q ys { s with drawn := d }) → wpAny (model prog w) A (drawOrder n xs) Q E s
  | 0, xs, s, Q, hn, h => by
    have : xs = [] := List.eq_nil_of_length_eq_zero hn
    subst this
    exact wpAny_pure (h [] s.drawn .rfl)
  | n + 1, [], s, Q, hn, h => by cases hn
  | n + 1, a :: r, s, Q, hn, h => by
    show wpAny _ _ (do
      let i ← choose .order (a :: r).length
      match (a :: r)[i]? with
      | some x => return x :: (← drawOrder n ((a :: r).eraseIdx i))
      | none => unsupported "internal:drawOrder") Q E s
    refine wpAny_bind (wpAny_choose (by simp) fun k d hk => ?_)
    have hx : (a :: r)[k]? = some ((a :: r)[k]) := List.getElem?_eq_getElem hk
    rw [hx]
    dsimp only
    refine wpAny_bind (drawOrder_any n _ _ (by rw [List.length_eraseIdx_of_lt hk, hn]; rfl) fun ys d' hp => ?_)
    exact wpAny_pure (h _ d' ((hp.cons _).trans (eraseIdx_perm _ _ _ hx)))

theorem pickOrder_go {α : Type} (next : Nat → Nat) : ∀ (n k : Nat) (left : List α) (out : Array α), left.length = n → (pickOrder.go next n k left out).toList.Perm (out.toList ++ left)
  | 0, k, left, out, hn => by
    have : left = [] := List.eq_nil_of_length_eq_zero hn
    subst this
    unfold pickOrder.go; simp
  | n + 1, k, left, out, hn => by
    unfold pickOrder.go
    have hk : next k % left.length < left.length := Nat.mod_lt _ (by omega)
    have hx : left[next k % left.length]? = some left[next k % left.length] := List.getElem?_eq_getElem hk
    rw [hx]
    dsimp only
    refine (pickOrder_go next n (k + 1) _ _ (by rw [List.length_eraseIdx_of_lt hk, hn]; rfl)).trans ?_
    rw [Array.toList_push, List.append_assoc]
    exact (eraseIdx_perm _ _ _ hx).append_left _
theorem pickOrder_perm {α : Type} (next : Nat → Nat) (xs : Array α) : (pickOrder next xs).toList.Perm xs.toList := by
  unfold pickOrder
  exact pickOrder_go next xs.size 0 xs.toList #[] (by simp)

theorem setsByText_any {Q : Bool → Shared → Prop} (h : Q (w.params.followText "set-order") s) : wpAny (model prog w) A setsByText Q E s := by
  unfold setsByText
  exact wpAny_bind (wpAny_askSetting (wpAny_pure h))

theorem setWalk_any {a : Addr} {cls : String} {es : Array (Int × Value)} {ep : Nat} {t : SetTable} {ks : List Str} {Q : Array (Int × Value) → Shared → Prop} (ho : s.heap.get? a = some ({ cls := .type cls, data := .set es ep t } : Obj)) (W : SetW w cls es t ks)
    (h : ∀ es' d, es'.toList.Perm es.toList → Q es' { s with drawn := d }) : wpAny (model prog w) A (setWalk a) Q E s := by
  unfold setWalk
  refine wpAny_bind (wpAny_setState_of ho rfl W.fits ?_)
  dsimp only
  refine wpAny_bind (setsByText_any ?_)
  cases hb : w.params.followText "set-order" with
  | true =>
    simp only [if_true]
    refine wpAny_bind (wpAny_askSetting (wpAny_pure ?_))
    exact h _ s.drawn (pickOrder_perm _ _)
  | false =>
    simp only [Bool.false_eq_true, if_false]
    have hled : t.led = true := W.led.resolve_right (by rw [hb]; exact Bool.false_ne_true)
    show wpAny _ _ (if (!t.plain && decide (es.size > 1)) = true then _ else _) _ _ _
    split
    · refine wpAny_bind (drawOrder_any _ _ _ (by simp) fun ys d hp => ?_)
      exact wpAny_pure (h _ d (by simpa using hp))
    · refine wpAny_bind ?_
      show wpAny _ _ (if (!t.led && decide (es.size > 1)) = true then (unsupported "set:maker-not-led" : Sem Unit) else pure ()) _ _ _
      rw [hled]
      simp only [Bool.not_true, Bool.false_and, Bool.false_eq_true, if_false]
      exact wpAny_pure (wpAny_pure (h es s.drawn .rfl))

theorem quiet_any {sets : List Addr} {Q : Bool → Shared → Prop} (hs : ∀ a ∈ sets, ∃ cls es ep t ks, s.heap.get? a = some ({ cls := .type cls, data := .set es ep t } : Obj) ∧ SetW w cls es t ks) (h : Q true s) :
    wpAny (model prog w) A (setsQuiet sets) Q E s := by
  unfold setsQuiet
  refine wpAny_bind (wpAny_forIn_list _ (fun l b s' => s = s' ∧ b = (none, ()) ∧ ∀ a ∈ l, a ∈ sets) _ ?_ ?_ sets _ ⟨rfl, rfl, fun _ h => h⟩)
  · rintro a rest b s' ⟨rfl, rfl, hm⟩
    obtain ⟨cls, es, ep, t, ks, ho, W⟩ := hs a (hm a (.head _))
    refine wpAny_bind (wpAny_setEntries_of ho rfl W.fits ?_)
    refine wpAny_bind (forIn_array_ _ (fun l b s' => s = s' ∧ b = (none, ()) ∧ ∀ e ∈ l, e ∈ es.toList) _ ?_ ?_ es _ ⟨rfl, rfl, fun _ h => h⟩)
    · rintro ⟨hh, x⟩ rest' b s' ⟨rfl, rfl, hm'⟩
      obtain ⟨k, tk, e⟩ := W.els.1 _ (hm' _ (.head _))
      cases e
      exact wpAny_pure ⟨rfl, rfl, fun e he => hm' e (.tail _ he)⟩
    · rintro b s' ⟨rfl, rfl, _⟩
      exact wpAny_pure ⟨rfl, rfl, fun a ha => hm a (.tail _ ha)⟩
  · rintro b s' ⟨rfl, rfl, _⟩
    exact wpAny_pure h

theorem walkUnseen_any {a f : Addr} {cls clf : String} {es ef : Array (Int × Value)} {ep epf : Nat} {t tf : SetTable} {ks kf : List Str} {Q : Array (Int × Value) → Shared → Prop}
    (ho : s.heap.get? a = some ({ cls := .type cls, data := .set es ep t } : Obj)) (W : SetW w cls es t ks)
    (hof : s.heap.get? f = some ({ cls := .type clf, data := .set ef epf tf } : Obj)) (Wf : SetW w clf ef tf kf) (hne : ef.size ≠ 0)
    (h : ∀ es' d, es'.toList.Perm es.toList → Q es' { s with drawn := d }) : wpAny (model prog w) A (setWalkUnseen a [f] (some f)) Q E s := by
  unfold setWalkUnseen
  refine wpAny_bind (wpAny_setState_of ho rfl W.fits ?_)
  dsimp only
  refine wpAny_bind (setsByText_any ?_)
  split
  · exact setWalk_any ho W h
  · rename_i hc
    simp only [Bool.or_eq_true, not_or, Bool.not_eq_true] at hc
    refine wpAny_bind (quiet_any ?_ ?_)
    · intro b hb
      simp only [List.mem_cons, List.not_mem_nil, or_false] at hb
      rcases hb with rfl | rfl
      · exact ⟨_, _, _, _, _, ho, W⟩
      · exact ⟨_, _, _, _, _, hof, Wf⟩
    · simp only [Bool.not_true, Bool.false_eq_true, if_false]
      refine wpAny_bind (wpAny_rule ?_)
      refine wpAny_bind (wpAny_setState_of hof rfl Wf.fits ?_)
      dsimp only
      have hb : w.params.followText "set-order" = false := hc.1.1
      have h1 : t.led = true := W.led.resolve_right (by rw [hb]; exact Bool.false_ne_true)
      have h2 : tf.plain = false := Wf.plain.resolve_right hne
      rw [h1, h2]
      simp only [Bool.not_true, Bool.and_false, Bool.false_and, Bool.or_false, Bool.false_eq_true, if_false]
      exact wpAny_pure (h es s.drawn .rfl)

/-! room for more, and the merge of two sets of texts -/
theorem sizeAbove_three : ∀ n : Fin 32, n.val < SetTable.sizeAbove n.val ∧ (SetTable.sizeAbove n.val = 8 ∨ SetTable.sizeAbove n.val = 16 ∨ SetTable.sizeAbove n.val = 32) := by decide +kernel
theorem sizeAbove_cases (n : Fin 32) : n.val < SetTable.sizeAbove n.val ∧ covers (SetTable.sizeAbove n.val - 1) = true ∧ SetTable.sizeAbove n.val ≤ 32 := by
  obtain ⟨h1, h2⟩ := sizeAbove_three n
  refine ⟨h1, ?_, ?_⟩
  · rcases h2 with h | h | h <;> rw [h]
    · exact covers_7
    · exact covers_15
    · exact covers_31
  · rcases h2 with h | h | h <;> rw [h] <;> decide

theorem filterMap_perm {es : Array (Int × Value)} {order : Array Nat} (hp : order.toList.Perm (List.range es.size)) : (order.filterMap (es[·]?)).toList.Perm es.toList := by
  rw [Array.toList_filterMap]
  exact (hp.filterMap _).trans (by rw [filterMap_getElem?_range])

theorem relay_any {a : Addr} {cls : String} {es : Array (Int × Value)} {ep : Nat} {t : SetTable} {ks : List Str} {wanted : Nat} {Q : Unit → Shared → Prop} (ho : s.heap.get? a = some ({ cls := .type cls, data := .set es ep t } : Obj)) (W : SetW w cls es t ks)
    (hw : wanted < 32) (hle : es.size ≤ wanted)
    (h : ∀ h' es' t', Heap.SameBut a s.heap h' → h'.get? a = some ({ cls := .type cls, data := .set es' (ep + 1) t' } : Obj) → es'.toList.Perm es.toList → t'.fits es'.size = true → t'.led = t.led → t'.plain = t.plain → t'.dummies = #[] → covers t'.mask = true → wanted ≤ t'.mask → Q () { s with heap := h' }) :
    wpAny (model prog w) A (setRelay a wanted) Q E s := by
  obtain ⟨h1, h2, h3⟩ := sizeAbove_cases ⟨wanted, hw⟩
  dsimp only at h1 h2 h3
  unfold setRelay
  refine wpAny_bind (wpAny_setState_of ho rfl W.fits ?_)
  dsimp only
  rw [if_neg (by rw [sizeLine_eq]; omega)]
  obtain ⟨t', order, e, m1, m2, m3, m4, m5, m6⟩ := laid_ok h2 (es.map (·.1)) (by rw [Array.size_map]; omega) t.finger (t.movedTo (SetTable.sizeAbove wanted - 1)) t.led t.plain
  have e' : t.relaid (es.map (·.1)) wanted = some (t', order) := e
  rw [Array.size_map] at m3 m4
  have hp := filterMap_perm m4
  have hsz : (order.filterMap (es[·]?)).size = es.size := by rw [← Array.length_toList, hp.length_eq, Array.length_toList]
  refine wpAny_bind ?_
  rw [e']
  show wpAny _ _ (if ((order.filterMap (es[·]?)).size != es.size) = true then ((unsupported "internal:set-table-lost-an-element" : Sem PUnit) >>= fun _ => pure (order.filterMap (es[·]?), t')) else pure (order.filterMap (es[·]?), t')) _ _ _
  rw [if_neg (by rw [hsz]; simp)]
  refine wpAny_pure ?_
  refine wpAny_storeSet_of ho rfl ?_ (by rw [sizeLine_eq, hsz]; omega)
  refine h _ _ _ (Heap.SameBut.update s.heap a _) (SetO.get_update ho) hp ?_ m5 m6 m2 (by rw [m1]; exact h2) (by rw [m1]; omega)
  unfold SetTable.fits SetTable.fill
  rw [m2, m3, hsz, m1]
  simp; omega

theorem room_any {a : Addr} {cls : String} {es : Array (Int × Value)} {ep more : Nat} {t : SetTable} {ks : List Str} {Q : Unit → Shared → Prop} (ho : s.heap.get? a = some ({ cls := .type cls, data := .set es ep t } : Obj)) (W : SetW w cls es t ks)
    (hm : es.size + more < 16)
    (h : ∀ h' es' ep' t', Heap.SameBut a s.heap h' → h'.get? a = some ({ cls := .type cls, data := .set es' ep' t' } : Obj) → es'.toList.Perm es.toList → t'.fits es'.size = true → t'.led = t.led → t'.plain = t.plain →
      (es.size = 0 → t'.dummies = #[] ∧ covers t'.mask = true ∧ more ≤ t'.mask) → Q () { s with heap := h' }) :
    wpAny (model prog w) A (setRoomFor a more) Q E s := by
  unfold setRoomFor
  refine wpAny_bind (wpAny_setState_of ho rfl W.fits ?_)
  dsimp only
  have hpl : t.place.size = es.size := by
    have := W.fits
    unfold SetTable.fits at this
    simp only [Bool.and_eq_true, beq_iff_eq] at this
    exact this.1
  cases hr : t.roomFor more with
  | none =>
    refine wpAny_pure (h s.heap es ep t (Heap.SameBut.refl a s.heap) ho .rfl W.fits rfl rfl fun h0 => ?_)
    obtain ⟨m1, m2⟩ := W.fresh h0
    unfold SetTable.roomFor SetTable.fill at hr
    split at hr
    · cases hr
    · rename_i hc
      rw [m1, m2, hpl, h0] at hc
      refine ⟨m2, by rw [m1]; exact covers_7, ?_⟩
      rw [m1]
      simp at hc; omega
  | some wanted =>
    have hw : wanted = (t.place.size + more) * 2 := by
      unfold SetTable.roomFor at hr
      split at hr
      · exact (Option.some.inj hr).symm
      · cases hr
    dsimp only
    rw [hpl] at hw
    refine relay_any ho W (by omega) (by omega) fun h' es' t' q1 q2 q3 q4 q5 q6 q7 q8 q9 => ?_
    exact h h' es' _ t' q1 q2 q3 q4 q5 q6 fun h0 => ⟨q7, q8, by omega⟩

theorem merge_any {S O : Addr} {clsS clsO : String} {es eo : Array (Int × Value)} {ep epo : Nat} {t to : SetTable} {ks ko : List Str} {each : Sem Unit} {Q : Unit → Shared → Prop} (hne : S ≠ O)
    (hoS : s.heap.get? S = some ({ cls := .type clsS, data := .set es ep t } : Obj)) (WS : SetW w clsS es t ks)
    (hoO : s.heap.get? O = some ({ cls := .type clsO, data := .set eo epo to } : Obj)) (WO : SetW w clsO eo to ko) (hsz : ks.length + ko.length < 16)
    (heach : ∀ (s₁ : Shared) (Q₁ : Unit → Shared → Prop), s₁.heap.get? O = some ({ cls := .type clsO, data := .set eo epo to } : Obj) → Q₁ () s₁ → wpAny (model prog w) A each Q₁ E s₁)
    (h : ∀ h' d ks', Heap.SameBut S s.heap h' → SetAt w h' S clsS ks' → (∀ x, x ∈ ks' ↔ x ∈ ks ∨ x ∈ ko) → Q () { s with heap := h', drawn := d }) :
    wpAny (model prog w) A (setMerge S O each) Q E s := by
  have hls : es.size = ks.length := by rw [← WS.els.length, Array.length_toList]
  have hlo : eo.size = ko.length := by rw [← WO.els.length, Array.length_toList]
  unfold setMerge
  rw [if_neg (by simpa using hne)]
  refine wpAny_bind (wpAny_setState_of hoO rfl WO.fits ?_)
  dsimp only
  by_cases he : eo.isEmpty = true
  · rw [if_pos he]
    have hk0 : ko = [] := List.eq_nil_of_length_eq_zero (by rw [← hlo]; simpa [Array.isEmpty] using he)
    subst hk0
    exact wpAny_pure (h s.heap s.drawn ks (Heap.SameBut.refl S s.heap) ⟨_, hoS, _, _, _, rfl, WS⟩ (fun x => by simp))
  · rw [if_neg he]
    have hk0 : eo.size ≠ 0 := by simpa [Array.isEmpty] using he
    have hpo : to.plain = false := WO.plain.resolve_right hk0
    have ledOr : ∀ b : Bool, (b = true ∨ w.params.followText "set-order" = true) → ((b && to.led) = true ∨ w.params.followText "set-order" = true) := by
      intro b hb
      rcases hb with hb | hb
      · rcases WO.led with ho | ho
        · exact .inl (by rw [hb, ho]; rfl)
        · exact .inr ho
      · exact .inr hb
    refine wpAny_bind (room_any hoS WS (by omega) fun h₁ es₁ ep₁ t₁ q1 q2 q3 q4 q5 q6 q7 => ?_)
    have hsz1 : es₁.size = es.size := by rw [← Array.length_toList, q3.length_eq, Array.length_toList]
    obtain ⟨hels1, hp1⟩ := WS.els.perm q3
    have hoO1 : h₁.get? O = some ({ cls := .type clsO, data := .set eo epo to } : Obj) := (q1.2 O (Ne.symm hne)).trans hoO
    refine wpAny_bind (wpAny_setState_of (s := { s with heap := h₁ }) q2 rfl q4 ?_)
    dsimp only
    have hled1 : t₁.led = true ∨ w.params.followText "set-order" = true := by rw [q5]; exact WS.led
    by_cases h0 : es.size = 0
    · have hks : ks = [] := List.eq_nil_of_length_eq_zero (by rw [← hls]; exact h0)
      obtain ⟨r1, r2, r3⟩ := q7 h0
      have hfill : t₁.fill = 0 := by
        unfold SetTable.fits at q4
        simp only [Bool.and_eq_true, beq_iff_eq] at q4
        unfold SetTable.fill
        rw [q4.1, hsz1, h0, r1]; rfl
      have fin : ∀ (t' : SetTable) (es' : Array (Int × Value)), es'.toList.Perm eo.toList → t'.fits es'.size = true → t'.led = (t₁.led && to.led) → t'.plain = false → wpAny (model prog w) A (storeSet S es' t') Q E { s with heap := h₁ } := by
        intro t' es' hp hf hl hpl
        obtain ⟨he1, hp2⟩ := WO.els.perm hp
        have hsz' : es'.size = eo.size := by rw [← Array.length_toList, hp.length_eq, Array.length_toList]
        refine wpAny_storeSet_of q2 rfl ?_ (by rw [sizeLine_eq]; omega)
        refine h _ s.drawn _ (q1.trans (Heap.SameBut.update h₁ S _)) ⟨_, SetO.get_update q2, _, _, _, rfl, ⟨he1, hp2.nodup_iff.mpr WO.nodup, hf, by rw [hl]; exact ledOr _ hled1, .inl hpl, fun hz => absurd hz (by omega)⟩⟩ (fun x => ?_)
        rw [hp2.mem_iff, hks]; simp
      have hroad : t₁.road to = .slotForSlot ∨ t₁.road to = .clean := by
        unfold SetTable.road
        rw [hfill]
        simp only [bne_self_eq_false, Bool.false_eq_true, if_false]
        split
        · exact .inl rfl
        · exact .inr rfl
      rcases hroad with hr | hr
      · rw [hr]
        dsimp only
        exact fin _ eo .rfl (fits_tab WO.fits rfl rfl rfl) rfl (by rw [hpo, Bool.and_false])
      · rw [hr]
        dsimp only
        obtain ⟨t', order, e, m1, m2, m3, m4, m5, m6⟩ := laid_ok r2 (eo.map (·.1)) (by rw [Array.size_map]; omega) t₁.finger t₁.moves (t₁.led && to.led) (t₁.plain && to.plain)
        rw [Array.size_map] at m3 m4
        have hp := filterMap_perm m4
        have hsz' : (order.filterMap (eo[·]?)).size = eo.size := by rw [← Array.length_toList, hp.length_eq, Array.length_toList]
        rw [e]
        refine wpAny_bind ?_
        show wpAny _ _ (if ((order.filterMap (eo[·]?)).size != eo.size) = true then ((unsupported "internal:set-table-lost-an-element" : Sem PUnit) >>= fun _ => pure (order.filterMap (eo[·]?), t')) else pure (order.filterMap (eo[·]?), t')) _ _ _
        rw [if_neg (by rw [hsz']; simp)]
        refine wpAny_pure ?_
        refine fin t' _ hp ?_ m5 (by rw [m6, hpo, Bool.and_false])
        unfold SetTable.fits SetTable.fill
        rw [m2, m3, hsz', m1]
        simp; omega
    · have hroad : t₁.road to = .oneByOne := by
        unfold SetTable.road
        have : t₁.fill ≠ 0 := by
          unfold SetTable.fits at q4
          simp only [Bool.and_eq_true, beq_iff_eq] at q4
          unfold SetTable.fill
          rw [q4.1, hsz1]; omega
        rw [if_pos (by simpa using this)]
      rw [hroad]
      dsimp only
      have W1 : SetW w clsS es₁ t₁ _ := ⟨hels1, hp1.nodup_iff.mpr WS.nodup, q4, hled1, .inl (by rw [q6]; exact WS.plain.resolve_right h0), fun hz => absurd hz (by omega)⟩
      refine wpAny_bind (walkUnseen_any (s := { s with heap := h₁ }) hoO1 WO q2 W1 (by omega) fun es' d hp => ?_)
      refine wpAny_bind (forIn_array_ _ (fun (l : List (Int × Value)) _ s' => ∃ h' done ks', s' = { s with heap := h', drawn := d } ∧ es'.toList = done ++ l ∧ Heap.SameBut S s.heap h' ∧ SetAt w h' S clsS ks' ∧ (∀ x, x ∈ ks' ↔ x ∈ ks ∨ ∃ e ∈ done, strOf e.2 = x) ∧ ks'.length ≤ ks.length + done.length) _ ?_ ?_ es' _
        ⟨h₁, [], _, rfl, rfl, q1, ⟨_, q2, _, _, _, rfl, W1⟩, fun x => by rw [hp1.mem_iff]; simp, by rw [hp1.length_eq]; simp⟩)
      · rintro ⟨hh, x⟩ rest b s' ⟨h', done, ks', rfl, e1, e2, ⟨o', ho', hS'⟩, e4, e5⟩
        have hin : (hh, x) ∈ eo.toList := hp.mem_iff.mp (by rw [e1]; simp)
        obtain ⟨k, tk, e⟩ := WO.els.1 _ hin
        cases e
        have hdl : done.length + (rest.length + 1) = ko.length := by
          have := hp.length_eq
          rw [e1] at this
          simp at this; omega
        refine wpAny_bind (wpAny_holding (add_str (s := { s with heap := h', drawn := d }) ho' hS' (by unfold scanBound; omega) fun h₂ o₂ ks₂ p1 p2 p3 p4 => ?_))
        have hoO2 : h₂.get? O = some ({ cls := .type clsO, data := .set eo epo to } : Obj) := (p1.2 O (Ne.symm hne)).trans ((e2.2 O (Ne.symm hne)).trans hoO)
        refine wpAny_bind (heach _ _ hoO2 ?_)
        refine wpAny_bind (wpAny_setState_of (s := { s with heap := h₂, drawn := d }) hoO2 rfl WO.fits ?_)
        dsimp only
        rw [if_neg (by simp)]
        refine wpAny_pure ?_
        refine ⟨h₂, done ++ [(hashStr w k, .str k tk)], ks₂, rfl, by rw [e1]; simp, e2.trans p1, ⟨o₂, p2, p3⟩, fun x => ?_, ?_⟩
        · split at p4
          · rename_i hk
            rw [p4, e4 x]
            constructor
            · rintro (q | ⟨e, he, q⟩)
              · exact .inl q
              · exact .inr ⟨e, List.mem_append_left _ he, q⟩
            · rintro (q | ⟨e, he, q⟩)
              · exact .inl q
              · rcases List.mem_append.mp he with he | he
                · exact .inr ⟨e, he, q⟩
                · rw [List.mem_singleton] at he
                  subst he
                  have : k = x := q
                  subst this
                  exact (e4 k).mp hk
          · rw [p4.mem_iff, List.mem_cons, e4 x]
            constructor
            · rintro (q | q | ⟨e, he, q⟩)
              · exact .inr ⟨_, List.mem_append_right _ (List.mem_singleton.mpr rfl), q.symm⟩
              · exact .inl q
              · exact .inr ⟨e, List.mem_append_left _ he, q⟩
            · rintro (q | ⟨e, he, q⟩)
              · exact .inr (.inl q)
              · rcases List.mem_append.mp he with he | he
                · exact .inr (.inr ⟨e, he, q⟩)
                · rw [List.mem_singleton] at he
                  subst he
                  exact .inl (q : k = x).symm
        · rw [List.length_append, List.length_singleton]
          split at p4
          · rw [p4]; omega
          · rw [p4.length_eq, List.length_cons]; omega
      · rintro b s' ⟨h', done, ks', rfl, e1, e2, e3, e4, e5⟩
        rw [List.append_nil] at e1
        refine wpAny_pure (h h' d ks' e2 e3 fun x => ?_)
        rw [e4 x, ← e1]
        have : (∃ e ∈ es'.toList, strOf e.2 = x) ↔ x ∈ ko := by
          rw [← WO.els.2, List.mem_map]
          exact ⟨fun ⟨e, he, q⟩ => ⟨e, hp.mem_iff.mp he, q⟩, fun ⟨e, he, q⟩ => ⟨e, hp.mem_iff.mpr he, q⟩⟩
        rw [this]
end
end Et
end
section
open PySem PySem.W PySem.Calls PyProof.Rows
set_option Elab.async false
set_option maxRecDepth 100000
namespace Et
section
variable {prog : Program} {w : World} {A : Around} {E : Value → Shared → Prop} {s : Shared}

theorem sub_frozenset_set : isSubtype (.type "frozenset") (.type "set") = pure false := by rw [isSubtype_type]; kernel_rfl
theorem sub_set_frozenset : isSubtype (.type "set") (.type "frozenset") = pure false := by rw [isSubtype_type]; kernel_rfl

theorem updateFrom_froz {id : String} {S O : Addr} {clsS : String} {ks ko : List Str} {Q : Unit → Shared → Prop} (hne : S ≠ O)
    (hS : SetAt w s.heap S clsS ks) (hO : SetAt w s.heap O "frozenset" ko) (hsz : ks.length + ko.length < 16)
    (h : ∀ h' d ks', Heap.SameBut S s.heap h' → SetAt w h' S clsS ks' → (∀ x, x ∈ ks' ↔ x ∈ ks ∨ x ∈ ko) → Q () { s with heap := h', drawn := d }) :
    wpAny (model prog w) A (Builtin.Frozenset.updateFrom id S (.ref O)) Q E s := by
  obtain ⟨oS, hoS, es, ep, t, rfl, WS⟩ := hS
  obtain ⟨oO, hoO, eo, epo, to, rfl, WO⟩ := hO
  have hsls := sub_frozenset_set
  have hslf := sub_frozenset_self
  have hT : s.TypeIs (.ref O) "frozenset" := ⟨_, hoO, rfl⟩
  have key : wpAny (model prog w) A (setMerge S O (Builtin.Frozenset.unchanged id O epo)) Q E s := by
    refine merge_any hne hoS WS hoO WO hsz (fun s₁ Q₁ ho₁ q => ?_) h
    unfold Builtin.Frozenset.unchanged
    refine wpAny_bind (wpAny_setEpoch_of ho₁ rfl WO.fits ?_)
    rw [if_neg (by simp)]
    exact wpAny_pure q
  unfold Builtin.Frozenset.updateFrom Builtin.Frozenset.isAnySet
  refine wpAny_bind ?_
  unfold orM
  refine wpAny_bind (wpAny_isInstance hT hsls ?_)
  dsimp only [toBool]
  refine wpAny_isInstance hT hslf ?_
  simp only [if_true]
  refine wpAny_bind (wpAny_pure ?_)
  unfold Builtin.Frozenset.merge
  refine wpAny_bind (wpAny_setEpoch_of hoO rfl WO.fits ?_)
  exact key

theorem set_new_1 (x : Value) {Q₁ : Value → Shared → Prop} (h : wpAny (model prog w) A.in1 (newSet (.type "set")) Q₁ E s) :
    codeAny (model prog w) A (.call (.builtin "set.__new__") ⟨[.type "set", x], []⟩) (wants Q₁ E) s := by
  refine codeAny_of_tree ?_
  show wpAny _ A.in1 (do checkBuiltinCall "set.__new__" ⟨[.type "set", x], []⟩; again (.builtin "set.__new__" ⟨[.type "set", x], []⟩)) _ _ s
  refine wpAny_bind (wpAny_of_eq (F.newCall_set_1 x) (wpAny_pure ⟨plainId_quiet F.plain_set_new _, codeAny_builtin F.entry_set_new ?_⟩))
  rw [Around.under_plainId F.plain_set_new _]
  unfold Builtin.«set.__new__» Builtin.Frozenset.newClass
  have hsub := sub_set_self
  have h' : wpAny (model prog w) A.in1 (newSet (.type "set")) (fun v s' => wpAny (model prog w) A.in1 (ret v) (fun fin s'' => match fin with | .done f => wants Q₁ E (.ok f) s'' | .again c' => c'.quiet = true ∧ codeAny (model prog w) A c' (wants Q₁ E) s'') (fun e s'' => wants Q₁ E (.error e) s'') s') E s :=
    wpAny_mono h (fun v s' q => wpAny_pure q) fun _ _ e => e
  generalize newSet = NF at h' ⊢
  obtain ⟨hp, g, d, tk, os⟩ := s
  dsimp only
  wp_walk
  exact h'

set_option maxHeartbeats 3200000 in
theorem set_call_1 {x : Value} {Q : Value → Shared → Prop}
    (h : ∀ o, SetO w o "set" [] → o.isFreed = false →
      wpAny (model prog w) A.in1.in1 (Builtin.Frozenset.updateFrom "set.__init__" s.heap.objs.size x) (fun _ s₂ => Q (.ref s.heap.objs.size) s₂) E
        { s with heap := s.heap.push o }) :
    wpAny (model prog w) A (call (.type "set") [x]) Q E s := by
  obtain ⟨c, tl, hmro⟩ := F.called_set.mro
  have hmade := F.called_set.made
  have hsub := F.called_set.sub
  refine wpAny_call (codeAny_of_tree ?_)
  show wpAny _ _ (callAny (.type "set") _) _ _ _
  refine wpAny_pure ⟨Code.quiet_builtin _ (by decide +kernel), codeAny_builtin F.entry_type_call ?_⟩
  rw [Around.under_plain (weight_type_call_type "set" [x] []) rfl]
  have h1 := F.called_set.notType
  have h2 := F.called_set.canCreate
  have hct := F.typeCall_set_1 x
  repeat (any_goals (first | assumption | wp_step))
  refine codeAny_mono (set_new_1 x (E := E) (Q₁ := fun obj s₁ => ∃ o, SetO w o "set" [] ∧ o.isFreed = false ∧ obj = .ref s.heap.objs.size ∧ s₁ = { s with heap := s.heap.push o }) (newSet_any fun o q1 q2 => ⟨o, q1, q2, rfl, rfl⟩)) fun r s₁ hr => ?_
  cases r with
  | error e => exact hr
  | ok fl =>
    cases fl with
    | ret obj =>
      obtain ⟨o, hSO, hfr, rfl, rfl⟩ := hr
      have hk := h o hSO hfr
      obtain ⟨es, ep, t, rfl, W⟩ := hSO
      have hes : es = #[] := by
        have := W.els.length
        rw [Array.length_toList] at this
        exact Array.eq_empty_of_size_eq_zero this
      subst hes
      have hmask := (W.fresh rfl).2
      have hS : (s.heap.push { cls := .type "set", data := .set #[] ep t }).get? s.heap.objs.size = some { cls := .type "set", data := .set #[] ep t } := Heap.get?_push_size _ rfl
      have hT : Shared.TypeIs { s with heap := s.heap.push { cls := .type "set", data := .set #[] ep t } } (.ref s.heap.objs.size) "set" := ⟨_, hS, rfl⟩
      have hfit := W.fits
      have hfill : t.fill = 0 := by
        unfold SetTable.fits at hfit
        simp only [Bool.and_eq_true, beq_iff_eq] at hfit
        unfold SetTable.fill
        rw [hfit.1, hmask]; rfl
      have hused : wpAny (model prog w) A.in1.in1 (setUsed s.heap.objs.size) (fun b s' => b = false ∧ s' = { s with heap := s.heap.push { cls := .type "set", data := .set #[] ep t } }) E { s with heap := s.heap.push { cls := .type "set", data := .set #[] ep t } } := by
        unfold setUsed
        refine wpAny_bind (wpAny_setState_of hS rfl hfit (wpAny_pure ?_))
        exact ⟨by simp [hfill], rfl⟩
      have hli := F.called_set.init.lookup
      have hbi := F.called_set.init.bind (.ref s.heap.objs.size)
      repeat (any_goals (first | assumption | wp_step))
      refine codeAny_mono (codeAny_call_builtin (R := wants (fun r s₂ => r = .none ∧ Q (.ref s.heap.objs.size) s₂) E) F.called_set.init.plain F.entry_set_init (check_set_init_1 hT ?_)) fun r₂ s₂ hr₂ => ?_
      · unfold Builtin.«set.__init__» noKeywords
        generalize hUF : Builtin.Frozenset.updateFrom = UF at hk ⊢
        generalize hUS : setUsed = US at hused ⊢
        wp_walk
        refine wpAny_mono hused (fun b s' hb => ?_) fun _ _ e => e
        obtain ⟨rfl, rfl⟩ := hb
        show wpAny _ _ (UF "set.__init__" s.heap.objs.size x >>= fun _ => ret Value.none) _ _ _
        exact wpAny_bind (wpAny_mono hk (fun _ s₂ q => wpAny_pure ⟨rfl, q⟩) fun _ _ e => e)
      · cases r₂ with
        | error e => exact hr₂
        | ok fl₂ =>
          cases fl₂ with
          | ret r =>
            obtain ⟨rfl, hq⟩ := hr₂
            repeat (any_goals (first | assumption | wp_step))
          | _ => exact hr₂.elim
    | _ => exact hr.elim

theorem call_set_strs {l : Addr} {vs : List Value} {ss : List Str} {Q : Value → Shared → Prop} (hh : A.handled = none) (hl : s.heap.IsList l vs.toArray) (hi : StrsAre vs ss) (hb : vs.length + 1 < scanBound)
    (h : ∀ h' tk ks', (∀ b o₀, s.heap.get? b = some o₀ → h'.get? b = some o₀) → SetAt w h' s.heap.objs.size "set" ks' → (∀ x, x ∈ ks' ↔ x ∈ ss) → ks'.length ≤ ss.length → Q (.ref s.heap.objs.size) { s with heap := h', toks := tk }) :
    wpAny (model prog w) A (call (.type "set") [.ref l]) Q E s := by
  refine set_call_1 fun o hS hf => ?_
  refine updateFrom_strs (s := { s with heap := s.heap.push o }) hh (Heap.get?_push_size _ hf) hS (hl.push _) hi hb fun h' tk o' ks' q1 q2 q3 q4 q5 => ?_
  exact h h' tk ks' (fun b o₀ e => q1 b o₀ (Nat.ne_of_lt (Heap.lt_size e)) (Heap.get?_push_of_some _ e)) ⟨o', q2, q3⟩ q4 q5

theorem SetAt.push {h : Heap} {a : Addr} {cls : String} {ks : List Str} (x : SetAt w h a cls ks) (o : Obj) : SetAt w (h.push o) a cls ks := let ⟨o', ho, r⟩ := x; ⟨o', Heap.get?_push_of_some _ ho, r⟩
theorem SetAt.keeps {h h' : Heap} {a : Addr} {cls : String} {ks : List Str} (x : SetAt w h a cls ks) (k : ∀ b o, h.get? b = some o → h'.get? b = some o) : SetAt w h' a cls ks := let ⟨o', ho, r⟩ := x; ⟨o', k _ _ ho, r⟩
theorem SetAt.lt {h : Heap} {a : Addr} {cls : String} {ks : List Str} (x : SetAt w h a cls ks) : a < h.objs.size := let ⟨_, ho, _⟩ := x; Heap.lt_size ho

theorem call_set_froz {O : Addr} {ko : List Str} {Q : Value → Shared → Prop} (hO : SetAt w s.heap O "frozenset" ko) (hsz : ko.length < 16)
    (h : ∀ h' d ks', (∀ b o₀, s.heap.get? b = some o₀ → h'.get? b = some o₀) → SetAt w h' s.heap.objs.size "set" ks' → (∀ x, x ∈ ks' ↔ x ∈ ko) → Q (.ref s.heap.objs.size) { s with heap := h', drawn := d }) :
    wpAny (model prog w) A (call (.type "set") [.ref O]) Q E s := by
  refine set_call_1 fun o hS hf => ?_
  refine updateFrom_froz (s := { s with heap := s.heap.push o }) (Nat.ne_of_gt hO.lt) ⟨o, Heap.get?_push_size _ hf, hS⟩ (hO.push o) (by simpa using hsz) fun h' d ks' q1 q2 q3 => ?_
  refine h h' d ks' (fun b o₀ e => ?_) q2 fun x => by rw [q3 x]; simp
  rw [q1.2 b (Nat.ne_of_lt (Heap.lt_size e))]
  exact Heap.get?_push_of_some _ e

theorem set_noDict {S : Addr} {cls : String} {ks : List Str} (hS : SetAt w s.heap S cls ks) : ∀ b, Value.ref S = .ref b → ∃ ob, s.heap.get? b = some ob ∧ ob.dict = none := fun b e => by
  injection e with e
  subst e
  obtain ⟨o, ho, es, ep, t, rfl, W⟩ := hS
  exact ⟨_, ho, rfl⟩
theorem getMethod_set_update {S : Addr} {ks : List Str} {pl : Sem Bool} {Q : Value × List Value → Shared → Prop} (hS : SetAt w s.heap S "set" ks) (h : Q (.builtin "set.update", [.ref S]) s) :
    wpAny (model prog w) A (getMethod (.ref S) "update" pl) Q E s := by
  have hT : s.TypeIs (.ref S) "set" := by obtain ⟨o, ho, x⟩ := hS; exact ⟨o, ho, x.cls_⟩
  exact getMethod_builtin hT F.plainAttrs_set slot_set_update type_set_update (set_noDict hS) h
theorem call_set_update {S O : Addr} {ks ko : List Str} {Q : Value → Shared → Prop} (hne : S ≠ O) (hS : SetAt w s.heap S "set" ks) (hO : SetAt w s.heap O "frozenset" ko) (hsz : ks.length + ko.length < 16)
    (h : ∀ h' d ks', Heap.SameBut S s.heap h' → SetAt w h' S "set" ks' → (∀ x, x ∈ ks' ↔ x ∈ ks ∨ x ∈ ko) → Q .none { s with heap := h', drawn := d }) :
    wpAny (model prog w) A (call (.builtin "set.update") [.ref S, .ref O]) Q E s := by
  have hT : s.TypeIs (.ref S) "set" := by obtain ⟨o, ho, x⟩ := hS; exact ⟨o, ho, x.cls_⟩
  refine wpAny_call_entry slot_set_update hT entry_set_update ?_ (args_set_update_2 _ _)
  unfold Builtin.«set.update»
  refine wpAny_bind (m := Builtin.Frozenset.manyOthers "update" _) (wpAny_pure ?_)
  dsimp only
  refine wpAny_bind ?_
  show wpAny _ _ (forIn [Value.ref O] PUnit.unit fun o __s => do Builtin.Frozenset.updateFrom "set.update" S o; pure (ForInStep.yield PUnit.unit)) _ _ _
  rw [List.forIn_cons]
  refine wpAny_bind (wpAny_bind (updateFrom_froz hne hS hO hsz fun h' d ks' q1 q2 q3 => wpAny_pure ?_))
  dsimp only
  rw [List.forIn_nil]
  exact wpAny_pure (wpAny_pure ⟨_, rfl, h h' d ks' q1 q2 q3⟩)
end
end Et
end
section
open PySem PySem.W PySem.Calls PyProof.Rows
set_option Elab.async false
set_option maxRecDepth 100000
namespace Et
section
variable {prog : Program} {w : World} {A : Around} {E : Value → Shared → Prop} {s : Shared}

def itObj (first : Value) (i : Nat) (S : Value) (n ep : Nat) : Obj := { cls := .type "set_iterator", data := .fields #[first, rawInt i, S, rawInt n, rawInt ep] }

theorem next_split {I : Addr} {first : Value} {i n ep : Nat} {S : Addr} {cls : String} {es : Array (Int × Value)} {t : SetTable} {Q : Option Value → Shared → Prop}
    (hI : s.heap.get? I = some (itObj first i (.ref S) n ep)) (hS : s.heap.get? S = some ({ cls := .type cls, data := .set es ep t } : Obj)) (hf : t.fits es.size = true) (hn : es.size = n)
    (h : wpAny (model prog w) A.in1 (do
      if let .int slot _ := first then
        match ← setNext S slot.toNat i ep with
        | some (x, next) =>
          setField (.ref I) 0 (rawInt next)
          setField (.ref I) 1 (rawInt (i + 1))
          ret x
        | none => setField (.ref I) 2 .none; raiseNew (← newExc (.type "StopIteration") [])
      else
        let some places ← seqItems? first | unsupported "internal:set_iterator"
        match places[i]? with
        | some (.int place _) =>
          let x ← setNextDrawn S place.toNat ep
          setField (.ref I) 1 (rawInt (i + 1))
          ret x
        | some _ => unsupported "internal:set_iterator"
        | none => setField (.ref I) 0 (rawInt 0); setField (.ref I) 2 .none; raiseNew (← newExc (.type "StopIteration") []))
      (fun fin s' => ∃ v, fin = .done (.ret v) ∧ Q (some v) s') (fun e s' => ∃ e', e = .ref e' ∧ s'.TypeIs (.ref e') "StopIteration" ∧ Q none s') s) :
    wpAny (model prog w) A (pyNext (.ref I)) Q E s := by
  have hT : s.TypeIs (.ref I) "set_iterator" := ⟨_, hI, rfl⟩
  unfold pyNext
  refine wpAny_bind (wpAny_attempt (wpAny_callSpecial?_slot (name := Str.ofString "__next__") hT slot_setit_next
    (wpAny_mono (wpAny_call_entry (Q := fun v s' => Q (some v) s') (E := fun e s' => ∃ e', e = .ref e' ∧ s'.TypeIs (.ref e') "StopIteration" ∧ Q none s') slot_setit_next hT entry_setit_next ?_ (args_setit_next_1 _)) (fun v s' q => wpAny_pure q) (fun e s' q => ?_))))
  · unfold Builtin.«set_iterator.__next__»
    refine wpAny_bind (m := slotArgs "__next__" 0 _) (wpAny_pure ?_)
    dsimp only
    refine wpAny_bind (wpAny_fieldsOf hI rfl ?_)
    dsimp only
    refine wpAny_bind (wpAny_setEntries_of hS rfl hf ?_)
    rw [if_neg (by rw [hn]; simp)]
    exact h
  · obtain ⟨e', rfl, hT', hq⟩ := q
    exact wpAny_bind (wpAny_isInstance hT' isSubtype_stop (wpAny_pure hq))

theorem raise_stop {α : Type} {Q : α → Shared → Prop} (hh : A.handled = none) (h : ∀ h' e, (∀ b o, s.heap.get? b = some o → h'.get? b = some o) → Shared.TypeIs { s with heap := h' } (.ref e) "StopIteration" → E (.ref e) { s with heap := h' }) :
    wpAny (model prog w) A (do raiseNew (← newExc (.type "StopIteration") [])) Q E s := by
  refine wpAny_bind ?_
  simp only [newExc, newTuple]
  refine wpAny_bind (wpAny_newObj_type ?_ (by size_fits))
  refine wpAny_bind (m := firstArgMember _ _) (wpAny_of_eq (a := Value.none) (by first | rfl | (simp only [firstArgMember]; rfl)) ?_)
  refine wpAny_newObj_type ?_ (by size_fits)
  simp only [raiseNew]
  refine wpAny_bind (wpAny_handled ?_)
  rw [hh]
  refine wpAny_bind (wpAny_pure (wpAny_throw ?_))
  exact h _ _ (fun b o e => Heap.get?_push_of_some _ (Heap.get?_push_of_some _ e)) ⟨_, Heap.get?_push_size _ rfl, rfl⟩

theorem set_field_it {I : Addr} {k : Nat} {x : Value} {vs : Array Value} {Q : Unit → Shared → Prop} (hI : s.heap.get? I = some ({ cls := .type "set_iterator", data := .fields vs } : Obj)) (hk : k < vs.size)
    (h : ∀ h', Heap.SameBut I s.heap h' → h'.get? I = some ({ cls := .type "set_iterator", data := .fields (vs.setIfInBounds k x) } : Obj) → Q () { s with heap := h' }) :
    wpAny (model prog w) A (setField (.ref I) k x) Q E s :=
  wpAny_setField_rec hI hk fun h' h1 h2 => h h' h2 h1

/-- what the next turn of a set's iterator finds, by places -/
structure Places (prog : Program) (w : World) (S : Addr) (oS : Obj) (ep n : Nat) (xs : List Value) (ok : Nat → Nat → Prop) : Prop where
  item : ∀ (A : Around) (E : Value → Shared → Prop) (s : Shared) (Q : Option (Value × Nat) → Shared → Prop) i slot x, s.heap.get? S = some oS → ok i slot → xs[i]? = some x → (∀ slot', ok (i + 1) slot' → Q (some (x, slot')) s) → wpAny (model prog w) A (setNext S slot i ep) Q E s
  done : ∀ (A : Around) (E : Value → Shared → Prop) (s : Shared) (Q : Option (Value × Nat) → Shared → Prop) slot, s.heap.get? S = some oS → ok n slot → Q none s → wpAny (model prog w) A (setNext S slot n ep) Q E s

def StP (S : Addr) (oS : Obj) (ep n : Nat) (ok : Nat → Nat → Prop) (I : Addr) (i : Nat) (h : Heap) : Prop := (∃ slot : Nat, h.get? I = some (itObj (rawInt slot) i (.ref S) n ep) ∧ ok i slot) ∧ h.get? S = some oS

theorem pyIter_it {I : Addr} {first : Value} {i n ep : Nat} {S : Addr} {Q : Value → Shared → Prop} (hI : s.heap.get? I = some (itObj first i (.ref S) n ep)) (h : Q (.ref I) s) : wpAny (model prog w) A (pyIter (.ref I)) Q E s := by
  have hT : s.TypeIs (.ref I) "set_iterator" := ⟨_, hI, rfl⟩
  refine wpAny_pyIter_slot hT slot_setit_iter (wpAny_call_entry slot_setit_iter hT entry_setit_iter ?_ (args_setit_iter_1 _))
  unfold Builtin.«dict_keyiterator.__iter__»
  refine wpAny_pure ⟨_, rfl, "set_iterator", _, hT, slot_setit_next.lookup, h⟩

theorem walks_places {S I : Addr} {cls : String} {es : Array (Int × Value)} {ep n : Nat} {t : SetTable} {xs : List Value} {ok : Nat → Nat → Prop} (hh : A.handled = none) (hne : S ≠ I) (hn : es.size = n) (hx : xs.length = n) (hf : t.fits es.size = true)
    (PL : Places prog w S ({ cls := .type cls, data := .set es ep t } : Obj) ep n xs ok) :
    Walks prog w A I [I, S] [I] n (fun i v => xs[i]? = some v) (StP S ({ cls := .type cls, data := .set es ep t } : Obj) ep n ok I) where
  sub := fun b hb => by simp at hb; simp [hb]
  frame := fun i h h' st hk => by
    obtain ⟨⟨slot, h1, h2⟩, h3⟩ := st
    exact ⟨⟨slot, hk I (by simp) _ h1, h2⟩, hk S (by simp) _ h3⟩
  item := fun i s Q E hi st hQ => by
    obtain ⟨⟨slot, h1, h2⟩, h3⟩ := st
    have hxi : xs[i]? = some xs[i] := List.getElem?_eq_getElem (by omega)
    refine next_split h1 h3 hf hn ?_
    show wpAny _ _ (do
        match ← setNext S (Int.toNat slot) i ep with
        | some (x, next) =>
          setField (.ref I) 0 (rawInt next)
          setField (.ref I) 1 (rawInt (i + 1))
          ret x
        | none => setField (.ref I) 2 .none; raiseNew (← newExc (.type "StopIteration") [])) _ _ _
    refine wpAny_bind (PL.item _ _ _ _ i _ _ h3 (by simpa using h2) hxi fun slot' hok => ?_)
    dsimp only
    refine wpAny_bind (set_field_it h1 (by simp) fun h' q1 q2 => ?_)
    refine wpAny_bind (set_field_it (s := { s with heap := h' }) q2 (by simp) fun h'' q3 q4 => ?_)
    refine wpAny_pure ⟨_, rfl, hQ _ h'' s.toks hxi ⟨⟨slot', ?_, hok⟩, ?_⟩ fun b o hb e => ?_⟩
    · rw [q4]; simp [itObj]
    · rw [q3.2 S hne, q1.2 S hne]; exact h3
    · have hbI : b ≠ I := fun e => hb (by simp [e])
      rw [q3.2 b hbI, q1.2 b hbI]; exact e
  done := fun s Q E st hQ => by
    obtain ⟨⟨slot, h1, h2⟩, h3⟩ := st
    refine next_split h1 h3 hf hn ?_
    show wpAny _ _ (do
        match ← setNext S (Int.toNat slot) n ep with
        | some (x, next) =>
          setField (.ref I) 0 (rawInt next)
          setField (.ref I) 1 (rawInt (n + 1))
          ret x
        | none => setField (.ref I) 2 .none; raiseNew (← newExc (.type "StopIteration") [])) _ _ _
    refine wpAny_bind (PL.done _ _ _ _ _ h3 (by simpa using h2) ?_)
    dsimp only
    refine wpAny_bind (set_field_it h1 (by simp) fun h' q1 q2 => ?_)
    refine raise_stop (s := { s with heap := h' }) hh fun h'' e q3 q4 => ⟨_, rfl, q4, hQ h'' s.toks fun b o hb e => q3 b o ?_⟩
    have hbI : b ≠ I := fun e => hb (by simp [e])
    show h'.get? b = some o
    rw [q1.2 b hbI]; exact e
  self := fun i s Q E st hQ => by
    obtain ⟨⟨slot, h1, h2⟩, h3⟩ := st
    exact pyIter_it h1 hQ

/-! a set that was drawn: its places lie in a tuple -/
def StD (S T : Addr) (oS : Obj) (ep n : Nat) (idx : List Nat) (I : Addr) (i : Nat) (h : Heap) : Prop :=
  h.get? I = some (itObj (.ref T) i (.ref S) n ep) ∧ (∃ e, h.get? T = some ({ cls := .type "tuple", data := .seq (idx.map fun (j : Nat) => rawInt j).toArray e } : Obj)) ∧ h.get? S = some oS

theorem walks_drawn {S T I : Addr} {cls : String} {es : Array (Int × Value)} {ep n : Nat} {t : SetTable} {idx : List Nat} (hh : A.handled = none) (hSI : S ≠ I) (hTI : T ≠ I) (hn : es.size = n) (hp : idx.Perm (List.range n)) (hf : t.fits es.size = true) :
    Walks prog w A I [I, S, T] [I] n (fun i v => (idx.map fun j => (es.toList.map (·.2)).getD j .none)[i]? = some v) (StD S T ({ cls := .type cls, data := .set es ep t } : Obj) ep n idx I) where
  sub := fun b hb => by simp at hb; simp [hb]
  frame := fun i h h' st hk => by
    obtain ⟨h1, ⟨e, h2⟩, h3⟩ := st
    exact ⟨hk I (by simp) _ h1, ⟨e, hk T (by simp) _ h2⟩, hk S (by simp) _ h3⟩
  item := fun i s Q E hi st hQ => by
    obtain ⟨h1, ⟨e, h2⟩, h3⟩ := st
    have hil : i < idx.length := by rw [hp.length_eq, List.length_range]; exact hi
    have hlt : idx[i] < es.size := by rw [hn]; exact List.mem_range.mp (hp.mem_iff.mp (List.getElem_mem hil))
    refine next_split h1 h3 hf hn ?_
    dsimp only
    refine wpAny_bind (wpAny_seqItems h2 rfl ?_)
    have hpl : ((idx.map fun (j : Nat) => rawInt j).toArray)[i]? = some (rawInt idx[i]) := by simp [hil]
    dsimp only
    rw [hpl]
    show wpAny _ _ (do
        let x ← setNextDrawn S (Int.toNat idx[i]) ep
        setField (.ref I) 1 (rawInt (i + 1))
        ret x) _ _ _
    have hes : es[(Int.toNat idx[i])]? = some es[idx[i]] := by simp [hlt]
    unfold setNextDrawn
    refine wpAny_bind (wpAny_bind (wpAny_setState_of h3 rfl hf ?_))
    dsimp only
    rw [if_neg (by simp)]
    rw [hes]
    refine wpAny_pure ?_
    refine wpAny_bind (set_field_it h1 (by simp) fun h' q1 q2 => ?_)
    refine wpAny_pure ⟨_, rfl, hQ _ h' s.toks ?_ ⟨?_, ⟨e, ?_⟩, ?_⟩ fun b o hb e => ?_⟩
    · simp [hil, hlt]
    · rw [q2]; simp [itObj]
    · rw [q1.2 T hTI]; exact h2
    · rw [q1.2 S hSI]; exact h3
    · have hbI : b ≠ I := fun e => hb (by simp [e])
      rw [q1.2 b hbI]; exact e
  done := fun s Q E st hQ => by
    obtain ⟨h1, ⟨e, h2⟩, h3⟩ := st
    have hil : idx.length = n := by rw [hp.length_eq, List.length_range]
    refine next_split h1 h3 hf hn ?_
    dsimp only
    refine wpAny_bind (wpAny_seqItems h2 rfl ?_)
    have hpl : ((idx.map fun (j : Nat) => rawInt j).toArray)[n]? = none := by simp [hil]
    dsimp only
    rw [hpl]
    refine wpAny_bind (set_field_it h1 (by simp) fun h' q1 q2 => ?_)
    refine wpAny_bind (set_field_it (s := { s with heap := h' }) q2 (by simp) fun h'' q3 q4 => ?_)
    refine raise_stop (s := { s with heap := h'' }) hh fun h3 e q5 q6 => ⟨_, rfl, q6, hQ h3 s.toks fun b o hb e => q5 b o ?_⟩
    have hbI : b ≠ I := fun e => hb (by simp [e])
    show h''.get? b = some o
    rw [q3.2 b hbI, q1.2 b hbI]; exact e
  self := fun i s Q E st hQ => pyIter_it st.1 hQ

/-! a set that goes by the text, or of one item at most -/
theorem places_text {S : Addr} {cls : String} {es : Array (Int × Value)} {ep : Nat} {t : SetTable} {ks : List Str} (hb : w.params.followText "set-order" = true) (W : SetW w cls es t ks) :
    Places prog w S ({ cls := .type cls, data := .set es ep t } : Obj) ep es.size ((pickOrder (w.params.setOrder S ep) es).toList.map (·.2)) (fun _ _ => True) := by
  have walk : ∀ (A : Around) (E : Value → Shared → Prop) (s : Shared) (Q : Array (Int × Value) → Shared → Prop), s.heap.get? S = some ({ cls := .type cls, data := .set es ep t } : Obj) → Q (pickOrder (w.params.setOrder S ep) es) s → wpAny (model prog w) A (setWalk S) Q E s := by
    intro A E s Q ho h
    unfold setWalk
    refine wpAny_bind (wpAny_setState_of ho rfl W.fits ?_)
    dsimp only
    refine wpAny_bind (setsByText_any ?_)
    rw [hb]
    simp only [if_true]
    exact wpAny_bind (wpAny_askSetting (wpAny_pure h))
  constructor
  · intro A E s Q i slot x ho _ hx h
    unfold setNext
    refine wpAny_bind (wpAny_setState_of ho rfl W.fits ?_)
    dsimp only
    refine wpAny_bind (setsByText_any ?_)
    rw [hb]
    simp only [if_true]
    rw [if_neg (by simp)]
    refine wpAny_bind (walk _ _ _ _ ho (wpAny_pure ?_))
    rw [List.getElem?_map, Array.getElem?_toList] at hx
    obtain ⟨e, he, rfl⟩ := Option.map_eq_some_iff.mp hx
    rw [he]
    exact h slot trivial
  · intro A E s Q slot ho _ h
    unfold setNext
    refine wpAny_bind (wpAny_setState_of ho rfl W.fits ?_)
    dsimp only
    refine wpAny_bind (setsByText_any ?_)
    rw [hb]
    simp only [if_true]
    rw [if_neg (by simp)]
    refine wpAny_bind (walk _ _ _ _ ho (wpAny_pure ?_))
    have hl : (pickOrder (w.params.setOrder S ep) es)[es.size]? = none := by
      rw [Array.getElem?_eq_none_iff, ← Array.length_toList, (pickOrder_perm _ es).length_eq, Array.length_toList]
      exact Nat.le_refl _
    rw [hl]
    exact h
theorem below_one (j0 j : Nat) : SetTable.below #[j0] j = if j0 < j then 1 else 0 := by
  unfold SetTable.below
  show SetTable.below.go #[j0] j 1 0 1 = _
  unfold SetTable.below.go
  simp only [Nat.lt_succ_self, if_true]
  show (if (#[j0] : Array Nat).getD 0 j < j then SetTable.below.go #[j0] j 0 1 1 else SetTable.below.go #[j0] j 0 0 0) = _
  have : (#[j0] : Array Nat).getD 0 j = j0 := rfl
  rw [this]
  split <;> rfl
theorem places_small {S : Addr} {cls : String} {es : Array (Int × Value)} {ep : Nat} {t : SetTable} {ks : List Str} (hb : w.params.followText "set-order" = false) (W : SetW w cls es t ks) (h1 : es.size ≤ 1) :
    Places prog w S ({ cls := .type cls, data := .set es ep t } : Obj) ep es.size (es.toList.map (·.2)) (fun i slot => (i = 0 ∧ slot = 0) ∨ (i = 1 ∧ slot = t.place.getD 0 0 + 1)) := by
  have hled : t.led = true := W.led.resolve_right (by rw [hb]; exact Bool.false_ne_true)
  have hpl : t.place.size = es.size := by
    have := W.fits
    unfold SetTable.fits at this
    simp only [Bool.and_eq_true, beq_iff_eq] at this
    exact this.1
  have next : ∀ (A : Around) (E : Value → Shared → Prop) (s : Shared) (Q : Option (Value × Nat) → Shared → Prop) (slot i : Nat), s.heap.get? S = some ({ cls := .type cls, data := .set es ep t } : Obj) →
      Q (match es[SetTable.below t.place slot]?, t.place[SetTable.below t.place slot]? with | some (_, x), some j => some (x, j + 1) | _, _ => none) s → wpAny (model prog w) A (setNext S slot i ep) Q E s := by
    intro A E s Q slot i ho h
    unfold setNext
    refine wpAny_bind (wpAny_setState_of ho rfl W.fits ?_)
    dsimp only
    refine wpAny_bind (setsByText_any ?_)
    rw [hb]
    simp only [Bool.false_eq_true, if_false]
    show wpAny _ _ (if (!t.plain && decide (es.size > 1)) = true then _ else _) _ _ _
    rw [if_neg (by simp; omega)]
    refine wpAny_bind ?_
    show wpAny _ _ (if (!t.led && !es.isEmpty) = true then (unsupported "set:maker-not-led" : Sem Unit) else pure ()) _ _ _
    rw [hled]
    simp only [Bool.not_true, Bool.false_and, Bool.false_eq_true, if_false]
    exact wpAny_pure (wpAny_pure h)
  have one : es.size = 1 → ∃ j0, t.place = #[j0] := fun h => by
    rw [h] at hpl
    exact Array.size_eq_one_iff.mp hpl
  constructor
  · intro A E s Q i slot x ho hok hx h
    have hlt : i < es.size := by
      have := (List.getElem?_eq_some_iff.mp hx).1
      simpa using this
    have hs1 : es.size = 1 := by omega
    obtain ⟨j0, hj⟩ := one hs1
    have hi0 : i = 0 := by omega
    subst hi0
    have hsl : slot = 0 := by rcases hok with h | h <;> omega
    subst hsl
    refine next A E s Q 0 0 ho ?_
    rw [hj, below_one, if_neg (by omega)]
    rw [List.getElem?_map, Array.getElem?_toList] at hx
    obtain ⟨e, he, rfl⟩ := Option.map_eq_some_iff.mp hx
    rw [he]
    exact h _ (.inr ⟨rfl, by rw [hj]; rfl⟩)
  · intro A E s Q slot ho hok h
    refine next A E s Q slot es.size ho ?_
    have hnone : es[SetTable.below t.place slot]? = none ∨ t.place[SetTable.below t.place slot]? = none := by
      by_cases h0 : es.size = 0
      · left; rw [Array.getElem?_eq_none_iff, h0]; exact Nat.zero_le _
      · have hs1 : es.size = 1 := by omega
        obtain ⟨j0, hj⟩ := one hs1
        have hsl : slot = j0 + 1 := by
          rcases hok with h | h
          · omega
          · rw [h.2, hj]; rfl
        left
        rw [hj, below_one, hsl, if_pos (by omega), Array.getElem?_eq_none_iff, hs1]
        exact Nat.le_refl _
    rcases hnone with e | e
    · rw [e]; exact h
    · rw [e]
      cases es[SetTable.below t.place slot]? <;> exact h

theorem els_strs {l : List (Int × Value)} {ks : List Str} (h : Els w l ks) : StrsAre (l.map (·.2)) ks := by
  induction l generalizing ks with
  | nil => obtain ⟨_, rfl⟩ := h; exact .nil
  | cons e r ih =>
    obtain ⟨h1, rfl⟩ := h
    obtain ⟨k, tk, rfl⟩ := h1 e (.head _)
    exact .cons k tk (ih ⟨fun e he => h1 e (.tail _ he), rfl⟩)
theorem strs_perm {l l' : List Value} {ks : List Str} (h : StrsAre l ks) (p : l'.Perm l) : ∃ ks', StrsAre l' ks' ∧ ks'.Perm ks := by
  refine ⟨l'.map strOf, strsAre_map l' fun v hv => h.all v (p.mem_iff.mp hv), ?_⟩
  rw [← h.strs]
  exact p.map _

/-- going through a set of texts: in some order, each once -/
theorem pyIter_set {S : Addr} {cls : String} {ks : List Str} {Q : Value → Shared → Prop} (hcls : cls = "set" ∨ cls = "frozenset") (hS : SetAt w s.heap S cls ks) (hsz : ks.length < 64)
    (h : ∀ h' d I fp xs ss St, (∀ b o, s.heap.get? b = some o → h'.get? b = some o) → StrsAre xs ss → ss.Perm ks → I ∈ fp → (∀ b ∈ fp, b = S ∨ (s.heap.objs.size ≤ b ∧ b < h'.objs.size)) → s.heap.objs.size ≤ I → I < h'.objs.size →
      (∀ A' : Around, A'.handled = none → Walks prog w A' I fp [I] xs.length (fun i v => xs[i]? = some v) St) → St 0 h' → (∀ i h, St i h → ∃ o, h.get? I = some o ∧ o.cls = .type "set_iterator") → Q (.ref I) { s with heap := h', drawn := d }) :
    wpAny (model prog w) A (pyIter (.ref S)) Q E s := by
  obtain ⟨o, ho, es, ep, t, rfl, W⟩ := hS
  have hT : s.TypeIs (.ref S) cls := ⟨_, ho, rfl⟩
  have hlS : S < s.heap.objs.size := Heap.lt_size ho
  have hlen : es.size = ks.length := by rw [← W.els.length, Array.length_toList]
  have body : wpAny (model prog w) A.in1 (Builtin.«frozenset.__iter__» ⟨[.ref S], []⟩) (fun fin s' => ∃ v, fin = .done (.ret v) ∧ ∃ T' r, s'.TypeIs v T' ∧ typeLookup (.type T') "__next__" = pure (some r) ∧ Q v s') E s := by
    unfold Builtin.«frozenset.__iter__»
    refine wpAny_bind (wpAny_bind (m := slotArgs "__iter__" 0 _) (wpAny_pure ?_))
    refine wpAny_pure ?_
    refine wpAny_bind (wpAny_bind (wpAny_setEntries_of ho rfl W.fits (wpAny_pure ?_)))
    refine wpAny_bind ?_
    unfold setDrawn
    refine wpAny_bind (wpAny_setState_of ho rfl W.fits ?_)
    dsimp only
    refine wpAny_bind (setsByText_any (wpAny_pure ?_))
    show wpAny _ _ (if (!(w.params.followText "set-order") && (!t.plain && decide (es.size > 1))) = true then _ else _) _ _ _
    have fin : ∀ (s₁ : Shared) (first : Value) (R : Fin → Shared → Prop), s₁.heap.get? S = some ({ cls := .type cls, data := .set es ep t } : Obj) → R (.done (.ret (.ref s₁.heap.objs.size))) { s₁ with heap := s₁.heap.push (itObj first 0 (.ref S) es.size ep) } →
        wpAny (model prog w) A.in1 (setEpoch S) (fun e' s' => wpAny (model prog w) A.in1 (do let v ← newFields "set_iterator" [first, rawInt 0, .ref S, rawInt es.size, rawInt e']; ret v) R E s') E s₁ := by
      intro s₁ first R h₁ q
      refine wpAny_setEpoch_of h₁ rfl W.fits ?_
      exact wpAny_bind (wpAny_newObj_type (wpAny_pure q) (by size_fits))
    split
    · refine wpAny_bind (drawOrder_any es.size (List.range es.size) s List.length_range fun idx d hp => ?_)
      have hil : idx.length = es.size := by rw [hp.length_eq, List.length_range]
      refine wpAny_bind (wpAny_newTuple ?_ (by rw [List.length_map, hil, sizeLine_eq]; omega))
      have hT₁ : ∀ o : Obj, (s.heap.push o).get? S = some ({ cls := .type cls, data := .set es ep t } : Obj) := fun o => Heap.get?_push_of_some _ ho
      refine wpAny_bind (fin { s with heap := s.heap.push _, drawn := d } _ _ (hT₁ _) ⟨_, rfl, "set_iterator", _, ⟨_, Heap.get?_push_size _ rfl, rfl⟩, slot_setit_next.lookup, ?_⟩)
      have hTn : (s.heap.push ({ cls := .type "tuple", data := .seq (idx.map fun (j : Nat) => rawInt j).toArray } : Obj)).objs.size = s.heap.objs.size + 1 := Heap.size_push _ _
      have hxs := strs_perm (els_strs W.els) (l' := idx.map fun j => (es.toList.map (·.2)).getD j .none) (by
        refine (hp.map _).trans ?_
        have e : (List.range es.size).map (fun j => (es.toList.map (·.2)).getD j .none) = es.toList.map (·.2) := by
          apply List.ext_getElem
          · simp
          · intro i a b
            simp at a
            simp [List.getD_eq_getElem?_getD, a]
        rw [e])
      obtain ⟨ss, x1, x2⟩ := hxs
      have hxl : (idx.map fun j => (es.toList.map (·.2)).getD j .none).length = es.size := by rw [List.length_map, hil]
      refine h _ d _ [s.heap.objs.size + 1, S, s.heap.objs.size] _ ss (StD S s.heap.objs.size ({ cls := .type cls, data := .set es ep t } : Obj) ep es.size idx (s.heap.objs.size + 1)) (fun b o e => Heap.get?_push_of_some _ (Heap.get?_push_of_some _ e)) x1 x2 (by rw [hTn]; simp) ?_ (by rw [hTn]; omega) ?_ ?_ ?_ ?_
      · intro b hb
        simp only [List.mem_cons, List.not_mem_nil, or_false] at hb
        rw [Heap.size_push, hTn]
        rcases hb with rfl | rfl | rfl
        · exact .inr ⟨Nat.le_succ _, Nat.lt_succ_self _⟩
        · left; rfl
        · exact .inr ⟨Nat.le_refl _, Nat.lt_succ_of_lt (Nat.lt_succ_self _)⟩
      · exact Nat.lt_of_lt_of_eq (Nat.lt_succ_self _) (Heap.size_push _ _).symm
      · intro A' hA'
        rw [hTn, hxl]
        exact walks_drawn hA' (Nat.ne_of_lt (Nat.lt_succ_of_lt hlS)) (Nat.ne_of_lt (Nat.lt_succ_self _)) rfl hp W.fits
      · refine ⟨?_, ⟨0, ?_⟩, ?_⟩
        · rw [← hTn]; exact Heap.get?_push_size _ rfl
        · exact Heap.get?_push_of_some _ (Heap.get?_push_size _ rfl)
        · exact Heap.get?_push_of_some _ (hT₁ _)
      · intro i h st
        rw [hTn]
        exact ⟨_, st.1, rfl⟩
    · rename_i hc
      refine wpAny_bind (wpAny_pure ?_)
      refine wpAny_bind (fin s _ _ ho ⟨_, rfl, "set_iterator", _, ⟨_, Heap.get?_push_size _ rfl, rfl⟩, slot_setit_next.lookup, ?_⟩)
      have go : ∀ (xs : List Value) (ok : Nat → Nat → Prop), xs.length = es.size → xs.Perm (es.toList.map (·.2)) → ok 0 0 → Places prog w S ({ cls := .type cls, data := .set es ep t } : Obj) ep es.size xs ok → Q (.ref s.heap.objs.size) { s with heap := s.heap.push (itObj (rawInt 0) 0 (.ref S) es.size ep) } := by
        intro xs ok hxl hxp hok PL
        obtain ⟨ss, x1, x2⟩ := strs_perm (els_strs W.els) hxp
        refine h _ s.drawn s.heap.objs.size [s.heap.objs.size, S] xs ss (StP S ({ cls := .type cls, data := .set es ep t } : Obj) ep es.size ok s.heap.objs.size) (fun b o e => Heap.get?_push_of_some _ e) x1 x2 (by simp) ?_ (Nat.le_refl _) ?_ ?_ ?_ ?_
        · intro b hb
          simp only [List.mem_cons, List.not_mem_nil, or_false] at hb
          rw [Heap.size_push]
          rcases hb with rfl | rfl
          · exact .inr ⟨Nat.le_refl _, Nat.lt_succ_self _⟩
          · left; rfl
        · rw [Heap.size_push]; exact Nat.lt_succ_self _
        · intro A' hA'
          rw [hxl]
          exact walks_places hA' (Nat.ne_of_lt hlS) rfl hxl W.fits PL
        · exact ⟨⟨0, Heap.get?_push_size _ rfl, hok⟩, Heap.get?_push_of_some _ ho⟩
        · rintro i h ⟨⟨slot, h1, _⟩, _⟩
          exact ⟨_, h1, rfl⟩
      cases hb : w.params.followText "set-order" with
      | true =>
        exact go _ _ (by rw [List.length_map, (pickOrder_perm _ es).length_eq, Array.length_toList]) ((pickOrder_perm _ es).map _) trivial (places_text hb W)
      | false =>
        have h1 : es.size ≤ 1 := by
          rcases W.plain with hp | hp
          · rw [hb, hp] at hc
            simpa using hc
          · omega
        exact go _ _ (by simp) .rfl (.inl ⟨rfl, rfl⟩) (places_small hb W h1)
  rcases hcls with rfl | rfl
  · exact wpAny_pyIter_slot hT F.slot_set_iter (wpAny_call_entry F.slot_set_iter hT entry_set_iter body (F.args_set_iter_1 _))
  · exact wpAny_pyIter_slot hT slot_frozenset_iter (wpAny_call_entry slot_frozenset_iter hT entry_frozenset_iter body (args_frozenset_iter_1 _))
end
end Et
end
section
open PySem PySem.W PySem.Calls PyProof.Rows
set_option Elab.async false
set_option maxRecDepth 100000
namespace Et
section
variable {prog : Program} {w : World} {A : Around} {E : Value → Shared → Prop} {s : Shared}

theorem items_eq {xs : List Value} {acc : Array Value} (h : ItemsOf (fun i v => xs[i]? = some v) acc xs.length) : acc = xs.toArray := by
  apply Array.ext
  · rw [h.1, List.size_toArray]
  · intro i a b
    have : xs[i]? = some acc[i] := h.2 i acc[i] (Array.getElem?_eq_getElem a)
    simp at b
    rw [List.getElem?_eq_getElem b] at this
    simpa using (Option.some.inj this).symm

theorem split_set : splitId "set.__len__" = some ("set", "__len__") := by decide +kernel
theorem split_froz : splitId "frozenset.__len__" = some ("frozenset", "__len__") := by decide +kernel
theorem silent_set : Builtin.List.listLengthHint = Builtin.List.listLengthHint := rfl

theorem hint_set {O : Addr} {cls : String} {ks : List Str} {Q : Bool → Shared → Prop} (hcls : cls = "set" ∨ cls = "frozenset") (hO : SetAt w s.heap O cls ks) (h : Q false s) :
    wpAny (model prog w) A (Builtin.List.listLengthHint (.ref O)) Q E s := by
  obtain ⟨o, ho, hSO⟩ := hO
  have hT : s.TypeIs (.ref O) cls := ⟨o, ho, hSO.cls_⟩
  unfold Builtin.List.listLengthHint
  rcases hcls with rfl | rfl
  · refine wpAny_bind (wpAny_specialOf hT F.slot_set_len.lookup ?_)
    wp_delta
    refine wpAny_bind (wpAny_isInstance hT sub_set_self ?_)
    show wpAny _ _ (typeOf (Value.ref O) >>= _) _ _ _
    refine wpAny_bind (wpAny_typeOf hT ?_)
    exact wpAny_pure h
  · refine wpAny_bind (wpAny_specialOf hT slot_frozenset_len.lookup ?_)
    wp_delta
    refine wpAny_bind (wpAny_isInstance hT sub_frozenset_self ?_)
    show wpAny _ _ (typeOf (Value.ref O) >>= _) _ _ _
    refine wpAny_bind (wpAny_typeOf hT ?_)
    exact wpAny_pure h

theorem extend_set {O L : Addr} {cls : String} {ks : List Str} {res : Value} {c₀ : Nat} {R : Result → Shared → Prop} (hh : A.handled = none) (hcls : cls = "set" ∨ cls = "frozenset") (hO : SetAt w s.heap O cls ks) (hsz : ks.length < 64)
    (hL : s.heap.get? L = some { cls := .type "list", data := .seq #[] c₀ })
    (hR : ∀ h' tk d xs ss c', (∀ b o, b ≠ L → s.heap.get? b = some o → h'.get? b = some o) → h'.get? L = some { cls := .type "list", data := .seq xs.toArray c' } → StrsAre xs ss → ss.Perm ks → R (.ok (.ret res)) { s with heap := h', toks := tk, drawn := d }) :
    wpAny (model prog w) A.in1 (Builtin.List.listExtendWith (.ref L) (.ref O) res)
      (fun fin s' => match fin with | .done f => R (.ok f) s' | .again c' => c'.quiet = true ∧ codeAny (model prog w) A c' R s') (fun e s' => R (.error e) s') s := by
  have hO' := hO
  obtain ⟨o, ho, hSO⟩ := hO
  have hT : s.TypeIs (.ref O) cls := ⟨o, ho, hSO.cls_⟩
  have hne : L ≠ O := fun e => by
    subst e
    rw [hL] at ho
    cases ho
    have := hSO.cls_
    rcases hcls with rfl | rfl <;> simp at this
  have hlL : L < s.heap.objs.size := Heap.lt_size hL
  unfold Builtin.List.listExtendWith
  refine wpAny_bind (wpAny_typeOf hT ?_)
  have h1 : Builtin.List.listSameRef (.ref L) (.ref O) = false := by simp [Builtin.List.listSameRef, hne]
  have h2 : (Value.type cls == Value.type "list") = false := by rcases hcls with rfl | rfl <;> decide
  have h3 : (Value.type cls == Value.type "tuple") = false := by rcases hcls with rfl | rfl <;> decide
  simp only [h1, h2, h3, Bool.or_false, Bool.false_eq_true, if_false]
  refine wpAny_bind (pyIter_set hcls hO' hsz fun h₁ d I fp xs ss St q1 q2 q3 q4 q5 q6 q7 W hst hob => ?_)
  refine wpAny_bind (wpAny_holding (hint_set (s := { s with heap := h₁, drawn := d }) hcls (hO'.keeps q1) ?_))
  simp only [Bool.false_or]
  have hsf : L ∉ fp := fun hm => by
    rcases q5 L hm with e | ⟨e, _⟩
    · exact hne e
    · exact absurd hlL (Nat.not_lt.mpr e)
  have hL1 := q1 L _ hL
  have hxl : xs.length = ks.length := by rw [strs_len q2, q3.length_eq]
  have loop : ∀ (H : Heap) (c : Nat), (∀ b o, b ≠ L → h₁.get? b = some o → H.get? b = some o) → H.get? L = some { cls := .type "list", data := .seq #[] c } →
      codeAny (model prog w) A (.builtin "list.extend.loop" ⟨[.ref L, .ref I, res], []⟩) R { s with heap := H, drawn := d } := by
    intro H c hk hLc
    refine codeAny_extend_loopS (W A.in1 hh).toS (by rw [hxl, sizeLine_eq]; omega) L hsf res xs.length 0 { s with heap := H, drawn := d } #[] c rfl (Nat.zero_le _)
      ((W A.in1 hh).frame 0 _ _ hst fun b hb o e => hk b o (fun e' => hsf (e' ▸ hb)) e) hLc (ItemsOf.nil _) fun s' acc' c' hm hS' hacc => ?_
    obtain ⟨h', g', d', tk', os'⟩ := s'
    have eg : g' = s.gens := hm.gens
    have ed : d' = d := hm.drawn
    have eo : os' = s.os := hm.os
    subst eg; subst ed; subst eo
    have := items_eq hacc
    subst this
    refine hR h' tk' d' xs ss c' (fun b o hb e => hm.heap b o ?_ (hk b o hb (q1 b o e))) hS' q2 q3
    intro hmem
    rcases List.mem_cons.mp hmem with e' | e'
    · exact hb e'
    · rw [List.mem_singleton] at e'
      exact absurd (Heap.lt_size e) (by rw [e']; exact Nat.not_lt.mpr q6)
  have fin : wpAny (model prog w) A.in1 (do
      rule "list.extend.makes-room"
      Builtin.List.listTouch (.ref L)
      again (.builtin "list.extend.loop" ⟨[.ref L, .ref I, res], []⟩))
      (fun fin s' => match fin with | .done f => R (.ok f) s' | .again c' => c'.quiet = true ∧ codeAny (model prog w) A c' R s') (fun e s' => R (.error e) s') { s with heap := h₁, drawn := d } := by
    refine wpAny_bind (wpAny_rule ?_)
    refine wpAny_bind ?_
    show wpAny _ A.in1 (updateSeq L (·.push .none) >>= fun _ => updateSeq L (·.pop)) _ _ _
    refine wpAny_bind (wpAny_updateSeq hL1 rfl ?_)
    have hS₂ := Heap.get?_update_self (Obj.mapSeq (·.push Value.none)) hL1 rfl
    refine wpAny_updateSeq (hz := by seq_fits) hS₂ rfl ?_
    have hS₃ := Heap.get?_update_self (Obj.mapSeq (·.pop)) hS₂ rfl
    exact wpAny_pure ⟨plainId_quiet F.plain_extend_loop _, loop _ _ (fun b o hb e => (Heap.get?_update_other _ _ (Ne.symm hb)).trans ((Heap.get?_update_other _ _ (Ne.symm hb)).trans e)) hS₃⟩
  rcases hcls with rfl | rfl
  · split
    · exact fin
    · rename_i hn
      exact absurd (by decide +kernel) hn
  · split
    · exact fin
    · rename_i hn
      exact absurd (by decide +kernel) hn

theorem collect_set {O : Addr} {cls : String} {ks : List Str} {Q : List Value → Shared → Prop} (hh : A.handled = none) (hcls : cls = "set" ∨ cls = "frozenset") (hO : SetAt w s.heap O cls ks) (hsz : ks.length < 64)
    (h : ∀ h' tk d xs ss, (∀ b o, s.heap.get? b = some o → h'.get? b = some o) → StrsAre xs ss → ss.Perm ks → Q xs { s with heap := h', toks := tk, drawn := d }) : wpAny (model prog w) A (collect (.ref O)) Q E s := by
  unfold collect
  refine wpAny_bind (wpAny_runValue (codeAny_builtin entry_proto_collect' ?_))
  show wpAny _ _ (do again (.builtin "list.__iadd__" ⟨[← newList [], .ref O], []⟩)) _ _ s
  refine wpAny_bind (wpAny_newList (wpAny_pure ⟨Code.quiet_builtin _ (by decide +kernel), codeAny_builtin entry_list_iadd' ?_⟩))
  rw [Around.under_plainId F.plain_list_iadd _]
  show wpAny _ A.in1 (Builtin.List.listExtendWith (.ref s.heap.objs.size) (.ref O) (.ref s.heap.objs.size)) _ _ _
  refine extend_set (s := { s with heap := s.heap.push { cls := .type "list", data := .seq #[] } }) (R := fun r s' => match r with
    | .ok (.ret v) => wpAny (model prog w) A (match v with
      | .ref a => (do match (← load a).data with | .seq xs _ => pure xs.toList | _ => unsupported "internal:collect")
      | _ => unsupported "internal:collect") Q E s'
    | .ok _ => False
    | .error e => E e s') hh hcls (hO.push _) hsz (Heap.get?_push_size _ rfl) fun h' tk d xs ss c' q1 q2 q3 q4 => ?_
  show wpAny _ A (load s.heap.objs.size >>= _) _ _ _
  refine wpAny_bind (wpAny_load q2 ?_)
  refine wpAny_pure ?_
  have := h h' tk d xs ss (fun b o e => q1 b o (Nat.ne_of_lt (Heap.lt_size e)) (Heap.get?_push_of_some _ e)) q3 q4
  simpa using this

/-- sorted(..) of a set of texts -/
theorem sort_tail {vs : List Value} {ss : List Str} {Q : Value → Shared → Prop} (hS : StrsAre vs ss) (h64 : vs.length < 64)
    (h : ∀ h' l vs' ss' e, (∀ b o, s.heap.get? b = some o → h'.get? b = some o) → s.heap.get? l = none → h'.get? l = some { cls := .type "list", data := .seq vs'.toArray e } → StrsAre vs' ss' → ss'.Perm ss → sortedS ss' = true → Q (.ref l) { s with heap := h' }) :
    wpAny (model prog w) A (do
      let l ← newList vs
      let _ ← holding [l] (call (.builtin "list.sort") [l])
      ret l) (fun fin s' => ∃ v, fin = .done (.ret v) ∧ Q v s') E s := by
  refine wpAny_bind (wpAny_newList ?_ (by rw [sizeLine_eq]; omega))
  have hoL : (s.heap.push (seqObj "list" vs.toArray 0)).get? s.heap.objs.size = some (seqObj "list" vs.toArray 0) := Heap.get?_push_size _ rfl
  refine wpAny_bind (wpAny_holding (wpAny_call_entry (s := { s with heap := s.heap.push (seqObj "list" vs.toArray 0) }) slot_list_sort ⟨_, hoL, rfl⟩ entry_list_sort
    (list_sort_treeK strKind_oneLt hoL hS.keysOf (fun v₁ v₂ rest e => keyKind_strs (by rw [← e]; exact hS)) h64 fun st' a1 a2 => ⟨_, rfl, ?_⟩) (args_list_sort _)))
  obtain ⟨ss', h1, h2, h3⟩ := sorted_out_str hS a1 a2
  have hat := sortedHeap_at (vs := vs) (out := (arrOf st').map (·.2)) hoL
  obtain ⟨e, he⟩ := hat
  refine wpAny_pure ⟨_, rfl, h _ s.heap.objs.size ((arrOf st').map (·.2)).toList ss' e (fun b o eb => ?_) ?_ (by rw [Array.toArray_toList]; exact he) h1 h2 h3⟩
  · have hlt := Heap.lt_size eb
    show (sortedHeap (s.heap.push (seqObj "list" vs.toArray 0)) s.heap.objs.size vs _).get? b = some o
    rw [sortedHeap_old (Nat.ne_of_lt hlt) (by rw [Heap.size_push]; exact Nat.lt_succ_of_lt hlt)]
    exact Heap.get?_push_of_some _ eb
  · cases hq : s.heap.get? s.heap.objs.size with
    | none => rfl
    | some o => exact absurd (Heap.lt_size hq) (Nat.lt_irrefl _)

theorem sorted_set {O : Addr} {cls : String} {ks : List Str} {Q : Value → Shared → Prop} (hh : A.handled = none) (hcls : cls = "set" ∨ cls = "frozenset") (hO : SetAt w s.heap O cls ks) (hsz : ks.length < 64)
    (h : ∀ h' tk d l vs' ss' e, (∀ b o, s.heap.get? b = some o → h'.get? b = some o) → s.heap.get? l = none → h'.get? l = some { cls := .type "list", data := .seq vs'.toArray e } → StrsAre vs' ss' → ss'.Perm ks → sortedS ss' = true → Q (.ref l) { s with heap := h', toks := tk, drawn := d }) :
    wpAny (model prog w) A (call (.builtin "sorted") [.ref O]) Q E s := by
  refine Calls.call_function_entry kind_sorted plain_sorted entry_sorted (args_sorted1 _) ?_
  unfold Builtin.«sorted»
  refine wpAny_bind (m := checkCount "sorted" 1 1 _) (wpAny_pure ?_)
  refine wpAny_bind (collect_set hh hcls hO hsz fun h' tk d xs ss q1 q2 q3 => ?_)
  refine sort_tail (s := { s with heap := h', toks := tk, drawn := d }) q2 (by rw [strs_len q2, q3.length_eq]; exact hsz) fun h'' l vs' ss' e p1 p2 p3 p4 p5 p6 => ?_
  refine h h'' tk d l vs' ss' e (fun b o eb => p1 b o (q1 b o eb)) ?_ p3 p4 (p5.trans q3) p6
  cases hq : s.heap.get? l with
  | none => rfl
  | some o => have := q1 _ _ hq; rw [this] at p2; cases p2
theorem sorted_list_strs {l₀ : Addr} {vs : List Value} {ss : List Str} {Q : Value → Shared → Prop} (hl : s.heap.IsList l₀ vs.toArray) (hS : StrsAre vs ss) (h64 : vs.length < 64)
    (h : ∀ h' l vs' ss' e, (∀ b o, s.heap.get? b = some o → h'.get? b = some o) → s.heap.get? l = none → h'.get? l = some { cls := .type "list", data := .seq vs'.toArray e } → StrsAre vs' ss' → ss'.Perm ss → sortedS ss' = true → Q (.ref l) { s with heap := h' }) :
    wpAny (model prog w) A (call (.builtin "sorted") [.ref l₀]) Q E s := by
  refine sorted_strs hl hS h64 fun out ss' a1 a2 a3 => ?_
  obtain ⟨e, he⟩ := sortedAll_at s.heap vs out
  refine h _ _ out.toList ss' e (fun b o eb => sortedAll_old eb) ?_ (by rw [Array.toArray_toList]; exact he) a1 a2 a3
  cases hq : s.heap.get? (s.heap.objs.size + 1) with
  | none => rfl
  | some o => exact absurd (Heap.lt_size hq) (Nat.not_lt.mpr (Nat.le_succ _))

/-! what two sorted lists of the same distinct texts are -/
end
end Et
end
section
open PySem PySem.W PySem.Calls PyProof.Rows
set_option Elab.async false
set_option maxRecDepth 100000
namespace Et
section
variable {prog : Program} {w : World} {A : Around} {E : Value → Shared → Prop} {s : Shared}
open Builtin.Re

theorem named_2 (x p : Value) : reNamed "re.Pattern.match" "match" ["string", "pos", "endpos"] 1 [x, p] [] = pure [some x, some p, none] := by rfl

theorem runFor_add : ∀ (a b : Nat) (m : Sre.M), (m.runFor a).runFor b = m.runFor (a + b)
  | 0, b, m => by rw [Nat.zero_add]; rfl
  | a + 1, b, m => by
    rw [show a + 1 + b = (a + b) + 1 by omega]
    by_cases h : m.outcome.isSome = true
    · rw [runFor_done _ _ h, runFor_done _ _ h, runFor_done _ _ h]
    · have e : ∀ n, m.runFor (n + 1) = m.step.runFor n := fun n => by
        conv => lhs; unfold Sre.M.runFor
        rw [if_neg h]
      rw [e, e]
      exact runFor_add a b m.step
theorem drive_any {Q : Sre.M → Shared → Prop} : ∀ (turns N : Nat) (m : Sre.M), (m.runFor N).outcome.isSome = true → N < turns → Q (m.runFor N) s → wpAny (model prog w) A (reDrive turns m) Q E s
  | 0, N, m, _, hlt, _ => absurd hlt (Nat.not_lt_zero _)
  | turns + 1, N, m, ho, hlt, h => by
    show wpAny _ _ (if (m.runFor 4).outcome.isSome = true then pure (m.runFor 4) else (do rule "sre.turn"; reDrive turns (m.runFor 4))) Q E s
    by_cases h4 : (m.runFor 4).outcome.isSome = true
    · rw [if_pos h4]
      have e : m.runFor 4 = m.runFor N := by
        rcases Nat.le_total N 4 with hle | hle
        · have := runFor_add N (4 - N) m
          rw [show N + (4 - N) = 4 by omega, runFor_done _ _ ho] at this
          exact this.symm
        · have := runFor_add 4 (N - 4) m
          rw [show 4 + (N - 4) = N by omega, runFor_done _ _ h4] at this
          exact this
      rw [e]
      exact wpAny_pure h
    · rw [if_neg h4]
      have hN : 4 < N := by
        rcases Nat.lt_or_ge 4 N with hl | hl
        · exact hl
        · exfalso
          have := runFor_add N (4 - N) m
          rw [show N + (4 - N) = 4 by omega, runFor_done _ _ ho] at this
          rw [← this] at h4
          exact h4 ho
      have e := runFor_add 4 (N - 4) m
      rw [show 4 + (N - 4) = N by omega] at e
      refine wpAny_bind (wpAny_rule (drive_any turns (N - 4) (m.runFor 4) ?_ (by omega) ?_))
      · rw [e]; exact ho
      · rw [e]; exact h

theorem runEnd_any {m m' : Sre.M} {N : Nat} {Q : Option Sre.M → Shared → Prop} (hm : m.runFor N = m') (hN : N ≤ 400)
    (h1 : m'.outcome = some .matched → Q (some m') s) (h2 : m'.outcome = some .failed → Q none s) (ho : m'.outcome = some .matched ∨ m'.outcome = some .failed) :
    wpAny (model prog w) A (reRunToEnd m) Q E s := by
  unfold reRunToEnd
  refine wpAny_bind (drive_any (2 ^ 64) N m (by rw [hm]; rcases ho with e | e <;> rw [e] <;> rfl) (Nat.lt_of_le_of_lt hN (by decide)) ?_)
  rw [hm]
  refine wpAny_bind (wpAny_forIn_list _ (fun _ _ s' => s = s') _ ?_ ?_ _ _ rfl)
  · rintro x rest b s' rfl
    split
    · exact wpAny_bind (wpAny_rule (wpAny_pure rfl))
    · exact wpAny_pure rfl
  · rintro b s' rfl
    rcases ho with e | e
    · rw [e]; exact wpAny_pure (h1 e)
    · rw [e]; exact wpAny_pure (h2 e)

/-- the match's record -/
def spansOf (lm : Int) (mks : List (Option Nat)) : List Value := (List.range 3).flatMap fun g =>
  match if ((2 * g + 1 : Nat) : Int) ≤ lm then (mks.getD (2 * g) none, mks.getD (2 * g + 1) none) else (none, none) with
  | (some b, some e) => [rawInt b, rawInt e]
  | _ => [rawInt (-1), rawInt (-1)]
def spansGood (lm : Int) (mks : List (Option Nat)) : Bool := !((List.range 3).any fun g => match mks.getD (2 * g) none, mks.getD (2 * g + 1) none with | some b, some e => decide (((2 * g + 1 : Nat) : Int) ≤ lm) && decide (e < b) | _, _ => false)

def matchObj (x pat : Value) (pos lim : Nat) (li : Int) (tp : Addr) : Obj := { cls := .type "re.Match", data := .fields #[x, pat, rawInt pos, rawInt lim, rawInt li, .ref tp] }
def spanTup (st hd : Nat) (spans : List Value) : Obj := { cls := .type "tuple", data := .seq (rawInt st :: rawInt hd :: spans).toArray }

theorem newMatch_any {pat x : Value} {pos lim : Nat} {m : Sre.M} {mks : List (Option Nat)} {Q : Value → Shared → Prop} (hm : m.marks = mks.toArray) (hg : spansGood m.lastmark mks = true)
    (h : Q (.ref (s.heap.objs.size + 1)) { s with heap := (s.heap.push (spanTup m.start m.handed (spansOf m.lastmark mks))).push (matchObj x pat pos lim m.lastindex s.heap.objs.size) }) :
    wpAny (model prog w) A (reNewMatch pat x 3 pos lim m) Q E s := by
  have hget : ∀ i, m.marks.getD i none = mks.getD i none := fun i => by rw [hm]; simp [List.getD_eq_getElem?_getD]
  have hget' : (fun i => m.marks.getD i none) = fun i => mks.getD i none := funext hget
  unfold reNewMatch
  have e1 : ((List.range 3).any (fun g => match m.marks.getD (2 * g) none, m.marks.getD (2 * g + 1) none with | some b, some e => decide (((2 * g + 1 : Nat) : Int) ≤ m.lastmark) && decide (e < b) | _, _ => false)) = false := by
    simp only [hget]
    simpa [spansGood] using hg
  have hlen : (spansOf m.lastmark mks).length = 6 := by
    unfold spansOf
    show (List.flatMap _ [0, 1, 2]).length = 6
    simp only [List.flatMap_cons, List.flatMap_nil, List.length_append, List.length_nil]
    have q : ∀ g : Nat, (match if ((2 * g + 1 : Nat) : Int) ≤ m.lastmark then (mks.getD (2 * g) none, mks.getD (2 * g + 1) none) else (none, none) with
      | (some b, some e) => [rawInt b, rawInt e]
      | _ => [rawInt (-1), rawInt (-1)]).length = 2 := fun g => by split <;> rfl
    rw [q, q, q]
  generalize hL : List.flatMap _ (List.range 3) = L
  have hL' : L = spansOf m.lastmark mks := by rw [← hL]; simp only [hget]; rfl
  subst hL'
  split
  · rename_i hc
    exact absurd (e1.symm.trans hc) (by simp)
  · refine wpAny_bind (m := newTuple _) (wpAny_newTuple ?_ ?_)
    · have hs : (s.heap.push (spanTup m.start m.handed (spansOf m.lastmark mks))).objs.size = s.heap.objs.size + 1 := Heap.size_push _ _
      refine wpAny_newObj_type ?_ (by size_fits)
      show Q (.ref (s.heap.push (spanTup m.start m.handed (spansOf m.lastmark mks))).objs.size) _
      rw [hs]
      exact h
    · rw [List.length_cons, List.length_cons, hlen, sizeLine_eq]; omega

/-- a match at a place, over a text that agrees with an item there -/
theorem match_call {X : Str} {tk tp : Tok} {pos : Nat} {pat ct : Addr} {po co : Obj} {pv cv : Array Value} {n : Nat} {t : List Nat} {ex : Bool} {r : Option (Nat × Int × Int × List (Option Nat))} {Q : Value → Shared → Prop}
    (hp : s.heap.get? pat = some po) (hpc : po.cls = .type "re.Pattern") (hpd : po.data = .fields pv) (h2 : pv.getD 2 .none = rawInt 3) (h5 : pv.getD 5 .none = .ref ct) (h6 : pv.getD 6 .none = rawInt 0)
    (hc : s.heap.get? ct = some co) (hcd : co.data = .seq cv n) (hcv : (cv.map reRawOf).map (·.toNat) = etCode)
    (hlen : X.cps.size < 100000) (hpos : pos ≤ X.cps.size) (W : Win t ex pos X.cps X.cps.size) (ht : ex = false → 0 < t.length) (htell : S.tell t ex = some r)
    (hgood : ∀ hd lm li mks, r = some (hd, lm, li, mks) → spansGood lm mks = true ∧ mks.length = 6)
    (hnone : r = none → Q .none s)
    (hsome : ∀ hd lm li mks, r = some (hd, lm, li, mks) → Q (.ref (s.heap.objs.size + 1)) { s with heap := (s.heap.push (spanTup pos (hd + pos) (spansOf lm (mks.map (shO pos))))).push (matchObj (.str X tk) (.ref pat) pos X.cps.size li s.heap.objs.size) }) :
    wpAny (model prog w) A (call (.builtin "re.Pattern.match") [.ref pat, .str X tk, .int pos tp]) Q E s := by
  have hT : s.TypeIs (.ref pat) "re.Pattern" := ⟨po, hp, hpc⟩
  refine wpAny_call_entry slot_pat_match hT entry_pat_match ?_ (args_pat_match_3 _ _ _)
  unfold Builtin.«re.Pattern.match» reTarget
  have hz : X.cps.size < 2 ^ 63 - 1 := Nat.lt_trans hlen (by decide)
  refine wpAny_bind ?_
  dsimp only
  rw [named_2]
  refine wpAny_bind (wpAny_pure ?_)
  dsimp only
  refine wpAny_bind ?_
  show wpAny _ _ (reSsize (.int pos tp)) _ _ _
  unfold reSsize
  refine wpAny_bind (m := asIndex _) (wpAny_pure ?_)
  rw [if_neg (by simp; omega)]
  refine wpAny_pure ?_
  refine wpAny_bind (wpAny_pure ?_)
  refine wpAny_bind (wpAny_fieldsOf hp hpd ?_)
  refine wpAny_bind (m := reTextOf _) (wpAny_pure ?_)
  dsimp only
  rw [h6]
  rw [if_neg (by decide), if_neg (by decide)]
  refine wpAny_bind (m := reNoCollectionInside _ 0) (wpAny_pure ?_)
  rw [h5]
  refine wpAny_bind ?_
  unfold reRawItems
  refine wpAny_bind (wpAny_seqItems hc hcd (wpAny_pure ?_))
  refine wpAny_pure ?_
  have hpm : min ((pos : Int)).toNat X.cps.size = pos := by omega
  have hlm : min ((2 ^ 63 - 1 : Int)).toNat X.cps.size = X.cps.size := by omega
  simp only [Option.getD_some]
  rw [hcv, hpm, hlm, h2]
  obtain ⟨N, T, hN⟩ := match_tells W ht htell
  unfold reAnswer
  dsimp only
  have hout : ((Sre.forMatch etCode X.cps 3 pos X.cps.size false false).runFor N).outcome = some .matched ∨ ((Sre.forMatch etCode X.cps 3 pos X.cps.size false false).runFor N).outcome = some .failed := by
    cases r with
    | none => exact .inr (T.failed rfl)
    | some x => obtain ⟨hd, lm, li, mks⟩ := x; exact .inl (T.matched _ _ _ _ rfl).1
  refine wpAny_bind (runEnd_any (m := Sre.forMatch etCode X.cps (reRawNat (rawInt 3)) pos X.cps.size false false) rfl hN (fun ho => ?_) (fun ho => ?_) hout)
  · cases r with
    | none => have := T.failed rfl; rw [show Sre.forMatch etCode X.cps (reRawNat (rawInt 3)) pos X.cps.size false false = Sre.forMatch etCode X.cps 3 pos X.cps.size false false from rfl, this] at ho; cases ho
    | some x =>
      obtain ⟨hd, lm, li, mks⟩ := x
      obtain ⟨_, t1, t2, t3, t4, t5⟩ := T.matched _ _ _ _ rfl
      obtain ⟨g1, g2⟩ := hgood _ _ _ _ rfl
      dsimp only
      have gg : spansGood lm (mks.map (shO pos)) = true := by
        unfold spansGood at g1 ⊢
        simp only [Bool.not_eq_true', List.any_eq_false] at g1 ⊢
        intro g hgm
        have := g1 g hgm
        have e : ∀ i, (mks.map (shO pos)).getD i none = shO pos (mks.getD i none) := fun i => by
          simp only [List.getD_eq_getElem?_getD, List.getElem?_map]
          cases mks[i]? <;> rfl
        rw [e, e]
        cases ha : mks.getD (2 * g) none with
        | none => simp [shO]
        | some b =>
          cases hb : mks.getD (2 * g + 1) none with
          | none => simp [shO]
          | some e' =>
            rw [ha, hb] at this
            simp only [shO, Option.map_some] at this ⊢
            simpa using this
      refine wpAny_bind (newMatch_any (mks := mks.map (shO pos)) ?_ ?_ ?_)
      · exact t5
      · show spansGood (Sre.M.lastmark ((Sre.forMatch etCode X.cps 3 pos X.cps.size false false).runFor N)) _ = true
        rw [t3]; exact gg
      · refine wpAny_pure ⟨_, rfl, ?_⟩
        have := hsome _ _ _ _ rfl
        show Q _ { s with heap := (s.heap.push (spanTup (Sre.M.start ((Sre.forMatch etCode X.cps 3 pos X.cps.size false false).runFor N)) (Sre.M.handed ((Sre.forMatch etCode X.cps 3 pos X.cps.size false false).runFor N)) (spansOf (Sre.M.lastmark ((Sre.forMatch etCode X.cps 3 pos X.cps.size false false).runFor N)) _))).push (matchObj _ _ pos X.cps.size (Sre.M.lastindex ((Sre.forMatch etCode X.cps 3 pos X.cps.size false false).runFor N)) _) }
        rw [t1, t2, t3, t4]
        exact this
  · cases r with
    | none => exact wpAny_pure ⟨_, rfl, hnone rfl⟩
    | some x =>
      obtain ⟨hd, lm, li, mks⟩ := x
      have := (T.matched _ _ _ _ rfl).1
      rw [show Sre.forMatch etCode X.cps (reRawNat (rawInt 3)) pos X.cps.size false false = Sre.forMatch etCode X.cps 3 pos X.cps.size false false from rfl, this] at ho; cases ho

theorem getMethod_pat {pat : Addr} {po : Obj} {pl : Sem Bool} {Q : Value × List Value → Shared → Prop} (hp : s.heap.get? pat = some po) (hpc : po.cls = .type "re.Pattern") (hpd : po.dict = none) (h : Q (.builtin "re.Pattern.match", [.ref pat]) s) :
    wpAny (model prog w) A (getMethod (.ref pat) "match" pl) Q E s :=
  getMethod_builtin ⟨po, hp, hpc⟩ plain_re_Pattern slot_pat_match type_pat_match (fun b e => by injection e with e; subst e; exact ⟨po, hp, hpd⟩) h
theorem getMethod_groups {m : Addr} {mo : Obj} {pl : Sem Bool} {Q : Value × List Value → Shared → Prop} (hp : s.heap.get? m = some mo) (hpc : mo.cls = .type "re.Match") (hpd : mo.dict = none) (h : Q (.builtin "re.Match.groups", [.ref m]) s) :
    wpAny (model prog w) A (getMethod (.ref m) "groups" pl) Q E s :=
  getMethod_builtin ⟨mo, hp, hpc⟩ plain_re_Match slot_match_groups type_match_groups (fun b e => by injection e with e; subst e; exact ⟨mo, hp, hpd⟩) h
theorem getMethod_end {m : Addr} {mo : Obj} {pl : Sem Bool} {Q : Value × List Value → Shared → Prop} (hp : s.heap.get? m = some mo) (hpc : mo.cls = .type "re.Match") (hpd : mo.dict = none) (h : Q (.builtin "re.Match.end", [.ref m]) s) :
    wpAny (model prog w) A (getMethod (.ref m) "end" pl) Q E s :=
  getMethod_builtin ⟨mo, hp, hpc⟩ plain_re_Match slot_match_end type_match_end (fun b e => by injection e with e; subst e; exact ⟨mo, hp, hpd⟩) h

/-- a group as it is told -/
def grp (X : Str) (lm : Int) (mks : List (Option Nat)) (g : Nat) : Option Str :=
  match if ((2 * g + 1 : Nat) : Int) ≤ lm then (mks.getD (2 * g) none, mks.getD (2 * g + 1) none) else (none, none) with
  | (some b, some e) => some ⟨X.cps.extract b e⟩
  | _ => none
def GrpIs (x : Option Str) (v : Value) : Prop := match x with | none => v = .none | some y => ∃ t, v = .str y t

theorem spans_raw (st hd : Nat) (lm : Int) (mks : List (Option Nat)) (g : Nat) (hg : g < 3) :
    (((rawInt st :: rawInt hd :: spansOf lm mks).toArray.map reRawOf).getD (2 * (g + 1)) (-1), ((rawInt st :: rawInt hd :: spansOf lm mks).toArray.map reRawOf).getD (2 * (g + 1) + 1) (-1)) =
      (match if ((2 * g + 1 : Nat) : Int) ≤ lm then (mks.getD (2 * g) none, mks.getD (2 * g + 1) none) else (none, none) with | (some b, some e) => ((b : Int), (e : Int)) | _ => (-1, -1)) := by
  have sp : spansOf lm mks = (match if ((2 * 0 + 1 : Nat) : Int) ≤ lm then (mks.getD (2 * 0) none, mks.getD (2 * 0 + 1) none) else (none, none) with | (some b, some e) => [rawInt b, rawInt e] | _ => [rawInt (-1), rawInt (-1)]) ++
      ((match if ((2 * 1 + 1 : Nat) : Int) ≤ lm then (mks.getD (2 * 1) none, mks.getD (2 * 1 + 1) none) else (none, none) with | (some b, some e) => [rawInt b, rawInt e] | _ => [rawInt (-1), rawInt (-1)]) ++
      ((match if ((2 * 2 + 1 : Nat) : Int) ≤ lm then (mks.getD (2 * 2) none, mks.getD (2 * 2 + 1) none) else (none, none) with | (some b, some e) => [rawInt b, rawInt e] | _ => [rawInt (-1), rawInt (-1)]) ++ [])) := rfl
  rw [sp]
  have two : ∀ x : Option Nat × Option Nat, ∃ a b : Int, (match x with | (some b, some e) => [rawInt b, rawInt e] | _ => [rawInt (-1), rawInt (-1)]) = [rawInt a, rawInt b] ∧ (match x with | (some b, some e) => ((b : Int), (e : Int)) | _ => (-1, -1)) = (a, b) := by
    rintro ⟨_ | b, _ | e⟩
    · exact ⟨-1, -1, rfl, rfl⟩
    · exact ⟨-1, -1, rfl, rfl⟩
    · exact ⟨-1, -1, rfl, rfl⟩
    · exact ⟨b, e, rfl, rfl⟩
  obtain ⟨a0, b0, e0, f0⟩ := two (if ((2 * 0 + 1 : Nat) : Int) ≤ lm then (mks.getD (2 * 0) none, mks.getD (2 * 0 + 1) none) else (none, none))
  obtain ⟨a1, b1, e1, f1⟩ := two (if ((2 * 1 + 1 : Nat) : Int) ≤ lm then (mks.getD (2 * 1) none, mks.getD (2 * 1 + 1) none) else (none, none))
  obtain ⟨a2, b2, e2, f2⟩ := two (if ((2 * 2 + 1 : Nat) : Int) ≤ lm then (mks.getD (2 * 2) none, mks.getD (2 * 2 + 1) none) else (none, none))
  rw [e0, e1, e2]
  have hg' : g = 0 ∨ g = 1 ∨ g = 2 := by omega
  rcases hg' with rfl | rfl | rfl
  · rw [f0]; simp [Array.getD, reRawOf, rawInt]
  · rw [f1]; simp [Array.getD, reRawOf, rawInt]
  · rw [f2]; simp [Array.getD, reRawOf, rawInt]

theorem group_any {x : ReFound} {X : Str} {tk : Tok} {pv : Value} {lm : Int} {mks : List (Option Nat)} {st hd g : Nat} {Q : Value → Shared → Prop} (hf : x.fields.getD 0 .none = .str X tk) (hs : x.spans = (rawInt st :: rawInt hd :: spansOf lm mks).toArray.map reRawOf) (hg : g < 3) (hlen : X.cps.size < 100000)
    (h : ∀ v tk', GrpIs (grp X lm mks g) v → Q v { s with toks := tk' }) : wpAny (model prog w) A (reGroupText x (g + 1) .none) Q E s := by
  unfold reGroupText
  rw [hs]
  have e := spans_raw st hd lm mks g hg
  have e1 := congrArg Prod.fst e
  have e2 := congrArg Prod.snd e
  dsimp only at e1 e2 ⊢
  rw [e1, e2]
  unfold grp at h
  generalize (if ((2 * g + 1 : Nat) : Int) ≤ lm then (mks.getD (2 * g) none, mks.getD (2 * g + 1) none) else (none, none)) = y at h ⊢
  obtain ⟨_ | b, _ | e⟩ := y
  · exact wpAny_pure (h _ s.toks rfl)
  · exact wpAny_pure (h _ s.toks rfl)
  · exact wpAny_pure (h _ s.toks rfl)
  · dsimp only
    rw [if_neg (by simp)]
    rw [hf]
    refine wpAny_bind (m := reTextOf _) (wpAny_pure ?_)
    dsimp only
    unfold reSlice
    rw [if_pos (show ((0 : Nat) == 0) = true from rfl)]
    refine wpAny_mkStr ?_ ?_
    · exact h _ _ ⟨_, rfl⟩
    · show (X.cps.extract b e).size ≤ sizeLine
      rw [Array.size_extract, sizeLine_eq]; omega

theorem groups_call {m tp : Addr} {X : Str} {tk : Tok} {pat : Value} {pos st hd lim : Nat} {li lm : Int} {mks : List (Option Nat)} {Q : Value → Shared → Prop}
    (hm : s.heap.get? m = some (matchObj (.str X tk) pat pos lim li tp)) (ht : s.heap.get? tp = some (spanTup st hd (spansOf lm mks))) (hlen : X.cps.size < 100000)
    (h : ∀ v0 v1 v2 tk', GrpIs (grp X lm mks 0) v0 → GrpIs (grp X lm mks 1) v1 → GrpIs (grp X lm mks 2) v2 →
      Q (.ref s.heap.objs.size) { s with heap := s.heap.push ({ cls := .type "tuple", data := .seq #[v0, v1, v2] } : Obj), toks := tk' }) :
    wpAny (model prog w) A (call (.builtin "re.Match.groups") [.ref m]) Q E s := by
  refine wpAny_call_entry slot_match_groups ⟨_, hm, rfl⟩ entry_match_groups ?_ (args_match_groups_1 _)
  unfold Builtin.«re.Match.groups» reWithDefault
  refine wpAny_bind ?_
  dsimp only
  rw [show reNamed "re.Match.groups" "groups" ["default"] 0 [] [] = pure [none] from rfl]
  refine wpAny_bind (wpAny_pure ?_)
  dsimp only
  unfold reFound
  refine wpAny_bind (wpAny_bind (wpAny_fieldsOf hm rfl ?_))
  unfold reRawItems
  refine wpAny_bind (wpAny_bind (wpAny_seqItems ht rfl (wpAny_pure ?_)))
  refine wpAny_pure (wpAny_pure ?_)
  dsimp only
  have hsz : (((rawInt st :: rawInt hd :: spansOf lm mks).toArray.map reRawOf).size) / 2 - 1 = 3 := by
    have hl : (spansOf lm mks).length = 6 := by
      unfold spansOf
      show (List.flatMap _ [0, 1, 2]).length = 6
      simp only [List.flatMap_cons, List.flatMap_nil, List.length_append, List.length_nil]
      have q : ∀ g : Nat, (match if ((2 * g + 1 : Nat) : Int) ≤ lm then (mks.getD (2 * g) none, mks.getD (2 * g + 1) none) else (none, none) with
        | (some b, some e) => [rawInt b, rawInt e]
        | _ => [rawInt (-1), rawInt (-1)]).length = 2 := fun g => by split <;> rfl
      rw [q, q, q]
    rw [Array.size_map, List.size_toArray, List.length_cons, List.length_cons, hl]
  simp only [Option.getD_some] at *
  rw [hsz]
  rw [show List.range 3 = [0, 1, 2] from rfl]
  simp only [List.mapM_cons, List.mapM_nil]
  have hx : ∀ (g : Nat) (s₁ : Shared) (Q₁ : Value → Shared → Prop), g < 3 → (∀ v tk', GrpIs (grp X lm mks g) v → Q₁ v { s₁ with toks := tk' }) →
      wpAny (model prog w) A.in1 (reGroupText { fields := #[.str X tk, pat, rawInt pos, rawInt lim, rawInt li, .ref tp], spans := (rawInt st :: rawInt hd :: spansOf lm mks).toArray.map reRawOf } (g + 1) .none) Q₁ E s₁ :=
    fun g s₁ Q₁ hg q => group_any (st := st) (hd := hd) (tk := tk) (pv := pat) rfl rfl hg hlen q
  refine wpAny_bind (wpAny_bind (hx 0 _ _ (by omega) fun v0 t0 g0 => ?_))
  refine wpAny_bind (wpAny_bind (hx 1 _ _ (by omega) fun v1 t1 g1 => ?_))
  refine wpAny_bind (wpAny_bind (hx 2 _ _ (by omega) fun v2 t2 g2 => ?_))
  refine wpAny_bind (wpAny_pure (wpAny_pure (wpAny_pure (wpAny_pure ?_))))
  exact wpAny_bind (wpAny_newTuple (wpAny_pure ⟨_, rfl, h v0 v1 v2 _ g0 g1 g2⟩) (by size_fits))
theorem end_call {m tp : Addr} {x : Value} {pat : Value} {pos st hd lim : Nat} {li lm : Int} {mks : List (Option Nat)} {Q : Value → Shared → Prop}
    (hm : s.heap.get? m = some (matchObj x pat pos lim li tp)) (ht : s.heap.get? tp = some (spanTup st hd (spansOf lm mks)))
    (h : ∀ t tk', Q (.int hd t) { s with toks := tk' }) :
    wpAny (model prog w) A (call (.builtin "re.Match.end") [.ref m]) Q E s := by
  refine wpAny_call_entry slot_match_end ⟨_, hm, rfl⟩ entry_match_end ?_ (args_match_end_1 _)
  unfold Builtin.«re.Match.end» reOneGroup
  refine wpAny_bind ?_
  refine wpAny_bind (m := selfAndSome _ _ _ _ _) (wpAny_pure ?_)
  dsimp only
  unfold reFound
  refine wpAny_bind (wpAny_bind (wpAny_fieldsOf hm rfl ?_))
  unfold reRawItems
  refine wpAny_bind (wpAny_bind (wpAny_seqItems ht rfl (wpAny_pure ?_)))
  refine wpAny_pure ?_
  refine wpAny_bind (wpAny_pure (wpAny_pure ?_))
  dsimp only
  unfold retInt
  refine wpAny_bind (wpAny_mkInt (wpAny_pure ⟨_, rfl, ?_⟩))
  have e : ((((some (rawInt st :: rawInt hd :: spansOf lm mks).toArray).getD #[]).map reRawOf).getD (2 * 0 + 1) (-1)) = (hd : Int) := by simp [Array.getD, reRawOf, rawInt]
  rw [e]
  exact h _ _
end
end Et
end
section
open PySem PySem.W PySem.Calls PyProof.Rows
set_option Elab.async false
theorem Et.fresh_14 {M : Model} {A : Around} {E : Value → Shared → Prop} {s : Shared} {env : Env} {Q : Flow → Shared → Prop} (h : Q .next s) : wpAny M A (execs [] env) Q E s := by
  w_top off
  first | (walk1; exact h) | exact wpAny_execs_nil h
set_option maxRecDepth 100000
namespace Et
local macro_rules | `(tactic| walk_at "callWith") => `(tactic| ((with_reducible show wpAny _ _ (callWith _ (Value.builtin _) [_] _ _) _ _ _); k_dflt (refine callWith_method1 ?_)))
local macro_rules | `(tactic| k_in) => `(tactic| exact Frag.In.keeps (by k_asm) (Fr.keep (by k_asm)))
/-- rows as they lie: tuples of a name and a bool -/
inductive RowsIn (tl : List (Addr × Obj)) : List Value → List (Str × Bool) → Prop where
  | nil : RowsIn tl [] []
  | cons {a : Addr} {tk : Tok} {e : Nat} {n : Str} {b : Bool} {vs : List Value} {rs : List (Str × Bool)} : (a, ({ cls := .type "tuple", data := .seq #[.str n tk, .bool b] e } : Obj)) ∈ tl → RowsIn tl vs rs → RowsIn tl (.ref a :: vs) ((n, b) :: rs)
theorem RowsIn.mono {tl tl' : List (Addr × Obj)} {vs : List Value} {rs : List (Str × Bool)} (h : RowsIn tl vs rs) (k : ∀ p ∈ tl, p ∈ tl') : RowsIn tl' vs rs := by
  induction h with
  | nil => exact .nil
  | cons hm _ ih => exact .cons (k _ hm) ih
theorem RowsIn.len {tl : List (Addr × Obj)} {vs : List Value} {rs : List (Str × Bool)} (h : RowsIn tl vs rs) : vs.length = rs.length := by
  induction h with
  | nil => rfl
  | cons _ _ ih => simp [ih]
theorem RowsIn.append {tl : List (Addr × Obj)} {vs vs' : List Value} {rs rs' : List (Str × Bool)} (h : RowsIn tl vs rs) (h' : RowsIn tl vs' rs') : RowsIn tl (vs ++ vs') (rs ++ rs') := by
  induction h with
  | nil => exact h'
  | cons hm _ ih => exact .cons hm ih
theorem strsAre_append {vs vs' : List Value} {ss ss' : List Str} (h : StrsAre vs ss) (h' : StrsAre vs' ss') : StrsAre (vs ++ vs') (ss ++ ss') := by
  induction h with
  | nil => exact h'
  | cons y t _ ih => exact .cons y t ih
theorem strs_get {vs : List Value} {ss : List Str} (h : StrsAre vs ss) : ∀ i, i < vs.length → ∃ n t, vs[i]? = some (.str n t) ∧ n ∈ ss := by
  induction h with
  | nil => intro i h; exact absurd h (Nat.not_lt_zero _)
  | cons y t _ ih =>
    intro i h
    cases i with
    | zero => exact ⟨y, t, rfl, .head _⟩
    | succ i =>
      obtain ⟨n, t', e, hm⟩ := ih i (by simpa using h)
      exact ⟨n, t', by simpa using e, .tail _ hm⟩
theorem item_str {prog : Program} {w : World} {A : Around} {E : Value → Shared → Prop} {s : Shared} {h₀ : Heap} {L l : Addr} {news : List (Addr × Obj)} {vs : List Value} {ss : List Str} {en : Nat} {k : Int} {u : Tok} {value slice : Expr} {Q : Value → Shared → Prop}
    (N : News h₀ L s.heap news) (hm : (l, ({ cls := .type "list", data := .seq vs.toArray en } : Obj)) ∈ news) (hS : StrsAre vs ss) (h0 : 0 ≤ k) (hk : k < vs.length) (hn : vs.length ≤ 100)
    (h : ∀ n t, n ∈ ss → Q (.str n t) s)
    (hs : subscripted slice false (.ref l) (.int k u) = operate [.ref l, .int k u] (getItem (.ref l) (.int k u)) := by with_unfolding_all rfl) :
    wpAny (model prog w) A (subscriptTail value slice (.ref l) (.int k u)) Q E s := by
  obtain ⟨n, t, e, hmem⟩ := strs_get hS k.toNat (by omega)
  have hL : s.heap.IsList l vs.toArray := ⟨_, (N _ hm).1, rfl, en, rfl⟩
  exact tail_any hL.typeIs slot_list_getitem.lookup (wpAny_getItem_list hL h0 (by omega) (by simpa using e) (h n t hmem)) hs
theorem item_strL {prog : Program} {w : World} {A : Around} {E : Value → Shared → Prop} {s : Shared} {h₀ : Heap} {L l : Addr} {news : List (Addr × Obj)} {vs : List Value} {ss : List Str} {en : Nat} {k c : Int} {u : Tok} {value slice : Expr} {Q : Value → Shared → Prop}
    (N : News h₀ L s.heap news) (hm : (l, ({ cls := .type "list", data := .seq vs.toArray en } : Obj)) ∈ news) (hS : StrsAre vs ss) (hL : (vs.length : Int) = c) (h0 : 0 ≤ k) (hk : k < c) (hn : c ≤ 100)
    (h : ∀ n t, n ∈ ss → Q (.str n t) s)
    (hs : subscripted slice false (.ref l) (.int k u) = operate [.ref l, .int k u] (getItem (.ref l) (.int k u)) := by with_unfolding_all rfl) :
    wpAny (model prog w) A (subscriptTail value slice (.ref l) (.int k u)) Q E s :=
  item_str N hm hS h0 (by omega) (by omega) h hs
theorem strs_len' {vs : List Value} {ss : List Str} (h : StrsAre vs ss) : vs.length = ss.length := by
  induction h with
  | nil => rfl
  | cons y t _ ih => simp [ih]
theorem strs_1 (a : Str) (t : Tok) : StrsAre [.str a t] [a] := .cons _ _ .nil
theorem strs_2 (a b : Str) (t u : Tok) : StrsAre [.str a t, .str b u] [a, b] := .cons _ _ (.cons _ _ .nil)
theorem strs_4 (a b c d : Str) (t u v w : Tok) : StrsAre [.str a t, .str b u, .str c v, .str d w] [a, b, c, d] := .cons _ _ (.cons _ _ (.cons _ _ (.cons _ _ .nil)))
theorem item_own {prog : Program} {w : World} {A : Around} {E : Value → Shared → Prop} {s : Shared} {h₀ : Heap} {L l : Addr} {news : List (Addr × Obj)} {vs : List Value} {ss : List Str} {en : Nat} {k : Int} {u : Tok} {value slice : Expr} {Q : Value → Shared → Prop}
    (N : News h₀ L s.heap news) (hm : (l, ({ cls := .type "list", data := .seq vs.toArray en } : Obj)) ∈ news) (hS : StrsAre vs ss) (h0 : 0 ≤ k) (hk : k < ss.length ∧ ss.length ≤ 100)
    (hz : ss.all (fun x => decide (x.length ≤ 5)) = true) (h : ∀ n t, n ∈ ss → n.length ≤ 5 → Q (.str n t) s)
    (hs : subscripted slice false (.ref l) (.int k u) = operate [.ref l, .int k u] (getItem (.ref l) (.int k u)) := by with_unfolding_all rfl) :
    wpAny (model prog w) A (subscriptTail value slice (.ref l) (.int k u)) Q E s := by
  have e := strs_len' hS
  exact item_str N hm hS h0 (by omega) (by omega) (fun n t q => h n t q (by simpa using List.all_eq_true.mp hz n q)) hs
abbrev listO (vs : List Value) (e : Nat) : Obj := { cls := .type "list", data := .seq vs.toArray e }

/-- what holds between two turns of the items' loop -/
structure TurnI (g : Heap) (L I nl rl xl st nums : Addr) (at_ : Int) (ns0 : List Value) (i : Nat) (s : Shared) (m : Str → Option Value) (vr : List Value) (er : Nat) (vx : List Value) (ex : Nat) (a : Int) (t : Tok) (e : Nat) (tl : List (Addr × Obj)) (its : List Item) : Prop where
  fr : Fr g L s.heap m
  names : m (Str.ofString "names") = some (.ref nl)
  rows : m (Str.ofString "rows") = some (.ref rl)
  text : m (Str.ofString "text") = some (.ref xl)
  state : m (Str.ofString "state") = some (.ref st)
  led : News g L s.heap ((nl, listO ns0 0) :: (xl, listO vx ex) :: (rl, listO vr er) :: (st, stO nums a t e) :: tl)
  lo : at_ + 1 ≤ a
  hi : a ≤ at_ + 1 + 10 * i
  texts : StrsAre vx (its.map Item.txt)
  good : ∀ it ∈ its, Good it
  many : its.length = i
  told : RowsIn tl vr (its.filterMap Item.row)
  off : OwnOff tl [nl, xl, rl, st, I]
def TurnJ (g : Heap) (L I nl rl xl st nums : Addr) (at_ : Int) (ns0 : List Value) (i : Nat) (s : Shared) : Prop :=
  ∃ m vr er vx ex a t e tl its, TurnI g L I nl rl xl st nums at_ ns0 i s m vr er vx ex a t e tl its
theorem TurnJ.start {g : Heap} {L I nl rl xl st nums : Addr} {at_ : Int} {ns0 : List Value} {s : Shared} {m : Str → Option Value} {t : Tok} {e er ex : Nat} (F : Fr g L s.heap m)
    (h1 : m (Str.ofString "names") = some (.ref nl)) (h2 : m (Str.ofString "rows") = some (.ref rl)) (h3 : m (Str.ofString "text") = some (.ref xl)) (h4 : m (Str.ofString "state") = some (.ref st))
    (h5 : News g L s.heap ((nl, listO ns0 0) :: (xl, listO [] ex) :: (rl, listO [] er) :: (st, stO nums (at_ + 1) t e) :: [])) : TurnJ g L I nl rl xl st nums at_ ns0 0 s :=
  ⟨m, [], er, [], ex, at_ + 1, t, e, [], [], F, h1, h2, h3, h4, h5, Int.le_refl _, by omega, .nil, (fun _ h => by cases h), rfl, .nil, (fun _ h => by cases h)⟩
theorem Fr.names_eq {g : Heap} {L I nl rl xl st nums : Addr} {at_ : Int} {ns0 : List Value} {i : Nat} {s : Shared} {m : Str → Option Value} {vr : List Value} {er : Nat} {vx : List Value} {ex : Nat} {a : Int} {t : Tok} {e : Nat} {tl : List (Addr × Obj)} {its : List Item} (J : TurnI g L I nl rl xl st nums at_ ns0 i s m vr er vx ex a t e tl its) :
    (fun y => if y = Str.ofString "names" then some (Value.ref nl) else if y = Str.ofString "rows" then some (.ref rl) else if y = Str.ofString "text" then some (.ref xl) else if y = Str.ofString "state" then some (.ref st) else m y) = m := by
  funext y
  split
  · next h => rw [h, J.names]
  split
  · next h => rw [h, J.rows]
  split
  · next h => rw [h, J.text]
  split
  · next h => rw [h, J.state]
  rfl

structure MarkIs (m : Str → Option Value) (mk : Str) : Prop where
  mem : mk ∈ mks3
  tells : ∃ b, m (Str.ofString "weak") = some (.bool b) ∧ (mk != Str.ofString "") = b
structure BareIs (m : Str → Option Value) (b : Bool) : Prop where
  tells : b = true → ∃ n t, m (Str.ofString "name") = some (.str n t) ∧ n ∈ bares
structure BodyIs (m : Str → Option Value) (body : Str) : Prop where
  tells : ∃ n t b, m (Str.ofString "name") = some (.str n t) ∧ m (Str.ofString "bare") = some (.bool b) ∧ ((b = true ∧ body = n) ∨ body = (q34 ++ n) ++ q34)
theorem str_len_mem {n : Str} {ss : List Str} {k : Nat} (h : n ∈ ss) (ha : ss.all (fun x => decide (x.length ≤ k)) = true) : n.length ≤ k := by
  simpa using List.all_eq_true.mp ha n h
section
variable {prog : Program} {w : World} {A : Around} {E : Value → Shared → Prop} {s : Shared} {g : Heap} {L st nums : Addr} {m : Str → Option Value} {news : List (Addr × Obj)} {gg : Obj → List (Addr × Obj)} {a : Int} {t : Tok} {e : Nat} {Q : Value → Shared → Prop} {X : Sem Value}
def MarkEnd (g : Heap) (L nums : Addr) (m : Str → Option Value) (gg : Obj → List (Addr × Obj)) (a : Int) (s : Shared) (v : Value) (s' : Shared) : Prop :=
  ∃ h' tk' a' t' e' mk tm, s' = { s with heap := h', toks := tk' } ∧ v = .str mk tm ∧ Fr g L h' m ∧ News g L h' (gg (stO nums a' t' e')) ∧ MarkIs m mk ∧ mk.length ≤ 2 ∧ a ≤ a' ∧ a' ≤ a + 1
theorem cut_mark (_I : st ≠ nums) (F : Fr g L s.heap m) (N : News g L s.heap news) (U : UpdF st (stO nums a t e) news gg)
    (h1 : wpAny (model prog w) A X (MarkEnd g L nums m gg a s) E s)
    (h2 : ∀ h' tk' a' t' e' mk tm, MarkIs m mk → mk.length ≤ 2 → a ≤ a' → a' ≤ a + 1 → Fr g L h' m → News g L h' (gg (stO nums a' t' e')) → Q (.str mk tm) { s with heap := h', toks := tk' }) :
    wpAny (model prog w) A X Q E s := by
  refine wpAny_mono h1 (fun v s' h => ?_) fun _ _ x => x
  obtain ⟨h', tk', a', t', e', mk, tm, rfl, rfl, F', N', q1, q2, q3, q4⟩ := h
  exact h2 _ _ _ _ _ _ _ q1 q2 q3 q4 F' N'
def BareEnd (g : Heap) (L : Addr) (m : Str → Option Value) (news : List (Addr × Obj)) (s : Shared) (v : Value) (s' : Shared) : Prop :=
  ∃ h' tk' b, s' = { s with heap := h', toks := tk' } ∧ v = .bool b ∧ Fr g L h' m ∧ News g L h' news ∧ BareIs m b
theorem cut_bare (F : Fr g L s.heap m) (N : News g L s.heap news)
    (h1 : wpAny (model prog w) A X (BareEnd g L m news s) E s)
    (h2 : ∀ h' tk' b, BareIs m b → Fr g L h' m → News g L h' news → Q (.bool b) { s with heap := h', toks := tk' }) :
    wpAny (model prog w) A X Q E s := by
  refine wpAny_mono h1 (fun v s' h => ?_) fun _ _ x => x
  obtain ⟨h', tk', b, rfl, rfl, F', N', q1⟩ := h
  exact h2 _ _ _ q1 F' N'
def BodyEnd (g : Heap) (L : Addr) (m : Str → Option Value) (news : List (Addr × Obj)) (s : Shared) (v : Value) (s' : Shared) : Prop :=
  ∃ h' tk' b tb, s' = { s with heap := h', toks := tk' } ∧ v = .str b tb ∧ Fr g L h' m ∧ News g L h' news ∧ BodyIs m b ∧ b.length ≤ 7
theorem cut_body (F : Fr g L s.heap m) (N : News g L s.heap news)
    (h1 : wpAny (model prog w) A X (BodyEnd g L m news s) E s)
    (h2 : ∀ h' tk' b tb, BodyIs m b → b.length ≤ 7 → Fr g L h' m → News g L h' news → Q (.str b tb) { s with heap := h', toks := tk' }) :
    wpAny (model prog w) A X Q E s := by
  refine wpAny_mono h1 (fun v s' h => ?_) fun _ _ x => x
  obtain ⟨h', tk', b, tb, rfl, rfl, F', N', q1, q2⟩ := h
  exact h2 _ _ _ _ q1 q2 F' N'
theorem add_own {x y : Str} {ta tb : Tok} {B C : Nat} (hx : x.length ≤ B) (hy : y.length ≤ C) (hs : B + C ≤ 1000) (h : ∀ t' tk, (x ++ y).length ≤ B + C → Q (.str (x ++ y) t') { s with toks := tk }) :
    wpAny (model prog w) A (binaryOp .Add (.str x ta) (.str y tb)) Q E s := by
  refine PyProof.Rows.add_str (fun t' tk => h t' tk ?_) ?_
  · have : (x ++ y).length = x.length + y.length := Array.size_append
    omega
  · rw [sizeLine_eq]; omega
theorem append_own {D : Addr} {vs : List Value} {n : Nat} {x : Value} (F : Fr g L s.heap m) (N : News g L s.heap news) (U : UpdF D (listO vs n) news gg) (hsz : vs.length ≤ 100)
    (h : ∀ h', Fr g L h' m → News g L h' (gg (listO (vs ++ [x]) (n + 1))) → Q .none { s with heap := h' }) : wpAny (model prog w) A (call (.builtin "list.append") [.ref D, x]) Q E s := by
  obtain ⟨pre, post, rfl, hg, q1, q2⟩ := U.split
  have z := N (D, listO vs n) (List.mem_append.mpr (.inr (.head _)))
  refine append_at (its := vs.toArray) (hsz := ?_) z.1 fun h' hs ho' => h h' (F.change hs z.2.1 z.2.2) ?_
  · rw [hg]
    refine news_set N q1 q2 hs ?_
    simpa [W.listOf, listO] using ho'
  · rw [sizeLine_eq]; simp only [List.size_toArray]; omega
end

theorem mark_some {m : Str → Option Value} {mk : Str} {W : Bool} (hm : m (Str.ofString "weak") = some (.bool W)) (hw : W = true) (h : mk ∈ [Str.ofString "W/", Str.ofString "w/"]) : MarkIs m mk := by
  subst hw
  have h' : mk = Str.ofString "W/" ∨ mk = Str.ofString "w/" := by simpa using h
  rcases h' with rfl | rfl
  · exact ⟨by decide, _, hm, by decide⟩
  · exact ⟨by decide, _, hm, by decide⟩
theorem mark_len {mk : Str} (h : mk ∈ [Str.ofString "W/", Str.ofString "w/"]) : mk.length ≤ 2 := str_len_mem h (by decide)
theorem mark_none {m : Str → Option Value} {W : Bool} (hm : m (Str.ofString "weak") = some (.bool W)) (hw : W = false) : MarkIs m (Str.ofString "") := by
  subst hw
  exact ⟨by decide, _, hm, by decide⟩
theorem bare_in {m : Str → Option Value} {n : Str} {t : Tok} (hm : m (Str.ofString "name") = some (.str n t)) : BareIs m ([Str.ofString "a", Str.ofString "b", Str.ofString "x-1"].any fun x => x == n) := by
  refine ⟨fun h => ⟨n, t, hm, ?_⟩⟩
  obtain ⟨x, hx, e⟩ := List.any_eq_true.mp h
  have : x = n := by simpa using e
  exact this ▸ hx
theorem bare_no {m : Str → Option Value} {b : Bool} (h : b = false) : BareIs m b := ⟨fun e => by rw [h] at e; cases e⟩
theorem good_q {m : Str → Option Value} {x1 mk n x2 : Str} {W : Bool} (hmk : MarkIs m mk) (hm : m (Str.ofString "weak") = some (.bool W)) (h1 : x1 ∈ [Str.ofString "", Str.ofString " "]) (h2 : x2 ∈ [Str.ofString "", Str.ofString " "]) (hn : n ∈ nms) :
    Good (quoted x1 mk n x2) ∧ (quoted x1 mk n x2).row = some (n, W) := by
  obtain ⟨b, hb, e⟩ := hmk.tells
  rw [hm] at hb
  cases hb
  exact ⟨good_quoted h1 hmk.mem hn h2, by rw [← e]; rfl⟩
theorem good_b {m m' : Str → Option Value} {x1 mk n x2 : Str} {tn : Tok} {W b : Bool} (hmk : MarkIs m mk) (hm : m (Str.ofString "weak") = some (.bool W)) (h1 : x1 ∈ [Str.ofString "", Str.ofString " "]) (h2 : x2 ∈ [Str.ofString "", Str.ofString " "]) (hbr : BareIs m' b) (hb : b = true) (hn : m' (Str.ofString "name") = some (.str n tn)) :
    Good (barely x1 mk n x2) ∧ (barely x1 mk n x2).row = some (n, W) := by
  obtain ⟨b', hb', e⟩ := hmk.tells
  rw [hm] at hb'
  cases hb'
  obtain ⟨n', t', hn', hmem⟩ := hbr.tells hb
  rw [hn] at hn'
  cases hn'
  exact ⟨good_barely h1 hmk.mem hmem h2, by rw [← e]; rfl⟩
theorem news_five {g h : Heap} {L a b c d : Addr} {oa ob oc od : Obj} {tl : List (Addr × Obj)} (h1 : h.get? a = some oa ∧ a ≠ L ∧ g.get? a = none) (h2 : h.get? b = some ob ∧ b ≠ L ∧ g.get? b = none) (h3 : h.get? c = some oc ∧ c ≠ L ∧ g.get? c = none) (h4 : h.get? d = some od ∧ d ≠ L ∧ g.get? d = none)
    (ht : News g L h tl) : News g L h ((a, oa) :: (b, ob) :: (c, oc) :: (d, od) :: tl) := by
  intro p hp
  simp only [List.mem_cons] at hp
  rcases hp with rfl | rfl | rfl | rfl | hp
  · exact h1
  · exact h2
  · exact h3
  · exact h4
  · exact ht p hp
section
variable {g : Heap} {L I nl rl xl st nums : Addr} {at_ : Int} {ns0 : List Value} {i : Nat} {s : Shared} {m : Str → Option Value} {vr : List Value} {er : Nat} {vx : List Value} {ex : Nat} {a : Int} {t : Tok} {e : Nat} {tl : List (Addr × Obj)} {its : List Item}
theorem TurnJ.row {n : Str} {tn tx : Tok} {W : Bool} {T : Addr} {it : Item} (texts : StrsAre vx (its.map Item.txt)) (good : ∀ it ∈ its, Good it) (many : its.length = i) (told : RowsIn tl vr (its.filterMap Item.row)) (off : OwnOff tl [nl, xl, rl, st, I])
    (F : Fr g L s.heap m) (h1 : m (Str.ofString "names") = some (.ref nl)) (h2 : m (Str.ofString "rows") = some (.ref rl)) (h3 : m (Str.ofString "text") = some (.ref xl)) (h4 : m (Str.ofString "state") = some (.ref st))
    (hg : Good it ∧ it.row = some (n, W)) (lo : at_ + 1 ≤ a) (hi : a ≤ at_ + 1 + 10 * ((i + 1 : Nat) : Int))
    (T1 : @LT.lt Nat _ nl T) (T2 : @LT.lt Nat _ xl T) (T3 : @LT.lt Nat _ rl T) (T4 : @LT.lt Nat _ st T) (T5 : @LT.lt Nat _ I T)
    (k1 : s.heap.get? nl = some (listO ns0 0) ∧ nl ≠ L ∧ g.get? nl = none) (k2 : s.heap.get? xl = some (listO (vx ++ [.str it.txt tx]) ex) ∧ xl ≠ L ∧ g.get? xl = none) (k3 : s.heap.get? rl = some (listO (vr ++ [.ref T]) er) ∧ rl ≠ L ∧ g.get? rl = none) (k4 : s.heap.get? st = some (stO nums a t e) ∧ st ≠ L ∧ g.get? st = none)
    (k5 : s.heap.get? T = some ({ cls := .type "tuple", data := .seq #[.str n tn, .bool W] } : Obj) ∧ T ≠ L ∧ g.get? T = none) (kt : News g L s.heap tl) : TurnJ g L I nl rl xl st nums at_ ns0 (i + 1) s := by
  refine ⟨m, _, _, _, _, a, _, _, (T, ({ cls := .type "tuple", data := .seq #[.str n tn, .bool W] } : Obj)) :: tl, its ++ [it], F, h1, h2, h3, h4, news_five k1 k2 k3 k4 ?_, lo, hi, ?_, ?_, ?_, ?_, ?_⟩
  · intro p hp
    rcases List.mem_cons.mp hp with rfl | hp
    · exact k5
    · exact kt p hp
  · rw [List.map_append]; exact strsAre_append texts (.cons _ _ .nil)
  · intro x hx
    rcases List.mem_append.mp hx with hx | hx
    · exact good x hx
    · rw [List.mem_singleton.mp hx]; exact hg.1
  · simp [many]
  · rw [List.filterMap_append, show List.filterMap Item.row [it] = [(n, W)] by simp [hg.2]]
    exact (told.mono fun p hp => .tail _ hp).append (.cons (.head _) .nil)
  · intro p hp b hb
    rcases List.mem_cons.mp hp with rfl | hp
    · simp only [List.mem_cons, List.mem_nil_iff, or_false] at hb
      rcases hb with rfl | rfl | rfl | rfl | rfl
      · exact (Nat.ne_of_lt T1).symm
      · exact (Nat.ne_of_lt T2).symm
      · exact (Nat.ne_of_lt T3).symm
      · exact (Nat.ne_of_lt T4).symm
      · exact (Nat.ne_of_lt T5).symm
    · exact off p hp b hb
theorem TurnJ.junk {n : Str} {tx : Tok} (texts : StrsAre vx (its.map Item.txt)) (good : ∀ it ∈ its, Good it) (many : its.length = i) (told : RowsIn tl vr (its.filterMap Item.row)) (off : OwnOff tl [nl, xl, rl, st, I])
    (F : Fr g L s.heap m) (h1 : m (Str.ofString "names") = some (.ref nl)) (h2 : m (Str.ofString "rows") = some (.ref rl)) (h3 : m (Str.ofString "text") = some (.ref xl)) (h4 : m (Str.ofString "state") = some (.ref st))
    (hj : n ∈ junks) (lo : at_ + 1 ≤ a) (hi : a ≤ at_ + 1 + 10 * ((i + 1 : Nat) : Int))
    (k1 : s.heap.get? nl = some (listO ns0 0) ∧ nl ≠ L ∧ g.get? nl = none) (k2 : s.heap.get? xl = some (listO (vx ++ [.str n tx]) ex) ∧ xl ≠ L ∧ g.get? xl = none) (k3 : s.heap.get? rl = some (listO vr er) ∧ rl ≠ L ∧ g.get? rl = none) (k4 : s.heap.get? st = some (stO nums a t e) ∧ st ≠ L ∧ g.get? st = none)
    (kt : News g L s.heap tl) : TurnJ g L I nl rl xl st nums at_ ns0 (i + 1) s := by
  refine ⟨m, _, _, _, _, a, _, _, tl, its ++ [Et.junk n], F, h1, h2, h3, h4, news_five k1 k2 k3 k4 kt, lo, hi, ?_, ?_, ?_, ?_, off⟩
  · rw [List.map_append]; exact strsAre_append texts (.cons _ _ .nil)
  · intro x hx
    rcases List.mem_append.mp hx with hx | hx
    · exact good x hx
    · rw [List.mem_singleton.mp hx]; exact good_junk hj
  · simp [many]
  · rw [List.filterMap_append, show List.filterMap Item.row [Et.junk n] = [] from rfl, List.append_nil]
    exact told
end

def ItemsOut (g : Heap) (st nums : Addr) (at_ : Int) (r : Value) (h : Heap) : Prop :=
  ∃ (R rl : Addr) (vr : List Value) (er : Nat) (tx : Tok) (tl : List (Addr × Obj)) (its : List Item) (at' : Int) (t' : Tok) (e' : Nat), r = .ref R ∧ h.get? R = some ({ cls := .type "tuple", data := .seq #[.ref rl, .str (Txt.join (Str.ofString ",") (its.map Item.txt)) tx] } : Obj) ∧ h.get? rl = some (listO vr er) ∧ (∀ p ∈ tl, h.get? p.1 = some p.2) ∧
    g.get? R = none ∧ g.get? rl = none ∧ (∀ p ∈ tl, g.get? p.1 = none) ∧ RowsIn tl vr (its.filterMap Item.row) ∧ (∀ it ∈ its, Good it) ∧ its.length ≤ 7 ∧ h.get? st = some (stO nums at' t' e') ∧ at_ ≤ at' ∧ at' ≤ at_ + 80 ∧ rl ≠ R ∧ R ≠ st ∧ rl ≠ st ∧ OwnOff tl [rl, R, st]
theorem of_allLt {d : Addr} : ∀ {l : List (Addr × Obj)}, AllLt d l → ∀ p ∈ l, p.1 ≠ d
  | [], _, _, h => nomatch h
  | _ :: _, h, _, hp => by
    rcases List.mem_cons.mp hp with rfl | hp
    · exact Nat.ne_of_lt h.1
    · exact of_allLt h.2 _ hp
theorem off_three {tl : List (Addr × Obj)} {a b R : Addr} (h : OwnOff tl [a, b]) (hR : AllLt R tl) : OwnOff tl [a, R, b] := by
  intro p hp x hx
  simp only [List.mem_cons, List.mem_nil_iff, or_false] at hx
  rcases hx with rfl | rfl | rfl
  · exact h p hp _ (by simp)
  · exact of_allLt hR p hp
  · exact h p hp _ (by simp)
theorem ne_of_ltN {a b : Addr} (h : @LT.lt Nat _ a b) : a ≠ b := Nat.ne_of_lt h
theorem hide_none {h : Heap} {a b : Addr} (e : (hideAll h [b]).get? a = none) (hab : a ≠ b) : h.get? a = none := by
  cases q : h.get? a with
  | none => rfl
  | some o => rw [hideAll_get _ q (by simpa using hab)] at e; cases e
theorem items_small : allItems.all (fun it => decide (it.txt.length ≤ 20)) = true := by decide +kernel
theorem good_weight : ∀ {its : List Item}, (∀ it ∈ its, Good it) → ((its.map Item.txt).map (·.length)).sum ≤ 20 * its.length
  | [], _ => by simp
  | it :: r, h => by
    have h1 : it.txt.length ≤ 20 := by simpa using List.all_eq_true.mp items_small it (h it (.head _))
    have h2 := good_weight (its := r) fun x hx => h x (.tail _ hx)
    simp only [List.map_cons, List.sum_cons, List.length_cons]
    omega
theorem join_own {prog : Program} {w : World} {A : Around} {E : Value → Shared → Prop} {s : Shared} {g : Heap} {L l : Addr} {news : List (Addr × Obj)} {vs : List Value} {ss : List Str} {en : Nat} {x : Str} {t : Tok} {Q : Value → Shared → Prop}
    (N : News g L s.heap news) (hm : (l, listO vs en) ∈ news) (hS : StrsAre vs ss) (hw : (ss.map (·.length)).sum + ss.length ≤ 1048576) (hx : x.length ≤ 16)
    (h : ∀ t' k, Q (.str (Txt.join x ss) t') { s with toks := k }) : wpAny (model prog w) A (call (.builtin "str.join") [.str x t, .ref l]) Q E s :=
  join_listW ⟨_, (N _ hm).1, rfl, _, rfl⟩ hS hx hw h
local macro_rules | `(tactic| walk_at "call ref") => `(tactic| (k_here; (with_reducible show wpAny _ _ (call (Value.ref 178) _) _ _ _); k_dflt (refine' next_use ?B ?F ?X ?T ?hk ?N ?U ?nums ?i ?n1 ?n2 ?all ?a1 ?a2 ?m1 ?m2 ?d ?u ?_; (case B => k_asm); (case F => k_asm); (case X => k_asm); (case T => k_asm); (case hk => exact rfl); (case N => k_asm); (case U => k_updF); (case nums => assumption); (case i => assumption); (case n1 => assumption); (case n2 => assumption); (case all => assumption); (case a1 => omega); (case a2 => omega); (case m1 => omega); (case m2 => omega); (case d => (dsimp only [top]; omega)); (case u => (dsimp only [top]; omega)); k_whole); intro kk tk1 t' e' h' tk' hk0 hk1 F' N'; (try dsimp only at N'); (try k_sweep)))
local macro_rules | `(tactic| walk_at "exec For Name Call cons nil") => `(tactic| (k_here; k_dflt (refine for_own ?_)))
local macro_rules | `(tactic| walk_at "eval Name") => `(tactic| (k_here; k_dflt (first | (refine' nameX_L ?F ?v ?_ ?a ?b; (case F => k_asm); (case a => rfl); (case b => rfl); (case v => rfl); k_whole) | (refine' nameX_K ?F ?X ?T ?e ?_ ?a ?b; (case F => k_asm); (case X => k_asm); (case T => k_asm); (case a => rfl); (case b => rfl); (case e => k_is); k_whole))))
local macro_rules | `(tactic| walk_at "getMethod ref") => `(tactic| (k_here; (with_reducible show wpAny _ _ (getMethod (Value.ref _) (PySem.Str.ofString "append") _) _ _ _); k_dflt (refine' listMethod_K ?N ?m PySem.F.slot_list_append PySem.F.type_list_append ?_; (case N => k_asm); (case m => k_mem))))
local macro_rules | `(tactic| walk_at "callWith ref") => `(tactic| (k_here; k_dflt (first
  | refine' callWith_K ?k1 ?k2 ?_; (case k1 => k_asm); (case k2 => k_is); k_whole
  | refine' callWith_K0 ?k1 ?k2 ?_; (case k1 => k_in); (case k2 => k_is); k_whole)))
local macro_rules | `(tactic| walk_at "storeName") => `(tactic| (k_here; k_dflt (refine' storeX_L ?F ?N ?_ ?a ?b; (case F => k_asm); (case N => k_asm); (case a => rfl); (case b => rfl); k_whole; intro h' F' N'; (try k_sweep))))
local macro_rules | `(tactic| walk_at "ite") => `(tactic| (k_here; first | (refine split_dec ?_ ?_ <;> intro _) | (refine split_bool ?_ ?_ <;> intro _)))
local macro_rules | `(tactic| walk_at "call builtin:list.append") => `(tactic| (k_here; (with_reducible show wpAny _ _ (call (Value.builtin _) [Value.ref _, _]) _ _ _); k_dflt (refine' append_K ?k1 ?k2 ?k3 ?_ ?z; (case k1 => k_asm); (case k2 => k_asm); (case k3 => k_upd); (case z => size_fits); k_whole); intro h' F' N'; (try k_sweep)))
local macro_rules | `(tactic| walk_at "subscriptTail Name Call ref int") => `(tactic| (k_here; k_dflt (refine' item_own ?N ?M ?S ?a ?b ?z ?_; (case N => k_asm); (case M => k_mem); (case S => assumption); (case z => decide); (case a => omega); (case b => (simp only [nms, List.length_cons, List.length_nil]; omega)); k_whole); intro nmX tkX hnX hnL))
local macro_rules | `(tactic| walk_at "last subscriptTail") => `(tactic| (k_here; k_dflt (refine' item_own ?N ?M ?S ?a ?b ?z ?_; (case N => k_asm); (case M => k_mem); (case S => (first | exact strs_1 _ _ | exact strs_2 _ _ _ _ | exact strs_4 _ _ _ _ _ _ _ _)); (case z => decide); (case a => omega); (case b => (simp only [List.length_cons, List.length_nil]; omega)); k_whole); intro nmX tkX hnX hnL))
local macro_rules | `(tactic| walk_at "call builtin:list.append") => `(tactic| (k_here; (with_reducible show wpAny _ _ (call (Value.builtin _) [Value.ref _, _]) _ _ _); k_dflt (refine' append_own ?k1 ?k2 ?k3 ?z ?_; (case k1 => k_asm); (case k2 => k_asm); (case k3 => k_updF); (case z => assumption); k_whole); intro h' F' N'; (try k_sweep)))
local macro_rules | `(tactic| walk_at "binaryOp Add str str") => `(tactic| (k_here; refine' add_own ?a ?b ?c ?_; (case a => first | assumption | exact Nat.le_refl _); (case b => first | assumption | exact Nat.le_refl _); (case c => decide); k_whole; intro tX tkX hX))
local macro_rules | `(tactic| walk_at "eval IfExp") => `(tactic| (k_here; first
  | ((with_reducible show wpAny _ _ (eval (Expr.IfExp (Expr.Name (Str.ofString "weak") _) _ _ _) _) _ _ _); k_dflt (refine' cut_mark ?I ?F ?N ?U ?h1 (fun h' tk' a' t' e' mk tm hmk hml ha1 ha2 F' N' => ?h2); (case I => assumption); (case F => k_asm); (case N => k_asm); (case U => k_updF)); refine IfExp_ ?_; all_goals (try (dsimp only at N')))
  | ((with_reducible show wpAny _ _ (eval (Expr.IfExp (Expr.Name (Str.ofString "bare") _) _ _ _) _) _ _ _); k_dflt (refine' cut_body ?F ?N ?h1 (fun h' tk' bd tb hbd hbl F' N' => ?h2); (case F => k_asm); (case N => k_asm)); refine IfExp_ ?_)))
local macro_rules | `(tactic| walk_at "eval BoolOp") => `(tactic| (k_here; k_dflt (refine' cut_bare ?F ?N ?h1 (fun h' tk' br hbr F' N' => ?h2); (case F => k_asm); (case N => k_asm)); refine BoolOp_and ?_))
local macro_rules | `(tactic| walk_at "call builtin:str.join") => `(tactic| (k_here; k_dflt (refine' join_own ?N ?M ?S ?W ?x ?_; (case N => k_asm); (case M => k_mem); (case S => assumption); (case W => assumption); (case x => decide); k_whole); intro tJ kJ))
set_option maxHeartbeats 4000000 in
theorem items_c {w : World} {dp un : Nat} {gd : Option (List Code)} {cn : Str} {cs : Scope} {L a : Addr} {ccd : Value} {cl : List (Str × Addr)} {outer : List Env}
    {A₀ : Around} {base h₀ : Heap} {m : Str → Option Value} {s : Shared} {p : Program} {loose : List Str} {mean : ExcName → Option Value} {mg mb : Str → Option Value}
    {st nums : Addr} {at_ : Int} {ta : Tok} {e : Nat} {vs : List Value} {ns : List Int}
    (B : Below A₀ base outer h₀) (F : Fr h₀ L s.heap m) (X : (Et.hd.heap_39 w.params).In h₀) (T : Top p loose mean mg mb h₀) (hk : cs.kind = .function)
    (hst : s.heap.get? st = some (stO nums at_ ta e)) (hstL : st ≠ L) (hst0 : h₀.get? st = none) (hnums : s.heap.IsList nums vs.toArray) (hns : st ≠ nums) (hi : IntsAre vs ns)
    (hn : 0 < vs.length) (hn2 : vs.length ≤ 100) (hall : ∀ n ∈ ns, 0 ≤ n ∧ n < 10000000) (ha : 0 ≤ at_) (ha2 : at_ < 90000)
    (hd : dp + 40 < 1000) (hu : un + 200 < cLine) :
    wpAny (model PySem.Challenge.rw_ez0423_01.row.prog w) (top dp un gd cn cs L a ccd cl outer) (call (.ref 190) [.ref st])
      (fun r s' => After [st] s s' ∧ s'.drawn = s.drawn ∧ ItemsOut (hideAll s.heap [st]) st nums at_ r s'.heap) (fun _ _ => False) s := by
  revert X; k_fill; intro X
  have N : News h₀ L s.heap [(st, stO nums at_ ta e)] := fun p hp => by
    rcases List.mem_singleton.mp hp with rfl; exact ⟨hst, hstL, hst0⟩
  refine wpAny_call ?_
  refine codeAny_mono (R := fun r s' => match r with
      | .ok (.ret v) => (∀ b o, b ∉ [(st, stO nums at_ ta e)].map (·.1) → s.heap.get? b = some o → s'.heap.get? b = some o) ∧ (s'.gens = s.gens ∧ s'.os = s.os ∧ s'.drawn = s.drawn ∧ ItemsOut (hideAll s.heap [st]) st nums at_ v s'.heap)
      | _ => False) ?_ (fun r s' h => ?_)
  · k_dflt (refine' enterG ?k1 ?k2 ?k3 ?k4 ?k5 ?kA ?kF ?kK ?k6 ?k7 ?k8 ?k9 ?kB ?_ ?c2 ?c3 ?c4 ?c5; (case kA => exact rfl); (case kF => exact rfl); (case kK => assumption); (case k1 => k_asm); (case k2 => k_asm); (case k3 => k_asm); (case k4 => k_asm); (case k5 => k_asm); (case k6 => k_is); (case k7 => k_is); (case k8 => (simp only [recursionLimit]; omega)); (case k9 => exact BindsTo.of_eq rfl); (case c5 => decide); (case kB => exact locs rfl); (case c2 => exact rfl); (case c3 => exact rfl); (case c4 => exact rfl); k_whole)
    intro g L' h' hg F' N' B' X' T'
    dsimp only
    show wpAny _ _ _ _ _ _
    have hg1 : g.IsList nums vs.toArray := by
      obtain ⟨o, ho, r⟩ := hnums
      refine ⟨o, ?_, r⟩
      rw [hg]
      exact hideAll_get _ ho (by simpa using fun h => hns h.symm)
    rw [show hideAll s.heap [st] = g from hg.symm]
    clear hg hnums B F T N X hst hst0 hstL
    try k_fold
    k_steps
    rename_i l2 hq9 l12 l3 hq8 l13 D hq7 l1D hq6 hq5 hq4 tk9 nl hq3 l1n hq2 kk tk1 t1 e1 hq1 tk2 hk0 hk1 Fo No hR tk3 u1 u2 u3 hRng FR NR kR
    clear Fo No
    refine wpAny_pyIter_range hRng (small_one (by omega) (by omega) (by omega) (by omega)) ?_
    have hsz : Builtin.Range.rangeSize 0 kk 1 = ((kk.toNat : Nat) : Int) := by rw [rangeSize_one]; split <;> omega
    rw [hsz]
    obtain ⟨ns0, hns0⟩ : ∃ ns0 : List Value, ns0 = [.str (Str.ofString "a") tk9, .str (Str.ofString "b") (tk9 + 1), .str (Str.ofString "c d") (tk9 + 1 + 1), .str (Str.ofString "e,f") (tk9 + 1 + 1 + 1), .str (Str.ofString "W/") (tk9 + 1 + 1 + 1 + 1), .str (Str.ofString "x-1") (tk9 + 1 + 1 + 1 + 1 + 1)] := ⟨_, rfl⟩
    have nsA : StrsAre ns0 nms := by rw [hns0]; (repeat (first | exact StrsAre.nil | refine StrsAre.cons _ _ ?_))
    have NR' : News g L' hR ((nl, listO ns0 0) :: (D, { cls := Value.type "tuple", data := Data.seq #[Value.ref l2, Value.ref l3] }) :: (l3, W.listOf #[] 0) :: (l2, W.listOf #[] 0) :: (st, stO nums (at_ + 1) t1 e1) :: []) := by rw [hns0]; exact NR
    clear NR hns0
    have NR := NR'; clear NR'
    let J : Nat → Shared → Prop := fun i s₂ => TurnJ g L' hR.objs.size nl l2 l3 st nums at_ ns0 i s₂ ∧ s₂.gens = s.gens ∧ s₂.os = s.os ∧ s₂.drawn = s.drawn
    refine ⟨_, _, _, _, _, J, rfl, Walks.range rfl _ 0 1 kk.toNat, ?_, ?_, ?_, ?_⟩
    · show IsRangeIter _ _ _ _ _
      simpa using Heap.get?_push_size _ rfl
    · refine ⟨?_, rfl, rfl, rfl⟩
      refine TurnJ.start (er := 0) (ex := 0) (t := t1) (e := e1) (FR.push _) rfl rfl rfl rfl ?_
      have up : ∀ {p : Addr × Obj}, hR.get? p.1 = some p.2 ∧ p.1 ≠ L' ∧ g.get? p.1 = none → (hR.push { cls := Value.type "range_iterator", data := Data.fields #[rawInt 0, rawInt ↑kk.toNat, rawInt 1] }).get? p.1 = some p.2 ∧ p.1 ≠ L' ∧ g.get? p.1 = none :=
        fun q => ⟨Heap.get?_push_of_some _ q.1, q.2⟩
      intro p hp
      refine up (NR p ?_)
      revert hp
      simp only [List.mem_cons]
      rintro (h | h | h | h | h)
      · exact .inl h
      · exact .inr (.inr (.inl h))
      · exact .inr (.inr (.inr (.inl h)))
      · exact .inr (.inr (.inr (.inr (.inl h))))
      · cases h
    · rintro i s₁ hi ⟨⟨m₁, vr, er, vx, ex, a, t, e, tl, its, J₁⟩, c1, c2, c3⟩ v h tk ⟨tv, rfl⟩ hSt hk
      obtain ⟨h₁, g₁, d₁, tk₁, os₁⟩ := s₁
      dsimp only at c1 c2 c3 hSt hk
      subst c1; subst c2; subst c3
      dsimp only at hSt hk ⊢
      generalize hI : hR.objs.size = I at hSt hk J₁ ⊢
      dsimp only [J]
      rw [hI]
      have I0 : g.get? I = none := hI ▸ next_is_new FR
      have IL : I ≠ L' := fun q => Nat.lt_irrefl _ ((hI.trans q) ▸ FR.ns.lt)
      have FT : Fr g L' h (fun y => if y = Str.ofString "names" then some (.ref nl) else if y = Str.ofString "rows" then some (.ref l2) else if y = Str.ofString "text" then some (.ref l3) else if y = Str.ofString "state" then some (.ref st) else m₁ y) := by
        have e := Fr.names_eq J₁
        rw [e]
        exact ⟨J₁.fr.ns.at' fun o q => hk L' o (Ne.symm IL) q, fun b o q => hk b o (fun z => by rw [z, I0] at q; cases q) (J₁.fr.keep b o q), J₁.fr.above⟩
      have z1 : @LT.lt Nat _ nl I := hI ▸ Heap.lt_size (NR _ (.head _)).1
      have z2 : @LT.lt Nat _ l3 I := hI ▸ Heap.lt_size (NR _ (.tail _ (.tail _ (.head _)))).1
      have z3 : @LT.lt Nat _ l2 I := hI ▸ Heap.lt_size (NR _ (.tail _ (.tail _ (.tail _ (.head _))))).1
      have z4 : @LT.lt Nat _ st I := hI ▸ Heap.lt_size (NR _ (.tail _ (.tail _ (.tail _ (.tail _ (.head _)))))).1
      have NT : News g L' h ((nl, listO ns0 0) :: (l3, listO vx ex) :: (l2, listO vr er) :: (st, stO nums a t e) :: (I, ({ cls := .type "range_iterator", data := .fields #[rawInt (0 + ((i + 1 : Nat) : Int) * 1), rawInt ((kk.toNat : Int) - ((i + 1 : Nat) : Int)), rawInt 1] } : Obj)) :: tl) := by
        intro p hp
        have kp : ∀ {p : Addr × Obj}, p.1 ≠ I → h₁.get? p.1 = some p.2 ∧ p.1 ≠ L' ∧ g.get? p.1 = none → h.get? p.1 = some p.2 ∧ p.1 ≠ L' ∧ g.get? p.1 = none := fun n q => ⟨hk _ _ n q.1, q.2⟩
        have ld := J₁.led
        revert hp
        simp only [List.mem_cons]
        rintro (rfl | rfl | rfl | rfl | rfl | hp)
        · exact kp (Nat.ne_of_lt z1) (ld _ (.head _))
        · exact kp (Nat.ne_of_lt z2) (ld _ (.tail _ (.head _)))
        · exact kp (Nat.ne_of_lt z3) (ld _ (.tail _ (.tail _ (.head _))))
        · exact kp (Nat.ne_of_lt z4) (ld _ (.tail _ (.tail _ (.tail _ (.head _)))))
        · exact ⟨hSt, IL, I0⟩
        · exact kp (J₁.off p hp I (by simp)) (ld p (.tail _ (.tail _ (.tail _ (.tail _ hp)))))
      have off := J₁.off
      have q1 := J₁.lo
      have q2 := J₁.hi
      have q3 : a < at_ + 80 := by omega
      have vxl : vx.length ≤ 100 := by have := strs_len' J₁.texts; have e := J₁.many; simp only [List.length_map] at this; omega
      have vrl : vr.length ≤ 100 := by have := RowsIn.len J₁.told; have e := J₁.many; have e2 := List.length_filterMap_le Item.row its; omega
      have texts := J₁.texts
      have good := J₁.good
      have many := J₁.many
      have told := J₁.told
      clear FR NR kR hRng J₁ hSt hk hI I0 IL J
      try k_fold
      k_steps
      k_here
      · show Turned _ _ _ _
        rename News _ _ _ _ => nE
        rename Fr _ _ _ _ => fE
        refine ⟨(nE (I, _) (by k_mem)).1, TurnJ.junk (a := a + 1 + 1 + 1 + 1) texts good many told off fE rfl rfl rfl rfl (by assumption) (by omega) (by push_cast; omega) (nE (nl, _) (by k_mem)) (nE (l3, _) (by k_mem)) (nE (l2, _) (by k_mem)) (nE (st, _) (by k_mem)) (fun p hp => nE p (by k_ownIn)), rfl, rfl, rfl⟩
      · rename News _ _ _ _ => nE
        rename Fr _ _ _ _ => fE
        exact ⟨_, _, _, _, _, _, _, rfl, rfl, fE, fun p hp => nE p (.tail _ hp), mark_some rfl (by assumption) (by assumption), mark_len (by assumption), by omega, by omega⟩
      · rename News _ _ _ _ => nE
        rename Fr _ _ _ _ => fE
        exact ⟨_, _, _, _, _, _, _, rfl, rfl, fE, nE, mark_none rfl (by assumption), by decide, by omega, by omega⟩
      · rename News _ _ _ _ => nE
        rename Fr _ _ _ _ => fE
        exact ⟨_, _, _, rfl, rfl, fE, fun p hp => nE p (.tail _ hp), bare_in rfl⟩
      · rename News _ _ _ _ => nE
        rename Fr _ _ _ _ => fE
        exact ⟨_, _, _, rfl, rfl, fE, nE, bare_no (by assumption)⟩
      · show Turned _ _ _ _
        rename News _ _ _ _ => nE
        rename Fr _ _ _ _ => fE
        rename MarkIs _ _ => hmk
        rename BareIs _ _ => hbr
        refine ⟨(nE (I, _) (by k_mem)).1, ?_, rfl, rfl, rfl⟩
        refine' TurnJ.row (it := barely _ _ _ _) texts good many told off fE rfl rfl rfl rfl ?hg ?lo ?hi ?T1 ?T2 ?T3 ?T4 ?T5 (nE (nl, _) (by k_mem)) (nE (l3, _) (by k_mem)) (nE (l2, _) (by k_mem)) (nE (st, _) (by k_mem)) (nE (_, _) (by k_mem)) (fun p hp => nE p (by k_ownIn))
        case hg => exact good_b hmk rfl (by assumption) (by assumption) hbr (by assumption) rfl
        case lo => omega
        case hi => push_cast; omega
        case T1 => omega
        case T2 => omega
        case T3 => omega
        case T4 => omega
        case T5 => omega
      · show Turned _ _ _ _
        rename News _ _ _ _ => nE
        rename Fr _ _ _ _ => fE
        rename MarkIs _ _ => hmk
        rename BareIs _ _ => hbr
        refine ⟨(nE (I, _) (by k_mem)).1, ?_, rfl, rfl, rfl⟩
        refine' TurnJ.row (it := quoted _ _ _ _) texts good many told off fE rfl rfl rfl rfl ?hg ?lo ?hi ?T1 ?T2 ?T3 ?T4 ?T5 (nE (nl, _) (by k_mem)) (nE (l3, _) (by k_mem)) (nE (l2, _) (by k_mem)) (nE (st, _) (by k_mem)) (nE (_, _) (by k_mem)) (fun p hp => nE p (by k_ownIn))
        case hg => exact good_q hmk rfl (by assumption) (by assumption) (by assumption)
        case lo => omega
        case hi => push_cast; omega
        case T1 => omega
        case T2 => omega
        case T3 => omega
        case T4 => omega
        case T5 => omega
    · rintro s₁ ⟨⟨m₁, vr, er, vx, ex, a, t, e, tl, its, J₁⟩, c1, c2, c3⟩ h tk hk
      obtain ⟨h₁, g₁, d₁, tk₁, os₁⟩ := s₁
      dsimp only at c1 c2 c3 hk
      subst c1; subst c2; subst c3
      dsimp only at hk ⊢
      generalize hI : hR.objs.size = I at hk J₁ ⊢
      have I0 : g.get? I = none := hI ▸ next_is_new FR
      have IL : I ≠ L' := fun q => Nat.lt_irrefl _ ((hI.trans q) ▸ FR.ns.lt)
      have FT : Fr g L' h (fun y => if y = Str.ofString "names" then some (.ref nl) else if y = Str.ofString "rows" then some (.ref l2) else if y = Str.ofString "text" then some (.ref l3) else if y = Str.ofString "state" then some (.ref st) else m₁ y) := by
        have e := Fr.names_eq J₁
        rw [e]
        exact ⟨J₁.fr.ns.at' fun o q => hk L' o (Ne.symm IL) q, fun b o q => hk b o (fun z => by rw [z, I0] at q; cases q) (J₁.fr.keep b o q), J₁.fr.above⟩
      have z1 : @LT.lt Nat _ nl I := hI ▸ Heap.lt_size (NR _ (.head _)).1
      have z2 : @LT.lt Nat _ l3 I := hI ▸ Heap.lt_size (NR _ (.tail _ (.tail _ (.head _)))).1
      have z3 : @LT.lt Nat _ l2 I := hI ▸ Heap.lt_size (NR _ (.tail _ (.tail _ (.tail _ (.head _))))).1
      have z4 : @LT.lt Nat _ st I := hI ▸ Heap.lt_size (NR _ (.tail _ (.tail _ (.tail _ (.tail _ (.head _)))))).1
      have NT : News g L' h ((nl, listO ns0 0) :: (l3, listO vx ex) :: (l2, listO vr er) :: (st, stO nums a t e) :: tl) := by
        intro p hp
        have kp : ∀ {p : Addr × Obj}, p.1 ≠ I → h₁.get? p.1 = some p.2 ∧ p.1 ≠ L' ∧ g.get? p.1 = none → h.get? p.1 = some p.2 ∧ p.1 ≠ L' ∧ g.get? p.1 = none := fun n q => ⟨hk _ _ n q.1, q.2⟩
        have ld := J₁.led
        revert hp
        simp only [List.mem_cons]
        rintro (rfl | rfl | rfl | rfl | hp)
        · exact kp (Nat.ne_of_lt z1) (ld _ (.head _))
        · exact kp (Nat.ne_of_lt z2) (ld _ (.tail _ (.head _)))
        · exact kp (Nat.ne_of_lt z3) (ld _ (.tail _ (.tail _ (.head _))))
        · exact kp (Nat.ne_of_lt z4) (ld _ (.tail _ (.tail _ (.tail _ (.head _)))))
        · exact kp (J₁.off p hp I (by simp)) (ld p (.tail _ (.tail _ (.tail _ (.tail _ hp)))))
      have off : OwnOff tl [l2, st] := fun p hp b hb => J₁.off p hp b (by revert hb; simp only [List.mem_cons, List.mem_nil_iff, or_false]; rintro (rfl | rfl) <;> simp)
      have q1 := J₁.lo
      have q2 := J₁.hi
      have texts := J₁.texts
      have good := J₁.good
      have many := J₁.many
      have told := J₁.told
      have wgt : ((its.map Item.txt).map (·.length)).sum + (its.map Item.txt).length ≤ 1048576 := by
        have := good_weight good
        simp only [List.length_map]
        omega
      clear FR NR kR hRng J₁ hk hI I0 IL J
      try k_fold
      k_steps
      rename News _ _ _ _ => nE
      rename Fr _ _ _ _ => fE
      have hR := nE _ (.head _)
      have h2 := nE (l2, _) (by k_mem)
      have h4 := nE (st, _) (by k_mem)
      refine ⟨_, _, fE, rfl, rfl, rfl, _, l2, vr, er, _, tl, its, _, _, _, rfl, hR.1, h2.1, fun p hp => (nE p (by k_ownIn)).1, hR.2.2, h2.2.2, fun p hp => (nE p (by k_ownIn)).2.2, told, good, by omega, h4.1, by omega, by omega, ne_of_ltN (by omega), (ne_of_ltN (by omega)).symm, (ne_of_ltN (by omega)).symm, off_three off ?_⟩
      rename _ ∧ _ ∧ _ ∧ _ ∧ AllLt _ _ => lq
      exact lq.2.2.2.2
  · split at h
    · exact ⟨⟨h.2.1, h.2.2.1, fun b o n => h.1 b o (by simpa using n)⟩, h.2.2.2.1, h.2.2.2.2⟩
    · exact h.elim
end Et
end
section
open PySem PySem.W PySem.Calls PyProof.Rows
set_option Elab.async false
set_option maxRecDepth 100000
namespace Et
/-- item texts joined by commas -/
def J : List Str → List Nat
  | [] => []
  | [x] => x.cps.toList
  | x :: r => x.cps.toList ++ 44 :: J r
theorem J_cons {x y : Str} {r : List Str} : J (x :: y :: r) = x.cps.toList ++ 44 :: J (y :: r) := rfl
theorem app_list (a b : Str) : (a ++ b).cps.toList = a.cps.toList ++ b.cps.toList := by
  show (a.cps ++ b.cps).toList = _
  simp
theorem cps_comma : (Str.ofString ",").cps.toList = [44] := by decide +kernel
theorem cps_commasp : (Str.ofString ", ").cps.toList = [44, 32] := by decide +kernel
theorem cps_sp : (Str.ofString " ").cps.toList = [32] := by decide +kernel
theorem join_J : ∀ l : List Str, (Str.join (Str.ofString ",") l).cps.toList = J l
  | [] => rfl
  | [x] => rfl
  | x :: y :: r => by
    have e : Str.join (Str.ofString ",") (x :: y :: r) = x ++ Str.ofString "," ++ Str.join (Str.ofString ",") (y :: r) := rfl
    rw [e, app_list, app_list, join_J (y :: r), J_cons, cps_comma, List.append_assoc]
    rfl
theorem tjoin_J (l : List Str) : (Txt.join (Str.ofString ",") l).cps.toList = J l := by
  rw [eq_of_beq (join_plain_closes (Str.ofString ",") l)]
  exact join_J l
theorem J_sp (y : Str) (r : List Str) : J ((Str.ofString " " ++ y) :: r) = 32 :: J (y :: r) := by
  cases r with
  | nil => show (Str.ofString " " ++ y).cps.toList = _; rw [app_list, cps_sp]; rfl
  | cons z r => rw [J_cons, J_cons, app_list, cps_sp]; rfl
theorem join_sp : ∀ (x : Str) (r : List Str), (Str.join (Str.ofString ", ") (x :: r)).cps.toList = J (x :: r.map (Str.ofString " " ++ ·))
  | x, [] => rfl
  | x, y :: r => by
    have e : Str.join (Str.ofString ", ") (x :: y :: r) = x ++ Str.ofString ", " ++ Str.join (Str.ofString ", ") (y :: r) := rfl
    rw [e, app_list, app_list, join_sp y r, cps_commasp, List.map_cons, J_cons, J_sp, List.append_assoc]
    rfl
theorem tjoin_sp (x : Str) (r : List Str) : (Txt.join (Str.ofString ", ") (x :: r)).cps.toList = J (x :: r.map (Str.ofString " " ++ ·)) := by
  rw [eq_of_beq (join_plain_closes (Str.ofString ", ") (x :: r))]
  exact join_sp x r

/-- the part that the matcher sees, and how the rest goes on -/
theorem J_part (x : Str) (r : List Str) : ∃ u, J (x :: r) = u ++ J r ∧ ((r = [] ∧ u = x.cps.toList) ∨ (r ≠ [] ∧ u = x.cps.toList ++ [44])) := by
  cases r with
  | nil => exact ⟨x.cps.toList, by simp [J], .inl ⟨rfl, rfl⟩⟩
  | cons y r => exact ⟨x.cps.toList ++ [44], by rw [J_cons]; simp, .inr ⟨by simp, rfl⟩⟩
theorem getD_mid {pre u rest : List Nat} {p : Nat} (h : p < u.length) : (pre ++ (u ++ rest)).getD (p + pre.length) 0 = u.getD p 0 := by
  simp only [List.getD_eq_getElem?_getD]
  rw [List.getElem?_append_right (by omega), Nat.add_sub_cancel, List.getElem?_append_left h]
theorem win_of {T : Str} {pre u rest : List Nat} {ex : Bool} (h : T.cps.toList = pre ++ (u ++ rest)) (hex : ex = true → rest = []) (hl : T.cps.size < 4294967295) : Win u ex pre.length T.cps T.cps.size := by
  have hs : T.cps.size = pre.length + (u.length + rest.length) := by rw [← Array.length_toList, h]; simp
  refine ⟨fun p hp => ?_, ?_, hl⟩
  · rw [← getD_mid (pre := pre) (rest := rest) hp, ← h]
    simp [Array.getD_eq_getD_getElem?]
  · split
    · next e => rw [hs, hex e]; simp; omega
    · rw [hs]; omega

theorem shO_getD (d : Nat) (mks : List (Option Nat)) (i : Nat) : (mks.map (shO d)).getD i none = (mks.getD i none).map (· + d) := by
  simp only [List.getD_eq_getElem?_getD, List.getElem?_map]
  cases mks[i]? with
  | none => rfl
  | some x => cases x <;> rfl
/-- a group told of the part is the group told of the whole text -/
theorem grp_of {T : Str} {pre u rest : List Nat} {lm : Int} {mks : List (Option Nat)} {g : Nat} (h : T.cps.toList = pre ++ (u ++ rest)) (hb : inBounds u mks = true) :
    grp T lm (mks.map (shO pre.length)) g = (grpL u lm mks g).map fun l => (⟨l.toArray⟩ : Str) := by
  unfold grp grpL
  rw [shO_getD, shO_getD]
  by_cases hg : ((2 * g + 1 : Nat) : Int) ≤ lm
  · rw [if_pos hg, if_pos hg]
    have ib : ∀ i x, mks.getD i none = some x → x ≤ u.length := fun i x e => by
      have hm : some x ∈ mks := by
        rw [List.getD_eq_getElem?_getD] at e
        cases q : mks[i]? with
        | none => rw [q] at e; cases e
        | some y => rw [q] at e; exact e ▸ List.mem_of_getElem? q
      simpa using List.all_eq_true.mp hb _ hm
    cases e1 : mks.getD (2 * g) none with
    | none => rfl
    | some b =>
      cases e2 : mks.getD (2 * g + 1) none with
      | none => rfl
      | some e =>
        have he := ib _ _ e2
        show some (⟨T.cps.extract (b + pre.length) (e + pre.length)⟩ : Str) = some ⟨((u.take e).drop b).toArray⟩
        congr 2
        apply Array.toList_inj.mp
        rw [Array.toList_extract, h]
        simp only [List.extract_eq_take_drop]
        rw [show b + pre.length = pre.length + b by omega, ← List.drop_drop, List.drop_left, show e + pre.length - (pre.length + b) = e - b by omega]
        apply List.ext_getElem?
        intro i
        simp only [List.getElem?_take, List.getElem?_drop]
        by_cases hi : i < e - b
        · rw [if_pos hi, if_pos (by omega), List.getElem?_append_left (by omega)]
        · rw [if_neg hi, if_neg (by omega)]
  · rw [if_neg hg, if_neg hg]; rfl

theorem good_check {it : Item} (h : Good it) : checkL it.txt.cps.toList it.row = true := List.all_eq_true.mp all_ok it h
theorem good_text {it : Item} (h : Good it) : it.txt.cps.toList ≠ [] := by
  have c := good_check h
  intro e
  rw [e] at c
  cases hr : it.row with
  | none => rw [hr] at c; simp [checkL] at c
  | some x => obtain ⟨n, w⟩ := x; rw [hr] at c; simp [checkL] at c
/-- what the matcher tells of an item that is one -/
structure RowTold (u : List Nat) (n : Str) (weak : Bool) (lm li : Int) (mks : List (Option Nat)) : Prop where
  six : mks.length = 6
  spans : spansGood' lm mks = true
  bounds : inBounds u mks = true
  row : tellsRow u lm mks n.cps.toList weak = true
theorem okTell_out {u : List Nat} {n : Str} {weak : Bool} {r : Option (Option (Nat × Int × Int × List (Option Nat)))} (h : okTell u n.cps.toList weak r = true) :
    ∃ lm li mks, r = some (some (u.length, lm, li, mks)) ∧ RowTold u n weak lm li mks := by
  unfold okTell at h
  split at h
  · next hd lm li mks =>
    simp only [Bool.and_eq_true, beq_iff_eq] at h
    obtain ⟨⟨⟨⟨h1, h2⟩, h3⟩, h4⟩, h5⟩ := h
    subst h1
    exact ⟨lm, li, mks, rfl, h2, h3, h4, h5⟩
  · cases h
theorem noTell_out {r : Option (Option (Nat × Int × Int × List (Option Nat)))} (h : noTell r = true) : r = some none := by
  unfold noTell at h
  split at h
  · rfl
  · cases h
/-- the next part of a joined text: the matcher's window, and what it tells -/
theorem part_row {it : Item} {n : Str} {weak : Bool} {rs : List Str} (h : Good it) (hr : it.row = some (n, weak)) :
    ∃ u ex lm li mks, J (it.txt :: rs) = u ++ J rs ∧ (ex = true → J rs = []) ∧ 0 < u.length ∧ S.tell u ex = some (some (u.length, lm, li, mks)) ∧ RowTold u n weak lm li mks := by
  have c := good_check h
  rw [hr] at c
  unfold checkL at c
  simp only [Bool.and_eq_true] at c
  obtain ⟨u, hu, ⟨rfl, rfl⟩ | ⟨h1, rfl⟩⟩ := J_part it.txt rs
  · obtain ⟨lm, li, mks, e, q⟩ := okTell_out c.1.1
    exact ⟨_, true, lm, li, mks, hu, fun _ => rfl, List.length_pos_iff.mpr (good_text h), e, q⟩
  · obtain ⟨lm, li, mks, e, q⟩ := okTell_out c.1.2
    exact ⟨_, false, lm, li, mks, hu, (fun x => nomatch x), by simp, e, q⟩
theorem part_junk {it : Item} {rs : List Str} (h : Good it) (hr : it.row = none) :
    ∃ u ex, J (it.txt :: rs) = u ++ J rs ∧ (ex = true → J rs = []) ∧ 0 < u.length ∧ S.tell u ex = some none ∧ ((rs = [] ∧ 44 ∉ u) ∨ (rs ≠ [] ∧ ∃ v, u = v ++ [44] ∧ 44 ∉ v)) := by
  have c := good_check h
  rw [hr] at c
  unfold checkL at c
  simp only [Bool.and_eq_true, Bool.not_eq_true'] at c
  have nc : 44 ∉ it.txt.cps.toList := by simpa using c.1.2
  obtain ⟨u, hu, ⟨rfl, rfl⟩ | ⟨h1, rfl⟩⟩ := J_part it.txt rs
  · exact ⟨_, true, hu, fun _ => rfl, List.length_pos_iff.mpr (good_text h), noTell_out c.1.1.1, .inl ⟨rfl, nc⟩⟩
  · exact ⟨_, false, hu, (fun x => nomatch x), by simp, noTell_out c.1.1.2, .inr ⟨h1, _, rfl, nc⟩⟩
/-- find of a comma -/
theorem find_none {T : Str} {pre rest : List Nat} (h : T.cps.toList = pre ++ rest) (hn : 44 ∉ rest) : Txt.find3 T (Str.ofString ",") (pre.length : Int) = -1 := by
  have hs : T.cps.size = pre.length + rest.length := by rw [← Array.length_toList, h]; simp
  have e : (Str.ofString ",") = ⟨#[44]⟩ := by decide +kernel
  rw [e]
  rcases StrLaws.find3_spec T 44 (pre.length : Int) with ⟨h1, _⟩ | ⟨k, h1, h2, h3, h4, _⟩
  · exact h1
  · exfalso
    have hlo : fromIndex T.length (pre.length : Int) = pre.length := by
      unfold fromIndex
      rw [if_neg (by omega)]
      simp
    rw [hlo] at h2
    have h3' : k < T.cps.size := h3
    have : T.cps.toList[k]? = some 44 := by
      rw [Array.getElem?_toList]
      rw [Array.getD_eq_getD_getElem?] at h4
      have : k < T.cps.size := h3
      rw [Array.getElem?_eq_getElem this] at h4 ⊢
      simpa using h4
    rw [h, List.getElem?_append_right h2] at this
    exact hn (List.mem_of_getElem? this)
theorem find_some {T : Str} {pre v rest : List Nat} (h : T.cps.toList = pre ++ (v ++ 44 :: rest)) (hn : 44 ∉ v) : Txt.find3 T (Str.ofString ",") (pre.length : Int) = ((pre.length + v.length : Nat) : Int) := by
  have hs : T.cps.size = pre.length + (v.length + (rest.length + 1)) := by rw [← Array.length_toList, h]; simp
  have e : (Str.ofString ",") = ⟨#[44]⟩ := by decide +kernel
  rw [e]
  have hlo : fromIndex T.length (pre.length : Int) = pre.length := by
    unfold fromIndex
    rw [if_neg (by omega)]
    simp
  have at' : ∀ k, k < T.cps.size → T.cps.toList[k]? = some (T.cps.getD k 0) := fun k hk => by
    rw [Array.getElem?_toList, Array.getD_eq_getD_getElem?, Array.getElem?_eq_getElem hk]
    rfl
  have mid : T.cps.getD (pre.length + v.length) 0 = 44 := by
    have := at' (pre.length + v.length) (by omega)
    rw [h, List.getElem?_append_right (by omega), List.getElem?_append_right (by omega)] at this
    have e0 : pre.length + v.length - pre.length - v.length = 0 := by omega
    rw [e0] at this
    exact (Option.some.inj this).symm
  rcases StrLaws.find3_spec T 44 (pre.length : Int) with ⟨h1, h2⟩ | ⟨k, h1, h2, h3, h4, h5⟩
  · exfalso
    exact h2 (pre.length + v.length) (by rw [hlo]; omega) (show _ < T.cps.size by omega) mid
  · rw [hlo] at h2 h5
    rw [h1]
    have h3' : k < T.cps.size := h3
    rcases Nat.lt_trichotomy k (pre.length + v.length) with hk | hk | hk
    · exfalso
      have := at' k h3'
      rw [h4, h, List.getElem?_append_right h2, List.getElem?_append_left (by omega)] at this
      exact hn (List.mem_of_getElem? this)
    · rw [hk]
    · exact absurd mid (h5 _ (by omega) hk)

theorem str_eta (n : Str) : (⟨n.cps.toList.toArray⟩ : Str) = n := by cases n; simp
/-- the three groups of an item, as they are told of the whole text -/
structure Groups (g : Nat → Option Str) (n : Str) (weak : Bool) : Prop where
  mark : (weak = true ∧ ∃ x, g 0 = some x ∧ 0 < x.length) ∨ (weak = false ∧ g 0 = none)
  tag : g 1 = some n ∨ (g 1 = none ∧ g 2 = some n)
  some : 0 < n.length
theorem row_groups {T : Str} {pre u rest : List Nat} {n : Str} {weak : Bool} {lm li : Int} {mks : List (Option Nat)} (h : T.cps.toList = pre ++ (u ++ rest)) (R : RowTold u n weak lm li mks) :
    Groups (grp T lm (mks.map (shO pre.length))) n weak := by
  have r := R.row
  unfold tellsRow at r
  simp only [Bool.and_eq_true] at r
  have ge := fun g => grp_of (lm := lm) (g := g) h R.bounds
  have ne_pos : ∀ l : List Nat, l.isEmpty = false → 0 < (⟨l.toArray⟩ : Str).length := fun l e => by
    cases l with
    | nil => cases e
    | cons a l => simp [Str.length]
  refine ⟨?_, ?_, ?_⟩
  · rw [ge 0]
    have r1 := r.1
    cases q : grpL u lm mks 0 with
    | none => rw [q] at r1; exact .inr ⟨by simpa using r1, rfl⟩
    | some x =>
      rw [q] at r1
      simp only [Bool.and_eq_true, Bool.not_eq_true'] at r1
      exact .inl ⟨r1.1, _, rfl, ne_pos x r1.2⟩
  · rw [ge 1, ge 2]
    have r2 := r.2
    cases q : grpL u lm mks 1 with
    | none =>
      rw [q] at r2
      simp only [Bool.and_eq_true, beq_iff_eq] at r2
      rw [r2.1]
      exact .inr ⟨rfl, congrArg some (str_eta n)⟩
    | some x =>
      rw [q] at r2
      simp only [Bool.and_eq_true, beq_iff_eq] at r2
      rw [r2.1]
      exact .inl (congrArg some (str_eta n))
  · have r2 := r.2
    have fin : n.cps.toList.isEmpty = false → 0 < n.length := fun e => by have := ne_pos _ e; rwa [str_eta] at this
    cases q : grpL u lm mks 1 with
    | none => rw [q] at r2; simp only [Bool.and_eq_true, Bool.not_eq_true'] at r2; exact fin r2.2
    | some x => rw [q] at r2; simp only [Bool.and_eq_true, Bool.not_eq_true'] at r2; exact fin r2.2
end Et
end
section
open PySem PySem.W PySem.Calls PyProof.Rows
set_option Elab.async false
set_option maxRecDepth 100000
open Builtin.Re
namespace Et
structure PatIs (h : Heap) (po co : Obj) (pv cv : Array Value) (n : Nat) : Prop where
  p : h.get? 164 = some po
  pc : po.cls = .type "re.Pattern"
  pf : po.data = .fields pv
  pd : po.dict = none
  p2 : pv.getD 2 .none = rawInt 3
  p5 : pv.getD 5 .none = .ref 163
  p6 : pv.getD 6 .none = rawInt 0
  c : h.get? 163 = some co
  cd : co.data = .seq cv n
  cc : (cv.map reRawOf).map (fun (k : Int) => k.toNat) = etCode
theorem pat_at {w : World} {h : Heap} (X : (Et.hd.heap_39 w.params).In h) : ∃ po co pv cv n, PatIs h po co pv cv n := by
  refine ⟨_, _, _, _, _, X 164 _ (by rfl), by rfl, by rfl, by rfl, by rfl, by rfl, by rfl, X 163 _ (by rfl), by rfl, by decide +kernel⟩

section
variable {w : World} {A : Around} {E : Value → Shared → Prop} {s : Shared} {g : Heap} {L : Addr} {m : Str → Option Value} {news : List (Addr × Obj)} {prog : Program}
theorem getMethod_pat_own {pl : Sem Bool} {Q : Value × List Value → Shared → Prop} (X : (Et.hd.heap_39 w.params).In g) (F : Fr g L s.heap m) (h : Q (.builtin "re.Pattern.match", [.ref 164]) s) :
    wpAny (model prog w) A (getMethod (.ref 164) "match" pl) Q E s := by
  obtain ⟨po, co, pv, cv, n, P⟩ := pat_at (X.keeps F.keep)
  exact getMethod_pat P.p P.pc P.pd h
/-- what the matcher tells at a place of a text: nothing -/
structure TellsNo (T : Str) (d : Nat) : Prop where
  small : T.cps.size < 100000
  at' : d ≤ T.cps.size
  win : ∃ u ex, Win u ex d T.cps T.cps.size ∧ (ex = false → 0 < u.length) ∧ S.tell u ex = some none
structure TellsYes (T : Str) (d : Nat) (e : Nat) (lm li : Int) (mks : List (Option Nat)) : Prop where
  small : T.cps.size < 100000
  at' : d ≤ T.cps.size
  good : spansGood lm mks = true ∧ mks.length = 6
  win : ∃ u ex, Win u ex d T.cps T.cps.size ∧ (ex = false → 0 < u.length) ∧ S.tell u ex = some (some (e - d, lm, li, mks)) ∧ e - d + d = e
theorem match_no {T : Str} {tT tp : Tok} {d : Nat} {Q : Value → Shared → Prop} (X : (Et.hd.heap_39 w.params).In g) (F : Fr g L s.heap m) (P : TellsNo T d) (h : Q .none s) :
    wpAny (model prog w) A (call (.builtin "re.Pattern.match") [.ref 164, .str T tT, .int d tp]) Q E s := by
  obtain ⟨po, co, pv, cv, n, q⟩ := pat_at (X.keeps F.keep)
  obtain ⟨u, ex, W, hp, ht⟩ := P.win
  exact match_call q.p q.pc q.pf q.p2 q.p5 q.p6 q.c q.cd q.cc P.small P.at' W hp ht (fun _ _ _ _ e => by cases e) (fun _ => h) (fun _ _ _ _ e => by cases e)
abbrev tupO (T : Str) (d e : Nat) (lm : Int) (mks : List (Option Nat)) : Obj := spanTup d e (spansOf lm (mks.map (shO d)))
abbrev matO (T : Str) (tT : Tok) (d : Nat) (li : Int) (tp : Addr) : Obj := matchObj (.str T tT) (.ref 164) d T.cps.size li tp
theorem match_yes {T : Str} {tT tp : Tok} {d e : Nat} {lm li : Int} {mks : List (Option Nat)} {Q : Value → Shared → Prop} (X : (Et.hd.heap_39 w.params).In g) (F : Fr g L s.heap m) (N : News g L s.heap news) (P : TellsYes T d e lm li mks)
    (h : ∀ mo tp h', Fr g L h' m → News g L h' ((mo, matO T tT d li tp) :: (tp, tupO T d e lm mks) :: news) → (∀ p ∈ ((tp, tupO T d e lm mks) :: news), p.1 < mo) → (∀ p ∈ news, p.1 < tp) → Q (.ref mo) { s with heap := h' }) :
    wpAny (model prog w) A (call (.builtin "re.Pattern.match") [.ref 164, .str T tT, .int d tp]) Q E s := by
  obtain ⟨po, co, pv, cv, n, q⟩ := pat_at (X.keeps F.keep)
  obtain ⟨u, ex, W, hp, ht, he⟩ := P.win
  refine match_call q.p q.pc q.pf q.p2 q.p5 q.p6 q.c q.cd q.cc P.small P.at' W hp ht (fun _ _ _ _ e => by cases e; exact P.good) (fun e => by cases e) (fun hd lm' li' mks' e => ?_)
  cases e
  rw [he]
  have sz1 : s.heap.objs.size < (s.heap.push (tupO T d e lm mks)).objs.size := by rw [Heap.size_push]; exact Nat.lt_succ_self _
  have below : ∀ p ∈ news, p.1 < s.heap.objs.size := fun p hp => Heap.lt_size (N p hp).1
  have F1 := F.push (tupO T d e lm mks)
  have F2 := F1.push (matO T tT d li s.heap.objs.size)
  have e1 : (s.heap.push (tupO T d e lm mks)).objs.size = s.heap.objs.size + 1 := Heap.size_push _ _
  refine h (s.heap.objs.size + 1) s.heap.objs.size _ F2 ?_ ?_ below
  · intro p hp
    rcases List.mem_cons.mp hp with rfl | hp
    · refine ⟨?_, ?_, ?_⟩
      · show Heap.get? _ (s.heap.objs.size + 1) = _
        rw [← e1]; exact Heap.get?_push_size _ rfl
      · rw [← e1]; exact fun q => Nat.lt_irrefl _ (q ▸ F1.ns.lt)
      · rw [← e1]; exact next_is_new F1
    · rcases List.mem_cons.mp hp with rfl | hp
      · refine ⟨Heap.get?_push_of_some _ (Heap.get?_push_size _ rfl), fun q => Nat.lt_irrefl _ (q ▸ F.ns.lt), next_is_new F⟩
      · exact ⟨Heap.get?_push_of_some _ (Heap.get?_push_of_some _ (N p hp).1), (N p hp).2⟩
  · intro p hp
    rcases List.mem_cons.mp hp with rfl | hp
    · exact Nat.lt_succ_self _
    · exact Nat.lt_trans (below p hp) (Nat.lt_succ_self _)
theorem getMethod_groups_own {mo tp : Addr} {T : Str} {tT : Tok} {d : Nat} {li : Int} {pl : Sem Bool} {Q : Value × List Value → Shared → Prop} (N : News g L s.heap news) (hm : (mo, matO T tT d li tp) ∈ news) (h : Q (.builtin "re.Match.groups", [.ref mo]) s) :
    wpAny (model prog w) A (getMethod (.ref mo) "groups" pl) Q E s := getMethod_groups (N _ hm).1 rfl rfl h
theorem getMethod_end_own {mo tp : Addr} {T : Str} {tT : Tok} {d : Nat} {li : Int} {pl : Sem Bool} {Q : Value × List Value → Shared → Prop} (N : News g L s.heap news) (hm : (mo, matO T tT d li tp) ∈ news) (h : Q (.builtin "re.Match.end", [.ref mo]) s) :
    wpAny (model prog w) A (getMethod (.ref mo) "end" pl) Q E s := getMethod_end (N _ hm).1 rfl rfl h
theorem groups_own {mo tp : Addr} {T : Str} {tT : Tok} {d e : Nat} {lm li : Int} {mks : List (Option Nat)} {Q : Value → Shared → Prop} (F : Fr g L s.heap m) (N : News g L s.heap news) (hm : (mo, matO T tT d li tp) ∈ news) (ht : (tp, tupO T d e lm mks) ∈ news) (hs : T.cps.size < 100000)
    (h : ∀ v0 v1 v2 G h' tk', GrpIs (grp T lm (mks.map (shO d)) 0) v0 → GrpIs (grp T lm (mks.map (shO d)) 1) v1 → GrpIs (grp T lm (mks.map (shO d)) 2) v2 → Fr g L h' m → News g L h' ((G, ({ cls := .type "tuple", data := .seq #[v0, v1, v2] } : Obj)) :: news) → (∀ p ∈ news, p.1 < G) → Q (.ref G) { s with heap := h', toks := tk' }) :
    wpAny (model prog w) A (call (.builtin "re.Match.groups") [.ref mo]) Q E s := by
  refine groups_call (N _ hm).1 (N _ ht).1 hs (fun v0 v1 v2 tk' g0 g1 g2 => ?_)
  refine h v0 v1 v2 s.heap.objs.size _ tk' g0 g1 g2 (F.push _) (fun p hp => ?_) (fun p hp => Heap.lt_size (N p hp).1)
  rcases List.mem_cons.mp hp with rfl | hp
  · exact ⟨Heap.get?_push_size _ rfl, fun q => Nat.lt_irrefl _ (q ▸ F.ns.lt), next_is_new F⟩
  · exact ⟨Heap.get?_push_of_some _ (N p hp).1, (N p hp).2⟩
theorem end_own {mo tp : Addr} {T : Str} {tT : Tok} {d e : Nat} {lm li : Int} {mks : List (Option Nat)} {Q : Value → Shared → Prop} (N : News g L s.heap news) (hm : (mo, matO T tT d li tp) ∈ news) (ht : (tp, tupO T d e lm mks) ∈ news)
    (h : ∀ t tk', Q (.int e t) { s with toks := tk' }) :
    wpAny (model prog w) A (call (.builtin "re.Match.end") [.ref mo]) Q E s := end_call (N _ hm).1 (N _ ht).1 h
end

section
variable {T : Str} {pre : List Nat}
theorem tells_row {it : Item} {n : Str} {weak : Bool} {rs : List Str} (small : T.cps.size < 100000) (h : T.cps.toList = pre ++ J (it.txt :: rs)) (hg : Good it) (hr : it.row = some (n, weak)) :
    ∃ lm li mks pre', TellsYes T pre.length pre'.length lm li mks ∧ T.cps.toList = pre' ++ J rs ∧ Groups (grp T lm (mks.map (shO pre.length))) n weak := by
  obtain ⟨u, ex, lm, li, mks, e1, e2, e3, e4, R⟩ := part_row (rs := rs) hg hr
  rw [e1] at h
  have hs : T.cps.size = pre.length + (u.length + (J rs).length) := by rw [← Array.length_toList, h]; simp
  refine ⟨lm, li, mks, pre ++ u, ⟨small, by omega, ⟨R.spans, R.six⟩, u, ex, win_of h e2 (by omega), fun _ => e3, ?_, ?_⟩, by rw [h, List.append_assoc], row_groups h R⟩
  · rw [List.length_append, Nat.add_sub_cancel_left]; exact e4
  · rw [List.length_append]; omega
theorem tells_end (small : T.cps.size < 100000) (h : T.cps.toList = pre) : TellsNo T pre.length ∧ Txt.find3 T (Str.ofString ",") (pre.length : Int) = -1 := by
  have h' : T.cps.toList = pre ++ ([] ++ []) := by simpa using h
  have hs : T.cps.size = pre.length := by rw [← Array.length_toList, h]
  refine ⟨⟨small, by omega, [], true, win_of h' (fun _ => rfl) (by omega), (fun e => nomatch e), noTell_out empty_ok⟩, find_none (rest := []) (by simpa using h) (by simp)⟩
theorem tells_junk {it : Item} {rs : List Str} (small : T.cps.size < 100000) (h : T.cps.toList = pre ++ J (it.txt :: rs)) (hg : Good it) (hr : it.row = none) :
    TellsNo T pre.length ∧ ((rs = [] ∧ Txt.find3 T (Str.ofString ",") (pre.length : Int) = -1) ∨ ∃ pre', T.cps.toList = pre' ++ J rs ∧ 0 < pre'.length ∧ Txt.find3 T (Str.ofString ",") (pre.length : Int) + 1 = (pre'.length : Int)) := by
  obtain ⟨u, ex, e1, e2, e3, e4, e5⟩ := part_junk (rs := rs) hg hr
  rw [e1] at h
  have hs : T.cps.size = pre.length + (u.length + (J rs).length) := by rw [← Array.length_toList, h]; simp
  refine ⟨⟨small, by omega, u, ex, win_of h e2 (by omega), fun _ => e3, e4⟩, ?_⟩
  rcases e5 with ⟨rfl, hn⟩ | ⟨_, v, rfl, hn⟩
  · refine .inl ⟨rfl, find_none (rest := u ++ J []) h (by simpa [J] using hn)⟩
  · refine .inr ⟨pre ++ (v ++ [44]), by rw [h]; simp, by simp only [List.length_append, List.length_cons]; omega, ?_⟩
    rw [find_some (pre := pre) (v := v) (rest := J rs) (by rw [h]; simp) hn]
    simp only [List.length_append, List.length_cons, List.length_nil]
    push_cast
    omega
end

theorem grp_small {T : Str} {lm : Int} {mks : List (Option Nat)} {g : Nat} {x : Str} (h : grp T lm mks g = some x) : x.length ≤ T.cps.size := by
  unfold grp at h
  split at h
  · next b e _ =>
    cases h
    show (T.cps.extract b e).size ≤ _
    rw [Array.size_extract]
    omega
  · cases h
/-- the values of the three groups -/
theorem groups_vals {T : Str} {lm : Int} {mks : List (Option Nat)} {n : Str} {weak : Bool} {v0 v1 v2 : Value} (G : Groups (grp T lm mks) n weak) (g0 : GrpIs (grp T lm mks 0) v0) (g1 : GrpIs (grp T lm mks 1) v1) (g2 : GrpIs (grp T lm mks 2) v2) :
    ((weak = true ∧ ∃ x t, v0 = .str x t ∧ 0 < x.length ∧ x.length ≤ T.cps.size) ∨ (weak = false ∧ v0 = .none)) ∧ ((∃ t, v1 = .str n t) ∨ (v1 = .none ∧ ∃ t, v2 = .str n t)) ∧ 0 < n.length ∧ n.length ≤ T.cps.size := by
  refine ⟨?_, ?_, G.some, ?_⟩
  · rcases G.mark with ⟨hw, x, hx, hp⟩ | ⟨hw, hx⟩
    · rw [hx] at g0
      obtain ⟨t, rfl⟩ := g0
      exact .inl ⟨hw, x, t, rfl, hp, grp_small hx⟩
    · rw [hx] at g0
      exact .inr ⟨hw, g0⟩
  · rcases G.tag with h | ⟨h, h'⟩
    · rw [h] at g1
      exact .inl g1
    · rw [h] at g1
      rw [h'] at g2
      exact .inr ⟨g1, g2⟩
  · rcases G.tag with h | ⟨h, h'⟩
    · exact grp_small h
    · exact grp_small h'
end Et
end
section
open PySem PySem.W PySem.Calls PyProof.Rows
set_option Elab.async false
set_option maxRecDepth 100000
namespace Et
section
variable {prog : Program} {w : World} {A : Around} {E : Value → Shared → Prop} {s : Shared} {g : Heap} {L l : Addr} {m : Str → Option Value} {news : List (Addr × Obj)} {vs : List Value} {e : Nat} {ss : List Str}
theorem list_of_news (N : News g L s.heap news) (hl : (l, listO vs e) ∈ news) : s.heap.IsList l vs.toArray := ⟨_, (N _ hl).1, rfl, _, rfl⟩
theorem truthy_own {Q : Bool → Shared → Prop} (N : News g L s.heap news) (hl : (l, listO vs e) ∈ news) (hn : vs.length ≤ 100)
    (h : ∀ tk, Q (decide (0 < vs.length)) { s with toks := tk }) : wpAny (model prog w) A (truthy (.ref l)) Q E s :=
  wpAny_truthy_list (list_of_news N hl) (by simp only [List.size_toArray]; omega) (by
    have e : (!vs.toArray.isEmpty) = decide (0 < vs.length) := by
      cases vs with
      | nil => rfl
      | cons _ _ => simp
    rw [e]; exact h _)
theorem Fr.same {h' : Heap} (F : Fr g L s.heap m) (k : ∀ b o, s.heap.get? b = some o → h'.get? b = some o) : Fr g L h' m :=
  ⟨F.ns.at' fun o e => k L o e, fun b o e => k b o (F.keep b o e), F.above⟩
theorem News.same {h' : Heap} (N : News g L s.heap news) (k : ∀ b o, s.heap.get? b = some o → h'.get? b = some o) : News g L h' news := fun p hp => ⟨k _ _ (N p hp).1, (N p hp).2⟩
theorem News.more {h' : Heap} {a : Addr} {o : Obj} (F : Fr g L s.heap m) (N : News g L s.heap news) (k : ∀ b o, s.heap.get? b = some o → h'.get? b = some o) (e : h'.get? a = some o) (fresh : s.heap.get? a = none) : News g L h' ((a, o) :: news) := fun p hp => by
  rcases List.mem_cons.mp hp with rfl | hp
  · refine ⟨e, fun q => ?_, ?_⟩
    · obtain ⟨o, es, ep, ho, _⟩ := F.ns
      dsimp only at q
      rw [← q, fresh] at ho; cases ho
    · show g.get? a = none
      cases q : g.get? a with
      | none => rfl
      | some o => have := F.keep _ _ q; rw [fresh] at this; cases this
  · exact News.same N k p hp
theorem none_size (h : Heap) : h.get? h.objs.size = none := by
  cases q : h.get? h.objs.size with
  | none => rfl
  | some o => exact absurd (Heap.lt_size q) (Nat.lt_irrefl _)
theorem froz_strs_own {Q : Value → Shared → Prop} (hh : A.handled = none) (F : Fr g L s.heap m) (N : News g L s.heap news) (hl : (l, listO vs e) ∈ news) (hi : StrsAre vs ss) (hb : vs.length ≤ 100)
    (h : ∀ a h' tk o ks, Fr g L h' m → News g L h' ((a, o) :: news) → SetO w o "frozenset" ks → (∀ x, x ∈ ks ↔ x ∈ ss) → ks.length ≤ ss.length → (∀ p ∈ news, p.1 < a) → Q (.ref a) { s with heap := h', toks := tk }) :
    wpAny (model prog w) A (call (.type "frozenset") [.ref l]) Q E s :=
  call_frozenset_strs hh (list_of_news N hl) hi (by unfold scanBound; omega) fun h' tk ks q1 ⟨o, q2, q3⟩ q4 q5 =>
    h _ h' tk o ks (Fr.same F q1) (News.more F N q1 q2 (none_size _)) q3 q4 q5 fun p hp => Heap.lt_size (N p hp).1
theorem froz_0_own {Q : Value → Shared → Prop} (F : Fr g L s.heap m) (N : News g L s.heap news)
    (h : ∀ a h' o, Fr g L h' m → News g L h' ((a, o) :: news) → SetO w o "frozenset" [] → (∀ p ∈ news, p.1 < a) → Q (.ref a) { s with heap := h' }) :
    wpAny (model prog w) A (call (.type "frozenset") []) Q E s :=
  call_frozenset_0 fun o hS hf =>
    h _ _ o (F.push _) (News.more F N (fun b o' e => Heap.get?_push_of_some _ e) (Heap.get?_push_size _ hf) (none_size _)) hS fun p hp => Heap.lt_size (N p hp).1
theorem froz_unit_own {Q : Value → Shared → Prop} (hh : A.handled = none) (F : Fr g L s.heap m) (N : News g L s.heap news) (hm : (l, ({ cls := Value.type "tuple", data := Data.seq #[] } : Obj)) ∈ news)
    (h : ∀ a h' tk o, Fr g L h' m → News g L h' ((a, o) :: news) → SetO w o "frozenset" [] → (∀ p ∈ news, p.1 < a) → Q (.ref a) { s with heap := h', toks := tk }) :
    wpAny (model prog w) A (call (.type "frozenset") [.ref l]) Q E s :=
  call_frozenset_unit hh ⟨_, (N _ hm).1, rfl, _, rfl⟩ fun h' tk q1 ⟨o, q2, q3⟩ =>
    h _ h' tk o (Fr.same F q1) (News.more F N q1 q2 (none_size _)) q3 fun p hp => Heap.lt_size (N p hp).1
end
abbrev tagsE (prm : Params) (x : String) (t : Tok) (v : Value) : DictEntry := ⟨PyData.keyHash prm (Str.ofString x), .str (Str.ofString x) t, v⟩
abbrev tagsD (prm : Params) (fs fw : Addr) (star : Bool) (t1 t2 t3 : Tok) : Obj := dictOf [tagsE prm "_strong" t1 (.ref fs), tagsE prm "_weak" t2 (.ref fw), tagsE prm "star_tag" t3 (.bool star)] 3
def TagsOut (w : World) (h₀ h : Heap) (r : Value) (ss sw : List Str) (star : Bool) : Prop :=
  ∃ (x dx fs fw : Addr) (t1 t2 t3 : Tok) (oF oW : Obj) (ks kw : List Str), r = .ref x ∧ h.get? x = some (instObj 140 dx) ∧ h.get? dx = some (tagsD w.params fs fw star t1 t2 t3) ∧ h.get? fs = some oF ∧ h.get? fw = some oW ∧
    h₀.get? x = none ∧ h₀.get? dx = none ∧ h₀.get? fs = none ∧ h₀.get? fw = none ∧ @LT.lt Nat _ dx x ∧ @LT.lt Nat _ x fs ∧ @LT.lt Nat _ fs fw ∧
    SetO w oF "frozenset" ks ∧ (∀ y, y ∈ ks ↔ y ∈ ss) ∧ SetO w oW "frozenset" kw ∧ (∀ y, y ∈ kw ↔ y ∈ sw) ∧ ks.length ≤ ss.length ∧ kw.length ≤ sw.length
theorem tagsOut_of {w : World} {g h : Heap} {L x dx fs fw : Addr} {t1 t2 t3 : Tok} {oF oW : Obj} {ss sw : List Str} {star : Bool} {news : List (Addr × Obj)} (N : News g L h news)
    (m4 : (dx, tagsD w.params fs fw star t1 t2 t3) ∈ news) (m1 : (fw, oW) ∈ news) (m2 : (fs, oF) ∈ news) (m3 : (x, instObj 140 dx) ∈ news) (l1 : @LT.lt Nat _ dx x) (l2 : @LT.lt Nat _ x fs) (l3 : @LT.lt Nat _ fs fw)
    (hF : ∃ ks, SetO w oF "frozenset" ks ∧ (∀ y, y ∈ ks ↔ y ∈ ss) ∧ ks.length ≤ ss.length) (hW : ∃ kw, SetO w oW "frozenset" kw ∧ (∀ y, y ∈ kw ↔ y ∈ sw) ∧ kw.length ≤ sw.length) : TagsOut w g h (.ref x) ss sw star :=
  let ⟨ks, hF⟩ := hF
  let ⟨kw, hW⟩ := hW
  ⟨x, dx, fs, fw, t1, t2, t3, oF, oW, ks, kw, rfl, (N _ m3).1, (N _ m4).1, (N _ m2).1, (N _ m1).1, (N _ m3).2.2, (N _ m4).2.2, (N _ m2).2.2, (N _ m1).2.2, l1, l2, l3, hF.1, hF.2.1, hW.1, hW.2.1, hF.2.2, hW.2.2⟩
theorem set_none {w : World} {o : Obj} {vs : List Value} {ss : List Str} (h : SetO w o "frozenset" []) (hv : StrsAre vs ss) (e : ¬ 0 < vs.length) : ∃ ks, SetO w o "frozenset" ks ∧ (∀ y, y ∈ ks ↔ y ∈ ss) ∧ ks.length ≤ ss.length := by
  have : ss = [] := List.eq_nil_of_length_eq_zero (by rw [← strs_len hv]; omega)
  subst this
  exact ⟨_, h, fun _ => Iff.rfl, Nat.le_refl _⟩
end Et
end
section
open PySem PySem.W PySem.Calls PyProof.Rows
set_option Elab.async false
theorem Et.fresh_18 {M : Model} {A : Around} {E : Value → Shared → Prop} {s : Shared} {env : Env} {Q : Flow → Shared → Prop} (h : Q .next s) : wpAny M A (execs [] env) Q E s := by
  w_top off
  first | (walk1; exact h) | exact wpAny_execs_nil h
set_option maxRecDepth 100000
namespace Et
section
variable {prog : Program} {w : World} {A : Around} {s : Shared} {env : Env}
def WTurned (I : Nat → Shared → Prop) (n : Nat) (s : Shared) : Prop := ∃ m, m < n ∧ I m s
def WDone (D : Shared → Prop) (s : Shared) : Prop := D s
def LoopW (prog : Program) (w : World) (A : Around) (env : Env) (body : List Stmt) (Q : Flow → Shared → Prop) (s : Shared) : Prop :=
  ∃ (n : Nat) (I : Nat → Shared → Prop) (D : Shared → Prop), I n s ∧ (∀ n s, I n s → wpAny (model prog w) A (execs body env) (fun f s₃ => match f with
    | .next | .cont => WTurned I n s₃
    | .brk => WDone D s₃
    | .ret _ => False) (fun _ _ => False) s) ∧ ∀ s, D s → Q .next s
theorem while_own {Q : Flow → Shared → Prop} {test : Expr} {pos : Pos} {body : List Stmt} (h : LoopW prog w A env body Q s)
    (ht : ∀ (s : Shared) (Q' : Bool → Shared → Prop), Q' true s → wpAny (model prog w) A (isTrue test env (eval test env)) Q' (fun _ _ => False) s) :
    wpAny (model prog w) A (exec (.While test body [] pos) env) Q (fun _ _ => False) s := by
  obtain ⟨n, I, D, h0, turn, fin⟩ := h
  refine wpAny_While ?_
  refine codeAny_whileLoop I (fun n s hI => ?_) n h0
  refine wpAny_mono (ht s _ ?_) (fun _ _ x => x) fun _ _ e => e.elim
  rw [if_pos rfl]
  refine wpAny_mono (turn n s hI) (fun f s₃ h₃ => ?_) fun _ _ e => e.elim
  cases f with
  | next => exact h₃
  | cont => exact h₃
  | brk => exact fin _ h₃
  | ret v => exact h₃.elim
end
section
variable {prog : Program} {w : World} {A : Around} {E : Value → Shared → Prop} {s : Shared}
theorem truthy_yes {x : Str} {t : Tok} {Q : Bool → Shared → Prop} (hp : 0 < x.length) (hl : x.length < 100000) (h : ∀ k, Q true { s with toks := k }) : wpAny (model prog w) A (truthy (.str x t)) Q E s := by
  refine PySem.P.truthy_str (by omega) ?_
  have e : ((x.length : Int) != 0) = true := by simp; omega
  rw [e]; exact h _
theorem eq_no {x y : Str} {t u : Tok} {Q : Value → Shared → Prop} (hne : x ≠ y) (h : Q (.bool false) s) : wpAny (model prog w) A (compareOp .Eq (.str x t) (.str y u)) Q E s := by
  refine eq_str ?_
  rw [show (x == y) = false by simpa using hne]
  exact h
end
theorem no_star_items : allItems.all (fun it => !it.txt.cps.toList.contains 42) = true := by decide +kernel
theorem J_mem : ∀ {l : List Str} {c : Nat}, c ∈ J l → c = 44 ∨ ∃ x ∈ l, c ∈ x.cps.toList
  | [], _, h => by cases h
  | [x], _, h => .inr ⟨x, .head _, h⟩
  | x :: y :: r, c, h => by
    rw [J_cons] at h
    rcases List.mem_append.mp h with h | h
    · exact .inr ⟨x, .head _, h⟩
    · rcases List.mem_cons.mp h with h | h
      · exact .inl h
      · rcases J_mem h with h | ⟨z, hz, hc⟩
        · exact .inl h
        · exact .inr ⟨z, .tail _ hz, hc⟩
theorem no_star {its : List Item} (good : ∀ it ∈ its, Good it) : J (its.map Item.txt) ≠ (Str.ofString "*").cps.toList := by
  intro e
  have h : 42 ∈ J (its.map Item.txt) := by rw [e]; decide +kernel
  rcases J_mem h with h | ⟨x, hx, hc⟩
  · cases h
  · obtain ⟨it, hit, rfl⟩ := List.mem_map.mp hx
    have := List.all_eq_true.mp no_star_items it (good it hit)
    simp at this
    exact this (by simpa using hc)
theorem J_len : ∀ l : List Str, (J l).length ≤ (l.map (·.length)).sum + l.length
  | [] => by simp [J]
  | [x] => by simp [J, Str.length]
  | x :: y :: r => by
    have h := J_len (y :: r)
    have e : x.cps.toList.length = x.length := by simp [Str.length]
    rw [J_cons, List.length_append, List.length_cons, List.map_cons, List.sum_cons, List.length_cons, e]
    omega

def strongs (its : List Item) : List Str := its.filterMap fun it => it.row.bind fun r => if r.2 then none else some r.1
def weaks (its : List Item) : List Str := its.filterMap fun it => it.row.bind fun r => if r.2 then some r.1 else none
section
variable {done : List Item} {it : Item} {n : Str} {weak : Bool} {vs : List Value} {t : Tok}
theorem strongs_yes (hr : it.row = some (n, weak)) (hw : weak = false) (st : StrsAre vs (strongs done)) : StrsAre (vs ++ [.str n t]) (strongs (done ++ [it])) := by
  subst hw
  rw [show strongs (done ++ [it]) = strongs done ++ [n] by simp [strongs, List.filterMap_append, hr]]
  exact strsAre_append st (.cons _ _ .nil)
theorem strongs_no (hr : it.row = some (n, weak)) (hw : weak = true) (st : StrsAre vs (strongs done)) : StrsAre vs (strongs (done ++ [it])) := by
  subst hw
  rw [show strongs (done ++ [it]) = strongs done by simp [strongs, List.filterMap_append, hr]]
  exact st
theorem weaks_yes (hr : it.row = some (n, weak)) (hw : weak = true) (st : StrsAre vs (weaks done)) : StrsAre (vs ++ [.str n t]) (weaks (done ++ [it])) := by
  subst hw
  rw [show weaks (done ++ [it]) = weaks done ++ [n] by simp [weaks, List.filterMap_append, hr]]
  exact strsAre_append st (.cons _ _ .nil)
theorem weaks_no (hr : it.row = some (n, weak)) (hw : weak = false) (st : StrsAre vs (weaks done)) : StrsAre vs (weaks (done ++ [it])) := by
  subst hw
  rw [show weaks (done ++ [it]) = weaks done by simp [weaks, List.filterMap_append, hr]]
  exact st
end
structure ParseI (g : Heap) (L sl wl : Addr) (T : Str) (tT : Tok) (its done rest : List Item) (h : Heap) (m : Str → Option Value) (pre : List Nat) (vs : List Value) (es : Nat) (vw : List Value) (ew : Nat) (tp : Tok) : Prop where
  fr : Fr g L h m
  mv : m (Str.ofString "value") = some (.str T tT)
  ms : m (Str.ofString "strong") = some (.ref sl)
  mw : m (Str.ofString "weak") = some (.ref wl)
  mp : m (Str.ofString "pos") = some (.int (pre.length : Int) tp)
  led : News g L h [(wl, listO vw ew), (sl, listO vs es)]
  txt : T.cps.toList = pre ++ J (rest.map Item.txt)
  st : StrsAre vs (strongs done)
  wk : StrsAre vw (weaks done)
  all : done ++ rest = its
def ParseJ (g : Heap) (L sl wl : Addr) (T : Str) (tT : Tok) (its : List Item) (n : Nat) (h : Heap) : Prop :=
  ∃ done rest m pre vs es vw ew tp, ParseI g L sl wl T tT its done rest h m pre vs es vw ew tp ∧ n = rest.length + 1
def ParseD (g : Heap) (L sl wl : Addr) (its : List Item) (h : Heap) : Prop :=
  ∃ m vs es vw ew, Fr g L h m ∧ m (Str.ofString "strong") = some (.ref sl) ∧ m (Str.ofString "weak") = some (.ref wl) ∧ News g L h [(wl, listO vw ew), (sl, listO vs es)] ∧ StrsAre vs (strongs its) ∧ StrsAre vw (weaks its)
theorem ParseI.names {g : Heap} {L sl wl : Addr} {T : Str} {tT : Tok} {its done rest : List Item} {h : Heap} {m : Str → Option Value} {pre : List Nat} {vs : List Value} {es : Nat} {vw : List Value} {ew : Nat} {tp : Tok} (P : ParseI g L sl wl T tT its done rest h m pre vs es vw ew tp) :
    (fun y => if y = Str.ofString "value" then some (Value.str T tT) else if y = Str.ofString "strong" then some (.ref sl) else if y = Str.ofString "weak" then some (.ref wl) else if y = Str.ofString "pos" then some (.int (pre.length : Int) tp) else m y) = m := by
  funext y
  split
  · next h => rw [h, P.mv]
  split
  · next h => rw [h, P.ms]
  split
  · next h => rw [h, P.mw]
  split
  · next h => rw [h, P.mp]
  rfl
theorem names2 {m : Str → Option Value} {sl wl : Addr} (ms : m (Str.ofString "strong") = some (.ref sl)) (mw : m (Str.ofString "weak") = some (.ref wl)) :
    m = (fun y => if y = Str.ofString "strong" then some (Value.ref sl) else if y = Str.ofString "weak" then some (.ref wl) else m y) := by
  funext y
  split
  · next h => rw [h, ms]
  split
  · next h => rw [h, mw]
  rfl
theorem pos_is {o : Option Value} {x y : Int} {t : Tok} (e : x = y) (h : o = some (.int y t)) : o = some (.int x t) := e ▸ h
theorem find_own {prog : Program} {w : World} {A : Around} {E : Value → Shared → Prop} {s : Shared} {x y : Str} {t u v : Tok} {i k : Int} {Q : Value → Shared → Prop} (hf : Txt.find3 x y i = k) (h : ∀ t', Q (.int k t') { s with toks := s.toks + 1 }) :
    wpAny (model prog w) A (call (.builtin "str.find") [.str x t, .str y u, .int i v]) Q E s := by
  subst hf
  exact SC.find3 (h _)
local macro_rules | `(tactic| walk_at "eval Name") => `(tactic| (k_here; k_dflt (first | (refine' nameX_L ?F ?v ?_ ?a ?b; (case F => k_asm); (case a => rfl); (case b => rfl); (case v => rfl); k_whole) | (refine' nameX_K ?F ?X ?T ?e ?_ ?a ?b; (case F => k_asm); (case X => k_asm); (case T => k_asm); (case a => rfl); (case b => rfl); (case e => k_is); k_whole))))
local macro_rules | `(tactic| walk_at "getMethod ref") => `(tactic| (k_here; (with_reducible show wpAny _ _ (getMethod (Value.ref _) (PySem.Str.ofString "append") _) _ _ _); k_dflt (refine' listMethod_K ?N ?m PySem.F.slot_list_append PySem.F.type_list_append ?_; (case N => k_asm); (case m => k_mem))))
local macro_rules | `(tactic| walk_at "callWith ref") => `(tactic| (k_here; k_dflt (first
  | refine' callWith_K ?k1 ?k2 ?_; (case k1 => k_asm); (case k2 => k_is); k_whole
  | refine' callWith_K0 ?k1 ?k2 ?_; (case k1 => k_in); (case k2 => k_is); k_whole)))
local macro_rules | `(tactic| walk_at "storeName") => `(tactic| (k_here; k_dflt (refine' storeX_L ?F ?N ?_ ?a ?b; (case F => k_asm); (case N => k_asm); (case a => rfl); (case b => rfl); k_whole; intro h' F' N'; (try k_sweep))))
local macro_rules | `(tactic| walk_at "ite") => `(tactic| (k_here; first | (k_closed; k_dflt (first | refine ite_pos (by decide) ?_ | refine ite_neg (by decide) ?_)) | (refine split_dec ?_ ?_ <;> intro _) | (refine split_bool ?_ ?_ <;> intro _)))
local macro_rules | `(tactic| walk_at "call builtin:list.append") => `(tactic| (k_here; (with_reducible show wpAny _ _ (call (Value.builtin _) [Value.ref _, _]) _ _ _); k_dflt (refine' append_own ?k1 ?k2 ?k3 ?z ?_; (case k1 => k_asm); (case k2 => k_asm); (case k3 => k_updF); (case z => assumption); k_whole); intro h' F' N'; (try k_sweep)))
local macro_rules | `(tactic| walk_at "truthy str") => `(tactic| (k_here; refine truthy_yes (by assumption) (by assumption) ?_; intro kT))
local macro_rules | `(tactic| walk_at "compareOp Eq str str") => `(tactic| (k_here; refine eq_no (by assumption) ?_))
local macro_rules | `(tactic| walk_at "last exec While") => `(tactic| (k_here; k_dflt (refine while_own ?_ ?_)))
local macro_rules | `(tactic| walk_at "getMethod ref") => `(tactic| (k_here; (with_reducible show wpAny _ _ (getMethod (Value.ref _) (PySem.Str.ofString "match") _) _ _ _); k_dflt (refine' getMethod_pat_own ?X ?F ?_; (case X => k_asm); (case F => k_asm))))
local macro_rules | `(tactic| walk_at "call builtin:re.Pattern.match") => `(tactic| (k_here; k_dflt (first | (refine' match_no ?X ?F ?P ?_; (case X => k_asm); (case F => k_asm); (case P => assumption)) | (refine' match_yes ?X ?F ?N ?P ?_; (case X => k_asm); (case F => k_asm); (case N => k_asm); (case P => assumption); intro mo tp h' F' N' l1 l2; k_lt l1; k_lt l2))))
local macro_rules | `(tactic| walk_at "getMethod ref") => `(tactic| (k_here; (with_reducible show wpAny _ _ (getMethod (Value.ref _) (PySem.Str.ofString "groups") _) _ _ _); k_dflt (refine' getMethod_groups_own ?N ?M ?_; (case N => k_asm); (case M => k_mem))))
local macro_rules | `(tactic| walk_at "getMethod ref") => `(tactic| (k_here; (with_reducible show wpAny _ _ (getMethod (Value.ref _) (PySem.Str.ofString "end") _) _ _ _); k_dflt (refine' getMethod_end_own ?N ?M ?_; (case N => k_asm); (case M => k_mem))))
local macro_rules | `(tactic| walk_at "call builtin:re.Match.groups") => `(tactic| (k_here; k_dflt (refine' groups_own ?F ?N ?M ?T ?s ?_; (case F => k_asm); (case N => k_asm); (case M => k_mem); (case T => k_mem); (case s => assumption)); intro v0 v1 v2 G h' tk' g0 g1 g2 F' N' l1; k_lt l1; obtain ⟨hv0, hv1, hn, hn2⟩ := groups_vals (by assumption) g0 g1 g2; clear g0 g1 g2; have hn3 := Nat.lt_of_le_of_lt hn2 (by assumption); rcases hv0 with ⟨hwk, x, t, e0, hx, hx2⟩ | ⟨hwk, e0⟩ <;> rcases hv1 with ⟨t1, e1⟩ | ⟨e1, t1, e2⟩ <;> subst e0 <;> subst e1 <;> (try subst e2) <;> (try have hx3 := Nat.lt_of_le_of_lt hx2 (by assumption))))
local macro_rules | `(tactic| walk_at "call builtin:re.Match.end") => `(tactic| (k_here; k_dflt (refine' end_own ?N ?M ?T ?_; (case N => k_asm); (case M => k_mem); (case T => k_mem)); intro tE kE))
local macro_rules | `(tactic| walk_at "call builtin:str.find") => `(tactic| (k_here; k_dflt (refine' find_own ?f ?_; (case f => assumption)); intro tF))
local macro_rules | `(tactic| k_room) => `(tactic| ((try simp only [depth_under_make, depth_under_kw, depth_in1, depth_deeper, depth_caller]); (simp only [recursionLimit]; omega)))
local macro_rules | `(tactic| walk_at "truthy ref") => `(tactic| (k_here; k_dflt (refine' truthy_own ?N ?m ?l ?_; (case N => k_asm); (case m => k_mem); (case l => assumption)); intro tkT))
local macro_rules | `(tactic| walk_at "call type:frozenset") => `(tactic| (k_here; k_dflt (first
  | (refine' froz_0_own ?F ?N ?_; (case F => k_asm); (case N => k_asm); k_whole; intro a' h' o' F' N' S' l1; k_lt l1)
  | (refine' froz_unit_own ?hh ?F ?N ?m ?_; (case hh => exact rfl); (case F => k_asm); (case N => k_asm); (case m => k_mem); k_whole; intro a' h' tk' o' F' N' S' l1; k_lt l1)
  | (refine' froz_strs_own ?hh ?F ?N ?m ?S ?l ?_; (case hh => exact rfl); (case F => k_asm); (case N => k_asm); (case m => k_mem); (case S => assumption); (case l => assumption); k_whole; intro a' h' tk' o' ks' F' N' S' M' W' l1; k_lt l1))))
set_option maxHeartbeats 6000000 in
theorem parse_c {w : World} {dp un : Nat} {gd : Option (List Code)} {cn : Str} {cs : Scope} {L a : Addr} {ccd : Value} {cl : List (Str × Addr)} {outer : List Env}
    {A₀ : Around} {base h₀ : Heap} {m : Str → Option Value} {s : Shared} {p : Program} {loose : List Str} {mean : ExcName → Option Value} {mg mb : Str → Option Value}
    {T : Str} {tT : Tok} {its : List Item}
    (B : Below A₀ base outer h₀) (F : Fr h₀ L s.heap m) (X : (Et.hd.heap_39 w.params).In h₀) (Tp : Top p loose mean mg mb h₀) (hk : cs.kind = .function)
    (hT : T.cps.toList = J (its.map Item.txt)) (good : ∀ it ∈ its, Good it) (hlen : its.length ≤ 20) (hpos : 0 < T.length)
    (hd : dp + 40 < 1000) (hu : un + 200 < cLine) :
    wpAny (model PySem.Challenge.rw_ez0423_01.row.prog w) (top dp un gd cn cs L a ccd cl outer) (call (.ref 171) [.str T tT])
      (fun r s' => After [] s s' ∧ s'.drawn = s.drawn ∧ TagsOut w (hideAll s.heap []) s'.heap r (strongs its) (weaks its) false) (fun _ _ => False) s := by
  revert X; k_fill; intro X
  have N : News h₀ L s.heap [] := News.nil
  refine wpAny_call ?_
  refine codeAny_mono (R := fun r s' => match r with
      | .ok (.ret v) => (∀ b o, b ∉ ([] : List (Addr × Obj)).map (·.1) → s.heap.get? b = some o → s'.heap.get? b = some o) ∧ (s'.gens = s.gens ∧ s'.os = s.os ∧ s'.drawn = s.drawn ∧ TagsOut w (hideAll s.heap []) s'.heap v (strongs its) (weaks its) false)
      | _ => False) ?_ (fun r s' h => ?_)
  · k_dflt (refine' enterG ?k1 ?k2 ?k3 ?k4 ?k5 ?kA ?kF ?kK ?k6 ?k7 ?k8 ?k9 ?kB ?_ ?c2 ?c3 ?c4 ?c5; (case kA => exact rfl); (case kF => exact rfl); (case kK => assumption); (case k1 => k_asm); (case k2 => k_asm); (case k3 => k_asm); (case k4 => k_asm); (case k5 => k_asm); (case k6 => k_is); (case k7 => k_is); (case k8 => (simp only [recursionLimit]; omega)); (case k9 => exact BindsTo.of_eq rfl); (case c5 => decide); (case kB => exact locs rfl); (case c2 => exact rfl); (case c3 => exact rfl); (case c4 => exact rfl); k_whole)
    intro g L' h' hg F' N' B' X' T'
    dsimp only
    show wpAny _ _ _ _ _ _
    have tl1 : T.length < 100000 := by
      have h1 := J_len (its.map Item.txt)
      have h2 := good_weight good
      have h3 : T.length = (J (its.map Item.txt)).length := by rw [← hT]; simp [Str.length]
      simp only [List.length_map] at h1
      omega
    have tne : T ≠ Str.ofString "*" := fun e => no_star good (by rw [← hT, e])
    rw [show hideAll s.heap [] = g from hg.symm]
    clear hg B F Tp N X
    try k_fold
    k_steps
    rotate_left
    · assumption
    rename News _ _ _ _ => N0
    rename Fr _ _ _ _ => F0
    rename_i sl hs1 l0 hs2 hs0 wl hw2 l12 hw3 hw1
    have small : T.cps.size < 100000 := tl1
    refine ⟨its.length + 1, fun n s₂ => ParseJ g L' sl wl T tT its n s₂.heap ∧ s₂.gens = s.gens ∧ s₂.os = s.os ∧ s₂.drawn = s.drawn, fun s₂ => ParseD g L' sl wl its s₂.heap ∧ s₂.gens = s.gens ∧ s₂.os = s.os ∧ s₂.drawn = s.drawn, ⟨⟨[], its, _, [], [], 0, [], 0, _, ⟨F0, rfl, rfl, rfl, rfl, N0, by simpa using hT, .nil, .nil, rfl⟩, rfl⟩, rfl, rfl, rfl⟩, ?_, ?_⟩
    rotate_left
    · rintro s₂ ⟨⟨m₁, vs, es, vw, ew, FT, ms, mw, NT, st, wk⟩, c1, c2, c3⟩
      obtain ⟨h₁, g₁, d₁, tk₁, os₁⟩ := s₂
      dsimp only at c1 c2 c3 FT NT
      subst c1; subst c2; subst c3
      rw [names2 ms mw] at FT
      have i1 : (strongs its).length ≤ its.length := List.length_filterMap_le _ _
      have i2 : (weaks its).length ≤ its.length := List.length_filterMap_le _ _
      have vsl : vs.length ≤ 100 := by rw [strs_len st]; omega
      have vwl : vw.length ≤ 100 := by rw [strs_len wk]; omega
      clear ms mw N0 F0 good tne
      show wpAny _ _ _ _ _ _
      k_fold
      k_steps
      all_goals (rename News g _ _ _ => nE; rename Fr g _ _ _ => fE)
      all_goals refine ⟨_, _, fE, rfl, rfl, rfl, tagsOut_of nE (by first | exact .tail _ (.tail _ (.tail _ (.head _))) | exact .tail _ (.tail _ (.tail _ (.tail _ (.head _))))) (by k_mem) (by k_mem) (by k_mem) (by omega) (by omega) (by omega) ?_ ?_⟩
      all_goals first
        | exact ⟨_, by assumption, by assumption, by assumption⟩
        | exact set_none (by assumption) (by assumption) (by assumption)
    rintro n s₂ ⟨⟨done, rest, m₁, pre, vs, es, vw, ew, tp, P, rfl⟩, c1, c2, c3⟩
    obtain ⟨h₁, g₁, d₁, tk₁, os₁⟩ := s₂
    dsimp only at c1 c2 c3 P
    subst c1; subst c2; subst c3
    have FT := P.fr
    rw [← P.names] at FT
    have NT := P.led
    have txt := P.txt
    have st := P.st
    have wk := P.wk
    have all := P.all
    clear P F0 N0
    have lim : done.length ≤ 20 := by have := congrArg List.length all; rw [List.length_append] at this; omega
    have vsl : vs.length ≤ 100 := by rw [strs_len st]; exact Nat.le_trans (List.length_filterMap_le _ _) (by omega)
    have vwl : vw.length ≤ 100 := by rw [strs_len wk]; exact Nat.le_trans (List.length_filterMap_le _ _) (by omega)
    show wpAny _ _ (execs _ _) _ _ _
    cases rest with
    | nil =>
      obtain ⟨no, fd⟩ := tells_end small (by simpa [J] using txt)
      have all' : done = its := by simpa using all
      clear txt all
      show wpAny _ _ _ _ _ _
      k_fold
      k_steps
      rename News _ _ _ _ => nE
      rename Fr _ _ _ _ => fE
      exact ⟨⟨_, vs, es, vw, ew, fE, rfl, rfl, nE, all' ▸ st, all' ▸ wk⟩, rfl, rfl, rfl⟩
    | cons it rs =>
      have hgI : Good it := good it (by rw [← all]; simp)
      cases hr : it.row with
      | none =>
        obtain ⟨no, ⟨hrs, fd⟩ | ⟨pre', txt', hp', fd'⟩⟩ := tells_junk small (rs := rs.map Item.txt) txt hgI hr
        · have e0 : rs = [] := by simpa using hrs
          subst e0
          have hs : strongs its = strongs done := by rw [← all]; simp [strongs, List.filterMap_append, hr]
          have hw : weaks its = weaks done := by rw [← all]; simp [weaks, List.filterMap_append, hr]
          clear txt
          show wpAny _ _ _ _ _ _
          k_fold
          k_steps
          rename News _ _ _ _ => nE
          rename Fr _ _ _ _ => fE
          exact ⟨⟨_, vs, es, vw, ew, fE, rfl, rfl, nE, hs ▸ st, hw ▸ wk⟩, rfl, rfl, rfl⟩
        · obtain ⟨k, hk⟩ : ∃ k : Nat, pre'.length = k + 1 := ⟨pre'.length - 1, by omega⟩
          have fd : Txt.find3 T (Str.ofString ",") (pre.length : Int) = (k : Int) := by omega
          have hs : strongs (done ++ [it]) = strongs done := by simp [strongs, List.filterMap_append, hr]
          have hw : weaks (done ++ [it]) = weaks done := by simp [weaks, List.filterMap_append, hr]
          clear txt fd'
          show wpAny _ _ _ _ _ _
          k_fold
          k_steps
          · rename _ = true => hz
            exfalso
            simp at hz
            omega
          · rename News _ _ _ _ => nE
            rename Fr _ _ _ _ => fE
            refine ⟨_, Nat.lt_succ_self _, ⟨done ++ [it], rs, _, pre', vs, es, vw, ew, _, ⟨fE, rfl, rfl, rfl, pos_is (x := (pre'.length : Int)) (y := (k : Int) + 1) (by omega) rfl, nE, txt', hs.symm ▸ st, hw.symm ▸ wk, by rw [← all]; simp⟩, rfl⟩, rfl, rfl, rfl⟩
      | some nw =>
        obtain ⟨n, weak⟩ := nw
        obtain ⟨lm, li, mks, pre', yes, txt', hG⟩ := tells_row small (rs := rs.map Item.txt) txt hgI hr
        clear txt
        show wpAny _ _ _ _ _ _
        k_fold
        k_steps
        all_goals (rename News _ _ _ _ => nE; rename Fr _ _ _ _ => fE)
        · exact ⟨_, Nat.lt_succ_self _, ⟨done ++ [it], rs, _, pre', _, _, _, _, _, ⟨fE, rfl, rfl, rfl, rfl, fun p hp => nE p (.tail _ (.tail _ (.tail _ hp))), txt', strongs_no hr (by assumption) st, weaks_yes hr (by assumption) wk, by rw [← all]; simp⟩, rfl⟩, rfl, rfl, rfl⟩
        · exact ⟨_, Nat.lt_succ_self _, ⟨done ++ [it], rs, _, pre', _, _, _, _, _, ⟨fE, rfl, rfl, rfl, rfl, fun p hp => nE p (.tail _ (.tail _ (.tail _ hp))), txt', strongs_no hr (by assumption) st, weaks_yes hr (by assumption) wk, by rw [← all]; simp⟩, rfl⟩, rfl, rfl, rfl⟩
        · exact ⟨_, Nat.lt_succ_self _, ⟨done ++ [it], rs, _, pre', _, _, _, _, _, ⟨fE, rfl, rfl, rfl, rfl, fun p hp => nE p (.tail _ (.tail _ (.tail _ hp))), txt', strongs_yes hr (by assumption) st, weaks_no hr (by assumption) wk, by rw [← all]; simp⟩, rfl⟩, rfl, rfl, rfl⟩
        · exact ⟨_, Nat.lt_succ_self _, ⟨done ++ [it], rs, _, pre', _, _, _, _, _, ⟨fE, rfl, rfl, rfl, rfl, fun p hp => nE p (.tail _ (.tail _ (.tail _ hp))), txt', strongs_yes hr (by assumption) st, weaks_no hr (by assumption) wk, by rw [← all]; simp⟩, rfl⟩, rfl, rfl, rfl⟩
  · split at h
    · exact ⟨⟨h.2.1, h.2.2.1, fun b o n => h.1 b o (by simpa using n)⟩, h.2.2.2⟩
    · exact h.elim
end Et
end
section
open PySem PySem.W PySem.Calls PyProof.Rows
set_option Elab.async false
theorem Et.fresh_19 {M : Model} {A : Around} {E : Value → Shared → Prop} {s : Shared} {env : Env} {Q : Flow → Shared → Prop} (h : Q .next s) : wpAny M A (execs [] env) Q E s := by
  w_top off
  first | (walk1; exact h) | exact wpAny_execs_nil h
set_option maxRecDepth 100000
namespace Et
local macro_rules | `(tactic| walk_at "eval Name") => `(tactic| (k_here; k_dflt (first | (refine' nameX_L ?F ?v ?_ ?a ?b; (case F => k_asm); (case a => rfl); (case b => rfl); (case v => rfl); k_whole) | (refine' nameX_K ?F ?X ?T ?e ?_ ?a ?b; (case F => k_asm); (case X => k_asm); (case T => k_asm); (case a => rfl); (case b => rfl); (case e => k_is); k_whole))))
local macro_rules | `(tactic| walk_at "getMethod ref") => `(tactic| (k_here; (with_reducible show wpAny _ _ (getMethod (Value.ref _) (PySem.Str.ofString "append") _) _ _ _); k_dflt (refine' listMethod_K ?N ?m PySem.F.slot_list_append PySem.F.type_list_append ?_; (case N => k_asm); (case m => k_mem))))
local macro_rules | `(tactic| walk_at "callWith ref") => `(tactic| (k_here; k_dflt (first
  | refine' callWith_K ?k1 ?k2 ?_; (case k1 => k_asm); (case k2 => k_is); k_whole
  | refine' callWith_K0 ?k1 ?k2 ?_; (case k1 => k_in); (case k2 => k_is); k_whole)))
local macro_rules | `(tactic| walk_at "storeName") => `(tactic| (k_here; k_dflt (refine' storeX_L ?F ?N ?_ ?a ?b; (case F => k_asm); (case N => k_asm); (case a => rfl); (case b => rfl); k_whole; intro h' F' N'; (try k_sweep))))
local macro_rules | `(tactic| walk_at "ite") => `(tactic| (k_here; first | (k_closed; k_dflt (first | refine ite_pos (by decide) ?_ | refine ite_neg (by decide) ?_)) | (refine split_dec ?_ ?_ <;> intro _) | (refine split_bool ?_ ?_ <;> intro _)))
local macro_rules | `(tactic| walk_at "call builtin:list.append") => `(tactic| (k_here; (with_reducible show wpAny _ _ (call (Value.builtin _) [Value.ref _, _]) _ _ _); k_dflt (refine' append_own ?k1 ?k2 ?k3 ?z ?_; (case k1 => k_asm); (case k2 => k_asm); (case k3 => k_updF); (case z => assumption); k_whole); intro h' F' N'; (try k_sweep)))
local macro_rules | `(tactic| k_room) => `(tactic| ((try simp only [depth_under_make, depth_under_kw, depth_in1, depth_deeper, depth_caller]); (simp only [recursionLimit]; omega)))
local macro_rules | `(tactic| walk_at "truthy ref") => `(tactic| (k_here; k_dflt (refine' truthy_own ?N ?m ?l ?_; (case N => k_asm); (case m => k_mem); (case l => assumption)); intro tkT))
local macro_rules | `(tactic| walk_at "call type:frozenset") => `(tactic| (k_here; k_dflt (first
  | (refine' froz_0_own ?F ?N ?_; (case F => k_asm); (case N => k_asm); k_whole; intro a' h' o' F' N' S' l1; k_lt l1)
  | (refine' froz_unit_own ?hh ?F ?N ?m ?_; (case hh => exact rfl); (case F => k_asm); (case N => k_asm); (case m => k_mem); k_whole; intro a' h' tk' o' F' N' S' l1; k_lt l1)
  | (refine' froz_strs_own ?hh ?F ?N ?m ?S ?l ?_; (case hh => exact rfl); (case F => k_asm); (case N => k_asm); (case m => k_mem); (case S => assumption); (case l => assumption); k_whole; intro a' h' tk' o' ks' F' N' S' M' W' l1; k_lt l1))))
set_option maxHeartbeats 2000000 in
theorem parse_0 {w : World} {dp un : Nat} {gd : Option (List Code)} {cn : Str} {cs : Scope} {L a : Addr} {ccd : Value} {cl : List (Str × Addr)} {outer : List Env}
    {A₀ : Around} {base h₀ : Heap} {m : Str → Option Value} {s : Shared} {p : Program} {loose : List Str} {mean : ExcName → Option Value} {mg mb : Str → Option Value} {tT : Tok}
    (B : Below A₀ base outer h₀) (F : Fr h₀ L s.heap m) (X : (Et.hd.heap_39 w.params).In h₀) (Tp : Top p loose mean mg mb h₀) (hk : cs.kind = .function)
    (hd : dp + 40 < 1000) (hu : un + 200 < cLine) :
    wpAny (model PySem.Challenge.rw_ez0423_01.row.prog w) (top dp un gd cn cs L a ccd cl outer) (call (.ref 171) [.str (Str.ofString "") tT])
      (fun r s' => After [] s s' ∧ s'.drawn = s.drawn ∧ TagsOut w (hideAll s.heap []) s'.heap r [] [] false) (fun _ _ => False) s := by
  revert X; k_fill; intro X
  have N : News h₀ L s.heap [] := News.nil
  refine wpAny_call ?_
  refine codeAny_mono (R := fun r s' => match r with
      | .ok (.ret v) => (∀ b o, b ∉ ([] : List (Addr × Obj)).map (·.1) → s.heap.get? b = some o → s'.heap.get? b = some o) ∧ (s'.gens = s.gens ∧ s'.os = s.os ∧ s'.drawn = s.drawn ∧ TagsOut w (hideAll s.heap []) s'.heap v [] [] false)
      | _ => False) ?_ (fun r s' h => ?_)
  · k_dflt (refine' enterG ?k1 ?k2 ?k3 ?k4 ?k5 ?kA ?kF ?kK ?k6 ?k7 ?k8 ?k9 ?kB ?_ ?c2 ?c3 ?c4 ?c5; (case kA => exact rfl); (case kF => exact rfl); (case kK => assumption); (case k1 => k_asm); (case k2 => k_asm); (case k3 => k_asm); (case k4 => k_asm); (case k5 => k_asm); (case k6 => k_is); (case k7 => k_is); (case k8 => (simp only [recursionLimit]; omega)); (case k9 => exact BindsTo.of_eq rfl); (case c5 => decide); (case kB => exact locs rfl); (case c2 => exact rfl); (case c3 => exact rfl); (case c4 => exact rfl); k_whole)
    intro g L' h' hg F' N' B' X' T'
    dsimp only
    show wpAny _ _ _ _ _ _
    rw [show hideAll s.heap [] = g from hg.symm]
    clear hg B F Tp N X
    try k_fold
    k_steps
    all_goals (rename News g _ _ _ => nE; rename Fr g _ _ _ => fE)
    all_goals exact ⟨_, _, fE, rfl, rfl, rfl, tagsOut_of nE (by first | exact .tail _ (.tail _ (.tail _ (.head _))) | exact .tail _ (.tail _ (.tail _ (.tail _ (.head _))))) (by k_mem) (by k_mem) (by k_mem) (by omega) (by omega) (by omega) ⟨[], by assumption, fun _ => Iff.rfl, Nat.le_refl _⟩ ⟨[], by assumption, fun _ => Iff.rfl, Nat.le_refl _⟩⟩
  · split at h
    · exact ⟨⟨h.2.1, h.2.2.1, fun b o n => h.1 b o (by simpa using n)⟩, h.2.2.2⟩
    · exact h.elim
set_option maxHeartbeats 2000000 in
theorem parse_star {w : World} {dp un : Nat} {gd : Option (List Code)} {cn : Str} {cs : Scope} {L a : Addr} {ccd : Value} {cl : List (Str × Addr)} {outer : List Env}
    {A₀ : Around} {base h₀ : Heap} {m : Str → Option Value} {s : Shared} {p : Program} {loose : List Str} {mean : ExcName → Option Value} {mg mb : Str → Option Value} {tT : Tok}
    (B : Below A₀ base outer h₀) (F : Fr h₀ L s.heap m) (X : (Et.hd.heap_39 w.params).In h₀) (Tp : Top p loose mean mg mb h₀) (hk : cs.kind = .function)
    (hd : dp + 40 < 1000) (hu : un + 200 < cLine) :
    wpAny (model PySem.Challenge.rw_ez0423_01.row.prog w) (top dp un gd cn cs L a ccd cl outer) (call (.ref 171) [.str (Str.ofString "*") tT])
      (fun r s' => After [] s s' ∧ s'.drawn = s.drawn ∧ TagsOut w (hideAll s.heap []) s'.heap r [] [] true) (fun _ _ => False) s := by
  revert X; k_fill; intro X
  have N : News h₀ L s.heap [] := News.nil
  refine wpAny_call ?_
  refine codeAny_mono (R := fun r s' => match r with
      | .ok (.ret v) => (∀ b o, b ∉ ([] : List (Addr × Obj)).map (·.1) → s.heap.get? b = some o → s'.heap.get? b = some o) ∧ (s'.gens = s.gens ∧ s'.os = s.os ∧ s'.drawn = s.drawn ∧ TagsOut w (hideAll s.heap []) s'.heap v [] [] true)
      | _ => False) ?_ (fun r s' h => ?_)
  · k_dflt (refine' enterG ?k1 ?k2 ?k3 ?k4 ?k5 ?kA ?kF ?kK ?k6 ?k7 ?k8 ?k9 ?kB ?_ ?c2 ?c3 ?c4 ?c5; (case kA => exact rfl); (case kF => exact rfl); (case kK => assumption); (case k1 => k_asm); (case k2 => k_asm); (case k3 => k_asm); (case k4 => k_asm); (case k5 => k_asm); (case k6 => k_is); (case k7 => k_is); (case k8 => (simp only [recursionLimit]; omega)); (case k9 => exact BindsTo.of_eq rfl); (case c5 => decide); (case kB => exact locs rfl); (case c2 => exact rfl); (case c3 => exact rfl); (case c4 => exact rfl); k_whole)
    intro g L' h' hg F' N' B' X' T'
    dsimp only
    show wpAny _ _ _ _ _ _
    rw [show hideAll s.heap [] = g from hg.symm]
    clear hg B F Tp N X
    try k_fold
    k_steps
    all_goals (rename News g _ _ _ => nE; rename Fr g _ _ _ => fE)
    all_goals exact ⟨_, _, fE, rfl, rfl, rfl, tagsOut_of nE (by first | exact .tail _ (.tail _ (.tail _ (.head _))) | exact .tail _ (.tail _ (.tail _ (.tail _ (.head _))))) (by k_mem) (by k_mem) (by k_mem) (by omega) (by omega) (by omega) ⟨[], by assumption, fun _ => Iff.rfl, Nat.le_refl _⟩ ⟨[], by assumption, fun _ => Iff.rfl, Nat.le_refl _⟩⟩
  · split at h
    · exact ⟨⟨h.2.1, h.2.2.1, fun b o n => h.1 b o (by simpa using n)⟩, h.2.2.2⟩
    · exact h.elim
end Et
end
section
open PySem PySem.W PySem.Calls PyProof.Rows
set_option Elab.async false
theorem Et.fresh_20 {M : Model} {A : Around} {E : Value → Shared → Prop} {s : Shared} {env : Env} {Q : Flow → Shared → Prop} (h : Q .next s) : wpAny M A (execs [] env) Q E s := by
  w_top off
  first | (walk1; exact h) | exact wpAny_execs_nil h
set_option maxRecDepth 100000
namespace Et

/-- a comprehension over a set of texts whose items are texts made of its -/
def CompS (prog : Program) (w : World) (A : Around) (env : Env) (scope : Scope) (x : Str) (elt : Expr) (Q : Value → Shared → Prop) (xv : Value) (s₁ : Shared) : Prop :=
  ∃ (f : Str → Str) (g : Heap) (L : Addr) (m : Str → Option Value) (news : List (Addr × Obj)) (S : Addr) (oS : Obj) (ks : List Str),
    xv = .ref S ∧ Fr g L s₁.heap m ∧ News g L s₁.heap news ∧ (S, oS) ∈ news ∧ SetO w oS "frozenset" ks ∧ ks.length < 64 ∧ A.handled = none ∧
    (∀ (C : Addr) k t s₃ m₃ E', k ∈ ks → s₃.heap.Ns C m₃ → m₃ x = some (.str k t) → wpAny (model prog w) A (eval elt (compEnv scope C env)) (fun y s₄ => (∃ t, y = .str (f k) t) ∧ Keeps s₃ s₄) E' s₃) ∧
    (∀ D h' tk d vs e (ss : List Str), Fr g L h' m → News g L h' ((D, listO vs e) :: news) → StrsAre vs (ss.map f) → ss.Perm ks → Q (.ref D) { s₁ with heap := h', toks := tk, drawn := d })
theorem strs_paired {f : Str → Str} : ∀ {xs ys : List Value} {ss : List Str}, StrsAre xs ss → Paired (fun v y => ∃ k t t', v = .str k t ∧ y = .str (f k) t') xs ys → StrsAre ys (ss.map f)
  | _, _, _, .nil, .nil => .nil
  | _, _, _, .cons k t hr, .cons h hp => by
    obtain ⟨k', t1, t2, e1, e2⟩ := h
    cases e1; subst e2
    exact .cons _ _ (strs_paired hr hp)
theorem list_same {xs vs : List Value} (hl : vs.length = xs.length) (h : ∀ (j : Nat) (v : Value), vs[j]? = some v → xs[j]? = some v) : vs = xs := by
  apply List.ext_getElem? 
  intro j
  cases q : vs[j]? with
  | some v => exact (h j v q).symm
  | none =>
    have := List.getElem?_eq_none_iff.mp q
    exact (List.getElem?_eq_none (by omega)).symm
section
variable {prog : Program} {w : World} {A : Around} {E : Value → Shared → Prop} {s : Shared} {env : Env}
theorem comp_set_own {elt iter : Expr} {x : Str} {px : Pos} {scope : Scope} {pos : Pos} {Q : Value → Shared → Prop}
    (hfree : ∀ y ∈ scope.names, y.2 ≠ .free) (hcell : ∀ y ∈ scope.names, y.2 ≠ .cell) (hkind : scope.kind = .function)
    (hnames : ∀ y ∈ scope.names, y.2 = .local → scope.names.lookup y.1 = some .local) (hx : scope.names.lookup x = some .local)
    (h : wpAny (model prog w) A (eval iter env) (CompS prog w A env scope x elt Q) E s)
    (hs : ∀ x, foldedSetIterable iter env x = pure x := by intro _; rfl) :
    wpAny (model prog w) A (eval (.ListComp elt [⟨.Name x px, iter, [], 0⟩] scope pos) env) Q E s := by
  refine wpAny_ListComp hfree hkind hnames (wpAny_mono h (fun xv s₁ h₁ => ?_) fun _ _ e => e) hs
  obtain ⟨f, g, L, m, news, S, oS, ks, rfl, F, N, hm, hS, hsz, hh, he, hQ⟩ := h₁
  refine pyIter_set (.inr rfl) ⟨oS, (N _ hm).1, hS⟩ hsz fun h' d I fp xs ss St q1 q2 q3 q4 q5 q6 q6b q7 q8 q9 => ?_
  have hlen : xs.length = ss.length := strs_len q2
  have hlen2 := q3.length_eq
  refine comp_block_walk (s₂ := { s₁ with heap := h', drawn := d }) (RR := fun acc cenv r s' => ∃ m, s'.heap.Ns cenv.locals m ∧ ∀ h', Heap.SameBut cenv.locals s'.heap h' →
    match r with | .ok _ => Q acc { s' with heap := h' } | .error x => wpAny (model prog w) A (passOn "comprehension.variables-let-go" x cenv) Q E { s' with heap := h' }) (q7 A hh) (by rw [sizeLine_eq]; omega) (fun _ => true) (fun v y => ∃ k t t', v = .str k t ∧ y = .str (f k) t') hcell hkind hx q8 (fun b hb => ?_) ⟨?_, ?_⟩ ?_
  · rcases q5 b hb with rfl | hb
    · exact Heap.lt_size (q1 _ _ (N _ hm).1)
    · exact hb.2
  · intro C i v s₃ m₃ E' _ _ _ _ _
    rw [List.forIn_nil]
    exact wpAny_pure ⟨rfl, s₃.heap, s₃.toks, rfl, fun _ _ e => e⟩
  · intro C i v s₃ m₃ E' hP _ hn hx' _ _
    obtain ⟨t, rfl⟩ := strs_at q2 i v hP
    have hk : ss.getD i Str.empty ∈ ks := by
      have hi : i < ss.length := by rw [← hlen]; exact (List.getElem?_eq_some_iff.mp hP).1
      refine q3.subset ?_
      rw [List.getD_eq_getElem?_getD, List.getElem?_eq_getElem hi]
      exact List.getElem_mem hi
    refine wpAny_mono (he C _ t s₃ m₃ E' hk hn hx') (fun y s₄ h₄ => ?_) fun _ _ e => e
    obtain ⟨⟨t', rfl⟩, K⟩ := h₄
    exact ⟨⟨_, _, _, rfl, rfl⟩, K⟩
  · intro D C h'' tk m' ys vs hD hC hDC hn hl hpl hl2 hP hF hk
    have hvs : vs = xs := list_same hl2 hP
    subst hvs
    have F1 := Fr.same F q1
    have N1 := News.same N q1
    have hIno : ∀ b o, s₁.heap.get? b = some o → b ∉ [I] := fun b o e hb => by
      rw [List.mem_singleton.mp hb] at e
      exact absurd (Heap.lt_size e) (Nat.not_lt.mpr q6)
    have old : ∀ b o, s₁.heap.get? b = some o → h''.get? b = some o := fun b o e => hk b o (hIno b o e) (q1 b o e)
    rw [List.filter_eq_self.mpr (fun _ _ => rfl)] at hF
    have hP' : StrsAre ys.toList (ss.map f) := strs_paired q2 hF
    refine ⟨m', hn, fun h3 hs3 => ?_⟩
    have old3 : ∀ b o, s₁.heap.get? b = some o → h3.get? b = some o := fun b o e => hs3.extBut b o (fun q => by
      have z := q1 _ _ e
      rw [show b = C from q] at z
      change h'.get? C = none at hC
      rw [hC] at z; cases z) (old b o e)
    obtain ⟨n, hpl⟩ := hpl.extBut hs3.extBut hDC
    refine hQ D h3 tk d ys.toList n ss (Fr.same F old3) (News.more F N old3 (by show h3.get? D = some { cls := .type "list", data := .seq ys.toList.toArray n }; simpa using hpl) ?_) hP' q3
    cases q : s₁.heap.get? D with
    | none => rfl
    | some o =>
      have z := q1 _ _ q
      change h'.get? D = none at hD
      rw [hD] at z; cases z
end
theorem list_add_own {prog : Program} {w : World} {A : Around} {E : Value → Shared → Prop} {s : Shared} {g : Heap} {L l b : Addr} {m : Str → Option Value} {news : List (Addr × Obj)} {vs ws : List Value} {ev ew : Nat} {ss st : List Str} {Q : Value → Shared → Prop}
    (F : Fr g L s.heap m) (N : News g L s.heap news) (hl : (l, listO vs ev) ∈ news) (hb : (b, listO ws ew) ∈ news) (hS : StrsAre vs ss) (hT : StrsAre ws st) (lv : vs.length ≤ 100) (lw : ws.length ≤ 100)
    (h : ∀ D h' us, Fr g L h' m → News g L h' ((D, listO us 0) :: news) → StrsAre us (ss ++ st) → (∀ p ∈ news, p.1 < D) → Q (.ref D) { s with heap := h' }) :
    wpAny (model prog w) A (binaryOp .Add (.ref l) (.ref b)) Q E s :=
  add_lists (hsz := by rw [sizeLine_eq]; omega) F N (list_of_news N hl) (list_of_news N hb) fun h' F' N' => h _ h' (vs ++ ws) F' N' (strsAre_append hS hT) fun p hp => Heap.lt_size (N p hp).1
local macro_rules | `(tactic| walk_at "eval Name") => `(tactic| (k_here; k_dflt (first | (refine' nameX_L ?F ?v ?_ ?a ?b; (case F => k_asm); (case a => rfl); (case b => rfl); (case v => rfl); k_whole) | (refine' nameX_K ?F ?X ?T ?e ?_ ?a ?b; (case F => k_asm); (case X => k_asm); (case T => k_asm); (case a => rfl); (case b => rfl); (case e => k_is); k_whole))))
local macro_rules | `(tactic| walk_at "getMethod ref") => `(tactic| (k_here; (with_reducible show wpAny _ _ (getMethod (Value.ref _) (PySem.Str.ofString "append") _) _ _ _); k_dflt (refine' listMethod_K ?N ?m PySem.F.slot_list_append PySem.F.type_list_append ?_; (case N => k_asm); (case m => k_mem))))
local macro_rules | `(tactic| walk_at "callWith ref") => `(tactic| (k_here; k_dflt (first
  | refine' callWith_K ?k1 ?k2 ?_; (case k1 => k_asm); (case k2 => k_is); k_whole
  | refine' callWith_K0 ?k1 ?k2 ?_; (case k1 => k_in); (case k2 => k_is); k_whole)))
local macro_rules | `(tactic| walk_at "storeName") => `(tactic| (k_here; k_dflt (refine' storeX_L ?F ?N ?_ ?a ?b; (case F => k_asm); (case N => k_asm); (case a => rfl); (case b => rfl); k_whole; intro h' F' N'; (try k_sweep))))
local macro_rules | `(tactic| walk_at "ite") => `(tactic| (k_here; first | (k_closed; k_dflt (first | refine ite_pos (by decide) ?_ | refine ite_neg (by decide) ?_)) | (refine split_dec ?_ ?_ <;> intro _) | (refine split_bool ?_ ?_ <;> intro _)))
local macro_rules | `(tactic| walk_at "call builtin:list.append") => `(tactic| (k_here; (with_reducible show wpAny _ _ (call (Value.builtin _) [Value.ref _, _]) _ _ _); k_dflt (refine' append_own ?k1 ?k2 ?k3 ?z ?_; (case k1 => k_asm); (case k2 => k_asm); (case k3 => k_updF); (case z => assumption); k_whole); intro h' F' N'; (try k_sweep)))
local macro_rules | `(tactic| k_room) => `(tactic| ((try simp only [depth_under_make, depth_under_kw, depth_in1, depth_deeper, depth_caller]); (simp only [recursionLimit]; omega)))
local macro_rules | `(tactic| walk_at "truthy ref") => `(tactic| (k_here; k_dflt (refine' truthy_own ?N ?m ?l ?_; (case N => k_asm); (case m => k_mem); (case l => assumption)); intro tkT))
local macro_rules | `(tactic| walk_at "call type:frozenset") => `(tactic| (k_here; k_dflt (first
  | (refine' froz_0_own ?F ?N ?_; (case F => k_asm); (case N => k_asm); k_whole; intro a' h' o' F' N' S' l1; k_lt l1)
  | (refine' froz_unit_own ?hh ?F ?N ?m ?_; (case hh => exact rfl); (case F => k_asm); (case N => k_asm); (case m => k_mem); k_whole; intro a' h' tk' o' F' N' S' l1; k_lt l1)
  | (refine' froz_strs_own ?hh ?F ?N ?m ?S ?l ?_; (case hh => exact rfl); (case F => k_asm); (case N => k_asm); (case m => k_mem); (case S => assumption); (case l => assumption); k_whole; intro a' h' tk' o' ks' F' N' S' M' W' l1; k_lt l1))))
local macro_rules | `(tactic| walk_at "eval ListComp") => `(tactic| (k_here; (with_reducible apply comp_set_own); (case hfree => decide); (case hcell => decide); (case hkind => with_unfolding_all rfl); (case hnames => decide); (case hx => with_unfolding_all rfl); (case hs => intro _; with_unfolding_all rfl)))

abbrev quoS (k : Str) : Str := (Str.ofString "\"" ++ k) ++ Str.ofString "\""
abbrev quoW (k : Str) : Str := (Str.ofString "W/\"" ++ k) ++ Str.ofString "\""
theorem str_app (a b : Str) : (a ++ b).length = a.length + b.length := Array.size_append
theorem quoS_len (k : Str) : (quoS k).length = k.length + 2 := by
  rw [str_app, str_app, show (Str.ofString "\"").length = 1 by decide]; omega
theorem quoW_len (k : Str) : (quoW k).length = k.length + 4 := by
  rw [str_app, str_app, show (Str.ofString "\"").length = 1 by decide, show (Str.ofString "W/\"").length = 3 by decide]; omega
theorem sum_le {f : Str → Str} {c : Nat} : ∀ (l : List Str), (∀ k ∈ l, (f k).length ≤ c) → ((l.map f).map (·.length)).sum ≤ c * l.length
  | [], _ => by simp
  | k :: l, h => by
    have h1 := sum_le l fun k hk => h k (.tail _ hk)
    have h2 := h k (.head _)
    simp only [List.map_cons, List.sum_cons, List.length_cons, Nat.mul_add, Nat.mul_one]
    omega
theorem header_small {ks kw s1 s2 : List Str} (p1 : s1.Perm ks) (p2 : s2.Perm kw) (sF : ∀ k ∈ ks, k.length ≤ 10) (sW : ∀ k ∈ kw, k.length ≤ 10) (lF : ks.length ≤ 20) (lW : kw.length ≤ 20) :
    ((s1.map quoS ++ s2.map quoW).map (·.length)).sum + (s1.map quoS ++ s2.map quoW).length ≤ 1048576 := by
  have h1 := sum_le (f := quoS) (c := 14) s1 fun k hk => by rw [quoS_len]; have := sF k (p1.subset hk); omega
  have h2 := sum_le (f := quoW) (c := 14) s2 fun k hk => by rw [quoW_len]; have := sW k (p2.subset hk); omega
  have l1 := p1.length_eq
  have l2 := p2.length_eq
  rw [List.map_append, List.sum_append, List.length_append, List.length_map, List.length_map]
  omega
local macro_rules | `(tactic| walk_at "binaryOp Add ref ref") => `(tactic| (k_here; k_dflt (refine' list_add_own ?F ?N ?a ?b ?S ?T ?l ?r ?_; (case F => k_asm); (case N => k_asm); (case a => k_mem); (case b => k_mem); (case S => assumption); (case T => assumption); (case l => assumption); (case r => assumption)); intro D' h' us' F' N' S' l1; k_lt l1))
local macro_rules | `(tactic| walk_at "call builtin:str.join") => `(tactic| (k_here; k_dflt (refine' join_own ?N ?M ?S ?W ?x ?_; (case N => k_asm); (case M => k_mem); (case S => assumption); (case W => assumption); (case x => decide); k_whole); intro tJ kJ))
def HeadOut (ks kw : List Str) (r : Value) : Prop := ∃ (s1 s2 : List Str) (t : Tok), s1.Perm ks ∧ s2.Perm kw ∧ r = .str (Txt.join (Str.ofString ", ") (s1.map quoS ++ s2.map quoW)) t
set_option maxHeartbeats 4000000 in
theorem header_c {w : World} {dp un : Nat} {gd : Option (List Code)} {cn : Str} {cs : Scope} {L a : Addr} {ccd : Value} {cl : List (Str × Addr)} {outer : List Env}
    {A₀ : Around} {base h₀ : Heap} {m : Str → Option Value} {s : Shared} {p : Program} {loose : List Str} {mean : ExcName → Option Value} {mg mb : Str → Option Value}
    {x dx fs fw : Addr} {oF oW : Obj} {ks kw : List Str} {t1 t2 t3 : Tok}
    (B : Below A₀ base outer h₀) (F : Fr h₀ L s.heap m) (X : (Et.hd.heap_39 w.params).In h₀) (Tp : Top p loose mean mg mb h₀) (hk : cs.kind = .function)
    (N : News h₀ L s.heap [(x, instObj 140 dx), (dx, tagsD w.params fs fw false t1 t2 t3), (fs, oF), (fw, oW)]) (hF : SetO w oF "frozenset" ks) (hW : SetO w oW "frozenset" kw) (lF : ks.length ≤ 20) (lW : kw.length ≤ 20)
    (sF : ∀ k ∈ ks, k.length ≤ 10) (sW : ∀ k ∈ kw, k.length ≤ 10)
    (hd : dp + 40 < 1000) (hu : un + 200 < cLine) :
    wpAny (model PySem.Challenge.rw_ez0423_01.row.prog w) (top dp un gd cn cs L a ccd cl outer) (call (.ref 87) [.ref x])
      (fun r s' => After [] s s' ∧ HeadOut ks kw r) (fun _ _ => False) s := by
  revert X; k_fill; intro X
  refine wpAny_call ?_
  refine codeAny_mono (R := fun r s' => match r with
      | .ok (.ret v) => (∀ b o, b ∉ [(x, instObj 140 dx), (dx, tagsD w.params fs fw false t1 t2 t3), (fs, oF), (fw, oW)].map (·.1) → s.heap.get? b = some o → s'.heap.get? b = some o) ∧ (s'.gens = s.gens ∧ s'.os = s.os ∧ (∀ p ∈ [(x, instObj 140 dx), (dx, tagsD w.params fs fw false t1 t2 t3), (fs, oF), (fw, oW)], s'.heap.get? p.1 = some p.2) ∧ HeadOut ks kw v)
      | _ => False) ?_ (fun r s' h => ?_)
  · k_dflt (refine' enterG ?k1 ?k2 ?k3 ?k4 ?k5 ?kA ?kF ?kK ?k6 ?k7 ?k8 ?k9 ?kB ?_ ?c2 ?c3 ?c4 ?c5; (case kA => exact rfl); (case kF => exact rfl); (case kK => assumption); (case k1 => k_asm); (case k2 => k_asm); (case k3 => k_asm); (case k4 => k_asm); (case k5 => k_asm); (case k6 => k_is); (case k7 => k_is); (case k8 => (simp only [recursionLimit]; omega)); (case k9 => exact BindsTo.of_eq rfl); (case c5 => decide); (case kB => exact locs rfl); (case c2 => exact rfl); (case c3 => exact rfl); (case c4 => exact rfl); k_whole)
    intro g L' h' hg F' N' B' X' T'
    dsimp only
    show wpAny _ _ _ _ _ _
    clear hg B F Tp X
    clear N
    try k_fold
    k_steps
    rename News _ _ _ _ => N1
    rename Fr _ _ _ _ => F1
    refine ⟨quoS, _, _, _, _, _, _, _, rfl, F1, N1, by k_mem, hF, by omega, rfl, ?_, ?_⟩
    · intro C k t s₃ m₃ E' hk hn hx
      have hl := sF k hk
      clear F1 N1 X' B' T' hF hW sF sW
      show wpAny _ _ _ _ _ _
      k_steps
      exact ⟨_, _, rfl, fun _ _ e => e⟩
    · clear N1 F1
      intro D1 h1 tk1 d1 v1 e1 s1 F1 N1 S1 p1
      show wpAny _ _ _ _ _ _
      k_steps
      rename News _ _ _ _ => N2
      rename Fr _ _ _ _ => F2
      refine ⟨quoW, _, _, _, _, _, _, _, rfl, F2, N2, by k_mem, hW, by omega, rfl, ?_, ?_⟩
      · intro C k t s₃ m₃ E' hk hn hx
        have hl := sW k hk
        clear F2 N2 X' B' T' hF hW sF sW S1 p1
        show wpAny _ _ _ _ _ _
        k_steps
        exact ⟨_, _, rfl, fun _ _ e => e⟩
      · clear N2 F2
        intro D2 h2 tk2 d2 v2 e2 s2 F2 N2 S2 p2
        have len1 : v1.length ≤ 100 := by rw [strs_len S1, List.length_map, p1.length_eq]; omega
        have len2 : v2.length ≤ 100 := by rw [strs_len S2, List.length_map, p2.length_eq]; omega
        have sm := header_small p1 p2 sF sW lF lW
        show wpAny _ _ _ _ _ _
        k_steps
        rename News _ _ _ _ => nE
        rename Fr _ _ _ _ => fE
        exact ⟨_, _, fE, rfl, rfl, fun p hp => (nE p (.tail _ (.tail _ (.tail _ hp)))).1, _, _, _, p1, p2, rfl⟩
  · split at h
    · refine ⟨⟨h.2.1, h.2.2.1, fun b o _ e => ?_⟩, h.2.2.2.2⟩
      by_cases hb : b ∈ [(x, instObj 140 dx), (dx, tagsD w.params fs fw false t1 t2 t3), (fs, oF), (fw, oW)].map (·.1)
      · obtain ⟨p, hp, rfl⟩ := List.mem_map.mp hb
        rw [h.2.2.2.1 p hp, ← e]
        exact (N p hp).1.symm
      · exact h.1 b o hb e
    · exact h.elim
end Et
end
section
open PySem PySem.W PySem.Calls PyProof.Rows
set_option Elab.async false
set_option maxRecDepth 100000
namespace Et
theorem noBool_froz : typeLookup (.type "frozenset") "__bool__" = pure none := by rw [typeLookup_type, builtinLookup_eq_fast]; kernel_rfl
section
variable {prog : Program} {w : World} {A : Around} {E : Value → Shared → Prop} {s : Shared} {S : Addr} {ks : List Str}
theorem in_froz_at {k : Str} {tk : Tok} {Q : Value → Shared → Prop} (hS : SetAt w s.heap S "frozenset" ks) (hsz : ks.length < 64)
    (h : ∀ t, Q (.bool (decide (k ∈ ks))) { s with toks := t }) : wpAny (model prog w) A (compareOp .In (.str k tk) (.ref S)) Q E s := by
  obtain ⟨o, ho, es, ep, t, rfl, W⟩ := hS
  have hT : s.TypeIs (.ref S) "frozenset" := ⟨_, ho, rfl⟩
  have hkey : (KStr prog w).is k (.str k tk) = true := strKind_is prog w k tk
  have hlen : es.size = ks.length := by rw [← W.els.length, Array.length_toList]
  have hmem : ∀ k, decide (k ∈ ks) = true ↔ ∃ e ∈ es.toList, (KStr prog w).is k e.2 = true := fun k => by rw [decide_eq_true_eq]; exact W.els.mem k
  refine wpAny_bind (m := contains (.ref S) (.str k tk)) ?_
  unfold contains
  refine wpAny_holding (wpAny_bind (wpAny_specialOf hT PySem.W.FB.slot_frozenset_contains.lookup ?_))
  refine wpAny_bind (wpAny_callSpecialUnlessNone?_slot (name := Str.ofString "__contains__") hT PySem.W.FB.slot_frozenset_contains
    (wpAny_call_entry PySem.W.FB.slot_frozenset_contains hT PySem.W.FB.entry_frozenset_contains ?_ (PySem.W.FB.args_frozenset_contains_2 _ _)))
  unfold Builtin.«frozenset.__contains__»
  refine wpAny_bind (m := Builtin.Frozenset.oneOther "__contains__" _) (wpAny_pure ?_)
  dsimp only
  unfold Builtin.Frozenset.withSetAsKey setContains
  refine wpAny_bind (wpAny_tryCatch (wpAny_holding (wpAny_bind ((KStr prog w).pyHash hkey ?_))))
  refine wpAny_bind (setFind_any (S := fun k => decide (k ∈ ks)) hkey rfl ho rfl W.els.elems hmem (by unfold scanBound; omega) W.fits fun r hr => ?_)
  refine wpAny_pure ?_
  show wpAny _ _ (ret (Value.bool r.isSome)) _ _ _
  rw [hr]
  exact wpAny_pure ⟨_, rfl, wpAny_truthy_bool (wpAny_pure (h _))⟩
theorem len_body_froz {Q : Value → Shared → Prop} (hS : SetAt w s.heap S "frozenset" ks) (hsz : ks.length < 64)
    (h : Q (.int ks.length (s.toks + 1)) { s with toks := s.toks + 1 + 1 }) : wpAny (model prog w) A (Builtin.«len» ⟨[.ref S], []⟩) (fun fin s' => ∃ r, fin = .done (.ret r) ∧ Q r s') E s := by
  obtain ⟨o, ho, es, ep, t, rfl, W⟩ := hS
  have hT : s.TypeIs (.ref S) "frozenset" := ⟨_, ho, rfl⟩
  have hlen : es.size = ks.length := by rw [← W.els.length, Array.length_toList]
  unfold Builtin.«len»
  refine wpAny_bind (m := oneArg "len" _) (wpAny_pure ?_)
  refine wpAny_bind (m := callSpecial? (.ref S) (Str.ofString "__len__")) (wpAny_callSpecial?_slot (name := Str.ofString "__len__") hT slot_frozenset_len
    (wpAny_call_entry slot_frozenset_len hT entry_frozenset_len ?_ (args_frozenset_len_1 _)))
  unfold Builtin.«frozenset.__len__»
  refine wpAny_bind (m := Builtin.Frozenset.slot0 "__len__" _) (wpAny_pure ?_)
  unfold Builtin.Frozenset.sizeOf
  refine wpAny_bind (wpAny_bind (wpAny_setEntries_of ho rfl W.fits (wpAny_pure ?_)))
  show wpAny _ _ (retInt _) _ _ _
  unfold retInt
  refine wpAny_bind (wpAny_mkInt (wpAny_pure ⟨_, rfl, ?_⟩))
  refine wpAny_bind (wpAny_holding (wpAny_pure ?_))
  refine wpAny_bind (wpAny_letGo ?_)
  show wpAny _ _ (if ((es.size : Nat) : Int) < 0 then _ else _) _ _ _
  rw [if_neg (by omega)]
  show wpAny _ _ (if ((es.size : Nat) : Int) ≥ 2 ^ 63 then _ else _) _ _ _
  rw [if_neg (by omega), hlen]
  exact wpAny_bind (wpAny_mkInt (wpAny_pure ⟨_, rfl, h⟩))
theorem len_froz {Q : Value → Shared → Prop} (hS : SetAt w s.heap S "frozenset" ks) (hsz : ks.length < 64)
    (h : Q (.int ks.length (s.toks + 1)) { s with toks := s.toks + 1 + 1 }) : wpAny (model prog w) A (call (.builtin "len") [.ref S]) Q E s :=
  Calls.call_function_entry kind_len plain_len entry_len (args_len1 _) (len_body_froz hS hsz h)
theorem truthy_froz {Q : Bool → Shared → Prop} (hS : SetAt w s.heap S "frozenset" ks) (hsz : ks.length < 64)
    (h : ∀ t, Q (decide (0 < ks.length)) { s with toks := t }) : wpAny (model prog w) A (truthy (.ref S)) Q E s := by
  have hT : s.TypeIs (.ref S) "frozenset" := by obtain ⟨o, ho, x⟩ := hS; exact ⟨o, ho, x.cls_⟩
  have key : wpAny (model prog w) A (runValue (.builtin "len" ⟨[.ref S], []⟩)) (fun r s' => ∃ t, r = .int ks.length t ∧ Q (decide (0 < ks.length)) s') E s := by
    refine wpAny_runValue (codeAny_builtin entry_len ?_)
    rw [Around.under_plainId plain_len _]
    exact wpAny_mono (len_body_froz (Q := fun r s' => ∃ t, r = .int ks.length t ∧ Q (decide (0 < ks.length)) s') hS hsz ⟨_, rfl, h _⟩)
      (fun fin s' h' => by obtain ⟨r, rfl, hq⟩ := h'; exact hq) fun _ _ e => e
  have e : ((ks.length : Int) != 0) = decide (0 < ks.length) := by
    cases ks with
    | nil => rfl
    | cons a l => simp; omega
  unfold truthy
  first
    | refine wpAny_bind (wpAny_callSpecial?_none (name := Str.ofString "__bool__") hT noBool_froz ?_)
    | refine wpAny_bind (wpAny_pure (wpAny_bind (wpAny_callSpecial?_none (name := Str.ofString "__bool__") hT noBool_froz ?_)))
  first
    | refine wpAny_bind (wpAny_specialOf (name := Str.ofString "__len__") hT slot_frozenset_len.lookup ?_)
    | refine wpAny_bind (wpAny_pure (wpAny_bind (wpAny_specialOf (name := Str.ofString "__len__") hT slot_frozenset_len.lookup ?_)))
  have fin : ∀ r s', (∃ t, r = Value.int ks.length t ∧ Q (decide (0 < ks.length)) s') → ∃ t, r = Value.int ks.length t ∧ Q ((ks.length : Int) != 0) s' := fun r s' h' => by rw [e]; exact h'
  first
    | exact wpAny_bind (wpAny_mono key (fun r s' h' => by obtain ⟨t, rfl, hq⟩ := fin r s' h'; exact wpAny_pure hq) fun _ _ e => e)
    | exact wpAny_bind (wpAny_pure (wpAny_bind (wpAny_mono key (fun r s' h' => by obtain ⟨t, rfl, hq⟩ := fin r s' h'; exact wpAny_pure hq) fun _ _ e => e)))
end
end Et
end
section
open PySem PySem.W PySem.Calls PyProof.Rows
set_option Elab.async false
theorem Et.fresh_22 {M : Model} {A : Around} {E : Value → Shared → Prop} {s : Shared} {env : Env} {Q : Flow → Shared → Prop} (h : Q .next s) : wpAny M A (execs [] env) Q E s := by
  w_top off
  first | (walk1; exact h) | exact wpAny_execs_nil h
set_option maxRecDepth 100000
namespace Et
section
variable {prog : Program} {w : World} {A : Around} {E : Value → Shared → Prop} {s : Shared} {g : Heap} {L S : Addr} {m : Str → Option Value} {news : List (Addr × Obj)} {oS : Obj} {ks : List Str}
theorem SetO.at {h : Heap} (N : News g L h news) (hm : (S, oS) ∈ news) (hS : SetO w oS "frozenset" ks) : SetAt w h S "frozenset" ks := ⟨_, (N _ hm).1, hS⟩
theorem in_own {k : Str} {tk : Tok} {Q : Value → Shared → Prop} (N : News g L s.heap news) (hm : (S, oS) ∈ news) (hS : SetO w oS "frozenset" ks) (hsz : ks.length ≤ 20)
    (h : ∀ t, Q (.bool (decide (k ∈ ks))) { s with toks := t }) : wpAny (model prog w) A (compareOp .In (.str k tk) (.ref S)) Q E s := in_froz_at (hS.at N hm) (by omega) h
theorem len_own {Q : Value → Shared → Prop} (N : News g L s.heap news) (hm : (S, oS) ∈ news) (hS : SetO w oS "frozenset" ks) (hsz : ks.length ≤ 20)
    (h : ∀ t t', Q (.int ks.length t) { s with toks := t' }) : wpAny (model prog w) A (call (.builtin "len") [.ref S]) Q E s := len_froz (hS.at N hm) (by omega) (h _ _)
theorem truthy_froz_own {Q : Bool → Shared → Prop} (N : News g L s.heap news) (hm : (S, oS) ∈ news) (hS : SetO w oS "frozenset" ks) (hsz : ks.length ≤ 20)
    (h : ∀ t, Q (decide (0 < ks.length)) { s with toks := t }) : wpAny (model prog w) A (truthy (.ref S)) Q E s := truthy_froz (hS.at N hm) (by omega) h
theorem args_iter1 (a : Value) : argsOk "iter" ⟨[a], []⟩ := by unfold argsOk; kernel_rfl
/-- where an iterator over a set stands -/
def IterOut (prog : Program) (w : World) (h₀ : Heap) (S : Addr) (ks : List Str) (r : Value) (h : Heap) : Prop :=
  ∃ (I : Addr) (fp : List Addr) (xs : List Value) (ss : List Str) (St : Nat → Heap → Prop), r = .ref I ∧ StrsAre xs ss ∧ ss.Perm ks ∧ h₀.get? I = none ∧ (∀ b ∈ fp, b = S ∨ h₀.get? b = none) ∧
    (∀ A' : Around, A'.handled = none → Walks prog w A' I fp [I] xs.length (fun i v => xs[i]? = some v) St) ∧ St 0 h ∧ ∃ o, h.get? I = some o ∧ o.cls = .type "set_iterator"
theorem iter_own {Q : Value → Shared → Prop} (F : Fr g L s.heap m) (N : News g L s.heap news) (hm : (S, oS) ∈ news) (hS : SetO w oS "frozenset" ks) (hsz : ks.length ≤ 20)
    (h : ∀ r h' d, Fr g L h' m → News g L h' news → IterOut prog w s.heap S ks r h' → Q r { s with heap := h', drawn := d }) : wpAny (model prog w) A (call (.builtin "iter") [.ref S]) Q E s := by
  refine call_function_entry (by decide +kernel) (by decide +kernel) kdk_entry_iter (args_iter1 _) ?_
  unfold Builtin.«iter»
  refine wpAny_bind (m := someArgs "iter" 1 2 _) (wpAny_pure ?_)
  refine wpAny_bind (pyIter_set (.inr rfl) (hS.at N hm) (by omega) fun h' d I fp xs ss St q1 q2 q3 q4 q5 q6 q6b q7 q8 q9 => ?_)
  have fresh : ∀ b, s.heap.objs.size ≤ b → s.heap.get? b = none := fun b hb => by
    cases q : s.heap.get? b with
    | none => rfl
    | some o => exact absurd (Heap.lt_size q) (Nat.not_lt.mpr hb)
  exact wpAny_pure ⟨_, rfl, h _ _ _ (Fr.same F q1) (News.same N q1) ⟨I, fp, xs, ss, St, rfl, q2, q3, fresh _ q6, fun b hb => (q5 b hb).imp id fun x => fresh _ x.1, q7, q8, q9 _ _ q8⟩⟩
end
local macro_rules | `(tactic| walk_at "call builtin:iter") => `(tactic| (k_here; k_dflt (refine' iter_own ?F ?N ?m ?S ?l ?_; (case F => k_asm); (case N => k_asm); (case m => k_mem); (case S => assumption); (case l => assumption)); intro r' h' d' F' N' IT'))
local macro_rules | `(tactic| walk_at "call builtin:len") => `(tactic| (k_here; k_dflt (refine' len_own ?N ?m ?S ?l ?_; (case N => k_asm); (case m => k_mem); (case S => assumption); (case l => assumption)); intro t1 t2))
theorem below_hide {h h' : Heap} {L' : Addr} {m : Str → Option Value} {news : List (Addr × Obj)} (F : Fr (hideAll h (news.map (·.1))) L' h' m) (N : News (hideAll h (news.map (·.1))) L' h' news) {b : Addr} (e : h'.get? b = none) : h.get? b = none := by
  cases q : h.get? b with
  | none => rfl
  | some o =>
    by_cases hb : b ∈ news.map (·.1)
    · obtain ⟨p, hp, rfl⟩ := List.mem_map.mp hb
      rw [(N p hp).1] at e; cases e
    · have := F.keep _ _ (hideAll_get _ q hb)
      rw [this] at e; cases e
theorem IterOut.below {prog : Program} {w : World} {h₁ h₂ h : Heap} {S : Addr} {ks : List Str} {r : Value} (x : IterOut prog w h₁ S ks r h) (k : ∀ b, h₁.get? b = none → h₂.get? b = none) : IterOut prog w h₂ S ks r h :=
  let ⟨I, fp, xs, ss, St, a1, a2, a3, a4, a5, a6⟩ := x
  ⟨I, fp, xs, ss, St, a1, a2, a3, k _ a4, fun b hb => (a5 b hb).imp id (k b), a6⟩
abbrev tagsN (prm : Params) (x dx fs fw : Addr) (oF oW : Obj) (star : Bool) (t1 t2 t3 : Tok) : List (Addr × Obj) := [(x, instObj 140 dx), (dx, tagsD prm fs fw star t1 t2 t3), (fs, oF), (fw, oW)]
theorem kept_all {h h₂ : Heap} {base : Heap} {L : Addr} {news : List (Addr × Obj)} (N : News base L h news) (k : ∀ b o, b ∉ news.map (·.1) → h.get? b = some o → h₂.get? b = some o) (k2 : ∀ p ∈ news, h₂.get? p.1 = some p.2) : ∀ b o, h.get? b = some o → h₂.get? b = some o := fun b o e => by
  by_cases hb : b ∈ news.map (·.1)
  · obtain ⟨p, hp, rfl⟩ := List.mem_map.mp hb
    rw [k2 p hp, ← e]
    exact (N p hp).1.symm
  · exact k b o hb e
set_option maxHeartbeats 2000000 in
theorem iter_c {w : World} {dp un : Nat} {gd : Option (List Code)} {cn : Str} {cs : Scope} {L a : Addr} {ccd : Value} {cl : List (Str × Addr)} {outer : List Env}
    {A₀ : Around} {base h₀ : Heap} {m : Str → Option Value} {s : Shared} {p : Program} {loose : List Str} {mean : ExcName → Option Value} {mg mb : Str → Option Value}
    {x dx fs fw : Addr} {oF oW : Obj} {ks : List Str} {t1 t2 t3 : Tok} {star : Bool}
    (B : Below A₀ base outer h₀) (F : Fr h₀ L s.heap m) (X : (Et.hd.heap_39 w.params).In h₀) (Tp : Top p loose mean mg mb h₀) (hk : cs.kind = .function)
    (N : News h₀ L s.heap (tagsN w.params x dx fs fw oF oW star t1 t2 t3)) (hF : SetO w oF "frozenset" ks) (lF : ks.length ≤ 20)
    (hd : dp + 40 < 1000) (hu : un + 200 < cLine) :
    wpAny (model PySem.Challenge.rw_ez0423_01.row.prog w) (top dp un gd cn cs L a ccd cl outer) (call (.ref 123) [.ref x])
      (fun r s' => After [] s s' ∧ IterOut PySem.Challenge.rw_ez0423_01.row.prog w s.heap fs ks r s'.heap) (fun _ _ => False) s := by
  revert X; k_fill; intro X
  refine wpAny_call ?_
  refine codeAny_mono (R := fun r s' => match r with
      | .ok (.ret v) => (∀ b o, b ∉ (tagsN w.params x dx fs fw oF oW star t1 t2 t3).map (·.1) → s.heap.get? b = some o → s'.heap.get? b = some o) ∧ (s'.gens = s.gens ∧ s'.os = s.os ∧ (∀ p ∈ tagsN w.params x dx fs fw oF oW star t1 t2 t3, s'.heap.get? p.1 = some p.2) ∧ IterOut PySem.Challenge.rw_ez0423_01.row.prog w s.heap fs ks v s'.heap)
      | _ => False) ?_ (fun r s' h => ?_)
  · k_dflt (refine' enterG ?k1 ?k2 ?k3 ?k4 ?k5 ?kA ?kF ?kK ?k6 ?k7 ?k8 ?k9 ?kB ?_ ?c2 ?c3 ?c4 ?c5; (case kA => exact rfl); (case kF => exact rfl); (case kK => assumption); (case k1 => k_asm); (case k2 => k_asm); (case k3 => k_asm); (case k4 => k_asm); (case k5 => k_asm); (case k6 => k_is); (case k7 => k_is); (case k8 => (simp only [recursionLimit]; omega)); (case k9 => exact BindsTo.of_eq rfl); (case c5 => decide); (case kB => exact locs rfl); (case c2 => exact rfl); (case c3 => exact rfl); (case c4 => exact rfl); k_whole)
    intro g L' h' hg F' N' B' X' T'
    dsimp only
    show wpAny _ _ _ _ _ _
    have bel : ∀ b, h'.get? b = none → s.heap.get? b = none := fun b => by subst hg; exact below_hide (news := tagsN w.params x dx fs fw oF oW star t1 t2 t3) F' N'
    clear hg B F Tp X
    clear N
    try k_fold
    k_steps
    rename News _ _ _ _ => nE
    rename Fr _ _ _ _ => fE
    rename IterOut _ _ _ _ _ _ _ => iE
    exact ⟨_, _, fE, rfl, rfl, fun p hp => (nE p hp).1, iE.below bel⟩
  · split at h
    · exact ⟨⟨h.2.1, h.2.2.1, fun b o _ => kept_all N h.1 h.2.2.2.1 b o⟩, h.2.2.2.2⟩
    · exact h.elim
section
variable {prog : Program} {w : World} {A : Around} {E : Value → Shared → Prop} {s : Shared} {g : Heap} {L S O : Addr} {m : Str → Option Value} {news : List (Addr × Obj)} {gg : Obj → List (Addr × Obj)} {oS oO : Obj} {ks ko : List Str}
theorem nodup_le : ∀ {l k : List Str}, l.Nodup → (∀ x ∈ l, x ∈ k) → l.length ≤ k.length
  | [], _, _, _ => Nat.zero_le _
  | x :: l, k, hn, h => by
    have hx := h x (.head _)
    have := nodup_le (l := l) (k := k.erase x) (List.nodup_cons.mp hn).2 fun y hy => by
      have hne : y ≠ x := fun e => (List.nodup_cons.mp hn).1 (e ▸ hy)
      exact (List.mem_erase_of_ne hne).mpr (h y (.tail _ hy))
    rw [List.length_erase_of_mem hx] at this
    have pos : 0 < k.length := List.length_pos_of_mem hx
    rw [List.length_cons]; omega
theorem SetO.nodup {o : Obj} {cls : String} (h : SetO w o cls ks) : ks.Nodup := let ⟨_, _, _, _, W⟩ := h; W.nodup
theorem not_in {a : Addr} (l : ∀ p ∈ news, p.1 < a) : a ∉ news.map (·.1) := fun h => by
  obtain ⟨p, hp, e⟩ := List.mem_map.mp h
  exact absurd (l p hp) (by rw [e]; exact Nat.lt_irrefl _)
theorem set_froz_own {Q : Value → Shared → Prop} (F : Fr g L s.heap m) (N : News g L s.heap news) (hm : (O, oO) ∈ news) (hS : SetO w oO "frozenset" ko) (hsz : ko.length ≤ 10)
    (h : ∀ a h' d o ks, Fr g L h' m → News g L h' ((a, o) :: news) → SetO w o "set" ks → (∀ x, x ∈ ks ↔ x ∈ ko) → ks.length ≤ ko.length → (∀ p ∈ news, p.1 < a) → Q (.ref a) { s with heap := h', drawn := d }) :
    wpAny (model prog w) A (call (.type "set") [.ref O]) Q E s :=
  call_set_froz (hS.at N hm) (by omega) fun h' d ks q1 ⟨o, q2, q3⟩ q4 =>
    h _ h' d o ks (Fr.same F q1) (News.more F N q1 q2 (none_size _)) q3 q4 (nodup_le q3.nodup fun x hx => (q4 x).mp hx) fun p hp => Heap.lt_size (N p hp).1
theorem update_method_own {pl : Sem Bool} {Q : Value × List Value → Shared → Prop} (N : News g L s.heap news) (hm : (S, oS) ∈ news) (hS : SetO w oS "set" ks) (h : Q (.builtin "set.update", [.ref S]) s) :
    wpAny (model prog w) A (getMethod (.ref S) "update" pl) Q E s := getMethod_set_update ⟨_, (N _ hm).1, hS⟩ h
theorem update_own {Q : Value → Shared → Prop} (F : Fr g L s.heap m) (N : News g L s.heap news) (U : UpdF S oS news gg) (hm : (O, oO) ∈ news) (hne : S ≠ O) (hS : SetO w oS "set" ks) (hO : SetO w oO "frozenset" ko) (l1 : ks.length ≤ 7) (l2 : ko.length ≤ 7)
    (h : ∀ h' d o ks', Fr g L h' m → News g L h' (gg o) → SetO w o "set" ks' → (∀ x, x ∈ ks' ↔ x ∈ ks ∨ x ∈ ko) → Q .none { s with heap := h', drawn := d }) :
    wpAny (model prog w) A (call (.builtin "set.update") [.ref S, .ref O]) Q E s := by
  obtain ⟨pre, post, rfl, hg, q1, q2⟩ := U.split
  have z := N (S, oS) (List.mem_append.mpr (.inr (.head _)))
  refine call_set_update hne ⟨_, z.1, hS⟩ (hO.at N hm) (by omega) fun h' d ks' r1 ⟨o, r2, r3⟩ r4 => ?_
  exact h h' d o ks' (F.change r1 z.2.1 z.2.2) (by rw [hg]; exact news_set N q1 q2 r1 r2) r3 r4
end
local macro_rules | `(tactic| walk_at "call type:set") => `(tactic| (k_here; k_dflt (refine' set_froz_own ?F ?N ?m ?S ?l ?_; (case F => k_asm); (case N => k_asm); (case m => k_mem); (case S => assumption); (case l => omega)); intro a' h' d' o' ks' F' N' S' M' W' l1; have lx := not_in l1; k_lt l1))
local macro_rules | `(tactic| walk_at "getMethod ref") => `(tactic| (k_here; (with_reducible show wpAny _ _ (getMethod (Value.ref _) (PySem.Str.ofString "update") _) _ _ _); k_dflt (refine' update_method_own ?N ?m ?S ?_; (case N => k_asm); (case m => k_mem); (case S => assumption))))
local macro_rules | `(tactic| walk_at "call builtin:set.update") => `(tactic| (k_here; k_dflt (refine' update_own ?F ?N ?U ?m ?ne ?S ?O ?l1 ?l2 ?_; (case F => k_asm); (case N => k_asm); (case U => k_updF); (case m => k_mem); (case ne => k_ne); (case S => assumption); (case O => assumption); (case l1 => omega); (case l2 => omega)); intro h' d' o' ks' F' N' S' M'))
theorem mem_or {a b c d : List Str} (h : ∀ x, x ∈ b ↔ x ∈ c) (h' : ∀ x, x ∈ a ↔ x ∈ b ∨ x ∈ d) : ∀ x, x ∈ a ↔ x ∈ c ++ d := fun x => by rw [h' x, h x, List.mem_append]
/-- a fresh set of these texts -/
def AsSet (w : World) (h₀ h : Heap) (k : List Str) (r : Value) : Prop := ∃ S ks', r = .ref S ∧ SetAt w h S "set" ks' ∧ (∀ y, y ∈ ks' ↔ y ∈ k) ∧ h₀.get? S = none
set_option maxHeartbeats 2000000 in
theorem asset_0 {w : World} {dp un : Nat} {gd : Option (List Code)} {cn : Str} {cs : Scope} {L a : Addr} {ccd : Value} {cl : List (Str × Addr)} {outer : List Env}
    {A₀ : Around} {base h₀ : Heap} {m : Str → Option Value} {s : Shared} {p : Program} {loose : List Str} {mean : ExcName → Option Value} {mg mb : Str → Option Value}
    {x dx fs fw : Addr} {oF oW : Obj} {ks kw : List Str} {t1 t2 t3 : Tok} {star : Bool}
    (B : Below A₀ base outer h₀) (F : Fr h₀ L s.heap m) (X : (Et.hd.heap_39 w.params).In h₀) (Tp : Top p loose mean mg mb h₀) (hk : cs.kind = .function)
    (N : News h₀ L s.heap (tagsN w.params x dx fs fw oF oW star t1 t2 t3)) (hF : SetO w oF "frozenset" ks) (hW : SetO w oW "frozenset" kw) (lF : ks.length ≤ 7) (lW : kw.length ≤ 7)
    (hd : dp + 40 < 1000) (hu : un + 200 < cLine) :
    wpAny (model PySem.Challenge.rw_ez0423_01.row.prog w) (top dp un gd cn cs L a ccd cl outer) (call (.ref 54) [.ref x])
      (fun r s' => After [] s s' ∧ AsSet w s.heap s'.heap ks r) (fun _ _ => False) s := by
  revert X; k_fill; intro X
  refine wpAny_call ?_
  refine codeAny_mono (R := fun r s' => match r with
      | .ok (.ret v) => (∀ b o, b ∉ (tagsN w.params x dx fs fw oF oW star t1 t2 t3).map (·.1) → s.heap.get? b = some o → s'.heap.get? b = some o) ∧ (s'.gens = s.gens ∧ s'.os = s.os ∧ (∀ p ∈ tagsN w.params x dx fs fw oF oW star t1 t2 t3, s'.heap.get? p.1 = some p.2) ∧ AsSet w s.heap s'.heap ks v)
      | _ => False) ?_ (fun r s' h => ?_)
  · k_dflt (refine' enterG ?k1 ?k2 ?k3 ?k4 ?k5 ?kA ?kF ?kK ?k6 ?k7 ?k8 ?k9 ?kB ?_ ?c2 ?c3 ?c4 ?c5; (case kA => exact rfl); (case kF => exact rfl); (case kK => assumption); (case k1 => k_asm); (case k2 => k_asm); (case k3 => k_asm); (case k4 => k_asm); (case k5 => k_asm); (case k6 => k_is); (case k7 => k_is); (case k8 => (simp only [recursionLimit]; omega)); (case k9 => first | exact BindsTo.of_eq rfl | exact binds_K (by k_in) rfl (by k_is) rfl rfl rfl); (case c5 => decide); (case kB => exact locs rfl); (case c2 => exact rfl); (case c3 => exact rfl); (case c4 => exact rfl); k_whole)
    intro g L' h' hg F' N' B' X' T'
    dsimp only
    show wpAny _ _ _ _ _ _
    have bel : ∀ b, g.get? b = none → b ∉ (tagsN w.params x dx fs fw oF oW star t1 t2 t3).map (·.1) → s.heap.get? b = none := fun b e hb => by
      subst hg
      cases q : s.heap.get? b with
      | none => rfl
      | some o => rw [hideAll_get _ q hb] at e; cases e
    clear hg B F Tp X
    clear N
    try k_fold
    k_steps
    all_goals (rename News _ _ _ _ => nE; rename Fr _ _ _ _ => fE)
    all_goals show End _ _ _ _
    all_goals exact ⟨_, _, fE, rfl, rfl, fun p hp => (nE p (.tail _ hp)).1, _, _, rfl, ⟨_, (nE _ (.head _)).1, by assumption⟩, by assumption, bel _ (nE _ (.head _)).2.2 (by assumption)⟩
  · split at h
    · exact ⟨⟨h.2.1, h.2.2.1, fun b o _ => kept_all N h.1 h.2.2.2.1 b o⟩, h.2.2.2.2⟩
    · exact h.elim
set_option maxHeartbeats 2000000 in
theorem asset_1 {w : World} {dp un : Nat} {gd : Option (List Code)} {cn : Str} {cs : Scope} {L a : Addr} {ccd : Value} {cl : List (Str × Addr)} {outer : List Env}
    {A₀ : Around} {base h₀ : Heap} {m : Str → Option Value} {s : Shared} {p : Program} {loose : List Str} {mean : ExcName → Option Value} {mg mb : Str → Option Value}
    {x dx fs fw : Addr} {oF oW : Obj} {ks kw : List Str} {t1 t2 t3 : Tok} {star : Bool}
    (B : Below A₀ base outer h₀) (F : Fr h₀ L s.heap m) (X : (Et.hd.heap_39 w.params).In h₀) (Tp : Top p loose mean mg mb h₀) (hk : cs.kind = .function)
    (N : News h₀ L s.heap (tagsN w.params x dx fs fw oF oW star t1 t2 t3)) (hF : SetO w oF "frozenset" ks) (hW : SetO w oW "frozenset" kw) (lF : ks.length ≤ 7) (lW : kw.length ≤ 7)
    (hd : dp + 40 < 1000) (hu : un + 200 < cLine) :
    wpAny (model PySem.Challenge.rw_ez0423_01.row.prog w) (top dp un gd cn cs L a ccd cl outer) (call (.ref 54) [.ref x, .bool true])
      (fun r s' => After [] s s' ∧ AsSet w s.heap s'.heap (ks ++ kw) r) (fun _ _ => False) s := by
  revert X; k_fill; intro X
  refine wpAny_call ?_
  refine codeAny_mono (R := fun r s' => match r with
      | .ok (.ret v) => (∀ b o, b ∉ (tagsN w.params x dx fs fw oF oW star t1 t2 t3).map (·.1) → s.heap.get? b = some o → s'.heap.get? b = some o) ∧ (s'.gens = s.gens ∧ s'.os = s.os ∧ (∀ p ∈ tagsN w.params x dx fs fw oF oW star t1 t2 t3, s'.heap.get? p.1 = some p.2) ∧ AsSet w s.heap s'.heap (ks ++ kw) v)
      | _ => False) ?_ (fun r s' h => ?_)
  · k_dflt (refine' enterG ?k1 ?k2 ?k3 ?k4 ?k5 ?kA ?kF ?kK ?k6 ?k7 ?k8 ?k9 ?kB ?_ ?c2 ?c3 ?c4 ?c5; (case kA => exact rfl); (case kF => exact rfl); (case kK => assumption); (case k1 => k_asm); (case k2 => k_asm); (case k3 => k_asm); (case k4 => k_asm); (case k5 => k_asm); (case k6 => k_is); (case k7 => k_is); (case k8 => (simp only [recursionLimit]; omega)); (case k9 => first | exact BindsTo.of_eq rfl | exact binds_K (by k_in) rfl (by k_is) rfl rfl rfl); (case c5 => decide); (case kB => exact locs rfl); (case c2 => exact rfl); (case c3 => exact rfl); (case c4 => exact rfl); k_whole)
    intro g L' h' hg F' N' B' X' T'
    dsimp only
    show wpAny _ _ _ _ _ _
    have bel : ∀ b, g.get? b = none → b ∉ (tagsN w.params x dx fs fw oF oW star t1 t2 t3).map (·.1) → s.heap.get? b = none := fun b e hb => by
      subst hg
      cases q : s.heap.get? b with
      | none => rfl
      | some o => rw [hideAll_get _ q hb] at e; cases e
    clear hg B F Tp X
    clear N
    try k_fold
    k_steps
    all_goals (rename News _ _ _ _ => nE; rename Fr _ _ _ _ => fE)
    all_goals show End _ _ _ _
    all_goals exact ⟨_, _, fE, rfl, rfl, fun p hp => (nE p (.tail _ hp)).1, _, _, rfl, ⟨_, (nE _ (.head _)).1, by assumption⟩, mem_or (by assumption) (by assumption), bel _ (nE _ (.head _)).2.2 (by assumption)⟩
  · split at h
    · exact ⟨⟨h.2.1, h.2.2.1, fun b o _ => kept_all N h.1 h.2.2.2.1 b o⟩, h.2.2.2.2⟩
    · exact h.elim
end Et
end
section
open PySem PySem.W PySem.Calls PyProof.Rows
set_option Elab.async false
theorem Et.fresh_23 {M : Model} {A : Around} {E : Value → Shared → Prop} {s : Shared} {env : Env} {Q : Flow → Shared → Prop} (h : Q .next s) : wpAny M A (execs [] env) Q E s := by
  w_top off
  first | (walk1; exact h) | exact wpAny_execs_nil h
set_option maxRecDepth 100000
namespace Et
local macro_rules | `(tactic| walk_at "call builtin:len") => `(tactic| (k_here; k_dflt (refine' len_own ?N ?m ?S ?l ?_; (case N => k_asm); (case m => k_mem); (case S => assumption); (case l => assumption)); intro t1 t2))
set_option maxHeartbeats 2000000 in
theorem len_c {w : World} {dp un : Nat} {gd : Option (List Code)} {cn : Str} {cs : Scope} {L a : Addr} {ccd : Value} {cl : List (Str × Addr)} {outer : List Env}
    {A₀ : Around} {base h₀ : Heap} {m : Str → Option Value} {s : Shared} {p : Program} {loose : List Str} {mean : ExcName → Option Value} {mg mb : Str → Option Value}
    {x dx fs fw : Addr} {oF oW : Obj} {ks : List Str} {t1 t2 t3 : Tok} {star : Bool}
    (B : Below A₀ base outer h₀) (F : Fr h₀ L s.heap m) (X : (Et.hd.heap_39 w.params).In h₀) (Tp : Top p loose mean mg mb h₀) (hk : cs.kind = .function)
    (N : News h₀ L s.heap (tagsN w.params x dx fs fw oF oW star t1 t2 t3)) (hF : SetO w oF "frozenset" ks) (lF : ks.length ≤ 20)
    (hd : dp + 40 < 1000) (hu : un + 200 < cLine) :
    wpAny (model PySem.Challenge.rw_ez0423_01.row.prog w) (top dp un gd cn cs L a ccd cl outer) (call (.ref 116) [.ref x])
      (fun r s' => After [] s s' ∧ s'.drawn = s.drawn ∧ ∃ t, r = .int ks.length t) (fun _ _ => False) s := by
  revert X; k_fill; intro X
  refine wpAny_call ?_
  refine codeAny_mono (R := fun r s' => match r with
      | .ok (.ret v) => (∀ b o, b ∉ (tagsN w.params x dx fs fw oF oW star t1 t2 t3).map (·.1) → s.heap.get? b = some o → s'.heap.get? b = some o) ∧ (s'.gens = s.gens ∧ s'.os = s.os ∧ (∀ p ∈ tagsN w.params x dx fs fw oF oW star t1 t2 t3, s'.heap.get? p.1 = some p.2) ∧ s'.drawn = s.drawn ∧ ∃ t, v = .int ks.length t)
      | _ => False) ?_ (fun r s' h => ?_)
  · k_dflt (refine' enterG ?k1 ?k2 ?k3 ?k4 ?k5 ?kA ?kF ?kK ?k6 ?k7 ?k8 ?k9 ?kB ?_ ?c2 ?c3 ?c4 ?c5; (case kA => exact rfl); (case kF => exact rfl); (case kK => assumption); (case k1 => k_asm); (case k2 => k_asm); (case k3 => k_asm); (case k4 => k_asm); (case k5 => k_asm); (case k6 => k_is); (case k7 => k_is); (case k8 => (simp only [recursionLimit]; omega)); (case k9 => exact BindsTo.of_eq rfl); (case c5 => decide); (case kB => exact locs rfl); (case c2 => exact rfl); (case c3 => exact rfl); (case c4 => exact rfl); k_whole)
    intro g L' h' hg F' N' B' X' T'
    dsimp only
    show wpAny _ _ _ _ _ _
    clear hg B F Tp X
    clear N
    try k_fold
    k_steps
    rename News _ _ _ _ => nE
    rename Fr _ _ _ _ => fE
    exact ⟨_, _, fE, rfl, rfl, fun p hp => (nE p hp).1, rfl, _, rfl⟩
  · split at h
    · exact ⟨⟨h.2.1, h.2.2.1, fun b o _ => kept_all N h.1 h.2.2.2.1 b o⟩, h.2.2.2.2⟩
    · exact h.elim

theorem find_call {w : World} : findIn (Et.hd.heap_39 w.params) (.ref 140) "__call__" = some (some (.ref 95)) := by k_is
theorem fn_call {w : World} : isFn (Et.hd.heap_39 w.params) (.ref 95) = true := by k_is
theorem fnIn_call {w : World} : fnIn (Et.hd.heap_39 w.params) 95 = true := by k_is
theorem find_iter {w : World} : findIn (Et.hd.heap_39 w.params) (.ref 140) "__iter__" = some (some (.ref 123)) := by k_is
theorem find_len {w : World} : findIn (Et.hd.heap_39 w.params) (.ref 140) "__len__" = some (some (.ref 116)) := by k_is
theorem fn_iter {w : World} : isFn (Et.hd.heap_39 w.params) (.ref 123) = true := by k_is
theorem fn_len {w : World} : isFn (Et.hd.heap_39 w.params) (.ref 116) = true := by k_is

section
variable {w : World} {dp un : Nat} {gd : Option (List Code)} {cn : Str} {cs : Scope} {L a : Addr} {ccd : Value} {cl : List (Str × Addr)} {outer : List Env}
    {A₀ : Around} {base h₀ : Heap} {m : Str → Option Value} {s : Shared} {p : Program} {loose : List Str} {mean : ExcName → Option Value} {mg mb : Str → Option Value}
    {x dx fs fw : Addr} {oF oW : Obj} {ks kw : List Str} {t1 t2 t3 : Tok} {star : Bool}
theorem pyIter_tags {Q : Value → Shared → Prop} {E : Value → Shared → Prop} (B : Below A₀ base outer h₀) (F : Fr h₀ L s.heap m) (X : (Et.hd.heap_39 w.params).In h₀) (Tp : Top p loose mean mg mb h₀) (hk : cs.kind = .function)
    (N : News h₀ L s.heap (tagsN w.params x dx fs fw oF oW star t1 t2 t3)) (hF : SetO w oF "frozenset" ks) (lF : ks.length ≤ 20)
    (hd : dp + 40 < 1000) (hu : un + 200 < cLine)
    (h : ∀ r s', After [] s s' → IterOut PySem.Challenge.rw_ez0423_01.row.prog w s.heap fs ks r s'.heap → Q r s') :
    wpAny (model PySem.Challenge.rw_ez0423_01.row.prog w) (top dp un gd cn cs L a ccd cl outer) (pyIter (.ref x)) Q E s := by
  refine owit_iter F X (InstAt.of_news N (.head _) (.tail _ (.head _))) find_iter fn_iter ?_
  refine wpAny_mono (iter_c B F X Tp hk N hF lF hd hu) (fun r s' hr => ?_) fun _ _ e => e.elim
  obtain ⟨aft, it⟩ := hr
  obtain ⟨I, fp, xs, ss, St, rfl, a2, a3, a4, a5, a6, a7, oI, a8, a9⟩ := id it
  unfold OwitIt
  exact wpAny_specialOf (T := "set_iterator") ⟨oI, a8, a9⟩ slot_setit_next.lookup (h _ s' aft it)
theorem hint_tags {Q : Bool → Shared → Prop} {E : Value → Shared → Prop} (B : Below A₀ base outer h₀) (F : Fr h₀ L s.heap m) (X : (Et.hd.heap_39 w.params).In h₀) (Tp : Top p loose mean mg mb h₀) (hk : cs.kind = .function)
    (N : News h₀ L s.heap (tagsN w.params x dx fs fw oF oW star t1 t2 t3)) (hF : SetO w oF "frozenset" ks) (lF : ks.length ≤ 20)
    (hd : dp + 50 < 1000) (hu : un + 210 < cLine)
    (h : ∀ b s', After [] s s' → s'.drawn = s.drawn → Q b s') :
    wpAny (model PySem.Challenge.rw_ez0423_01.row.prog w) (top dp un gd cn cs L a ccd cl outer) (Builtin.List.listLengthHint (.ref x)) Q E s := by
  have I := InstAt.of_news N (.head _) (.tail _ (.head _))
  unfold Builtin.List.listLengthHint
  refine wpAny_bind (wpAny_bind (I.type.here ((looks_findIn (X.keeps F.keep) find_len).here ?_)))
  show wpAny _ _ (rule "list.length-hint.len" >>= _) _ _ _
  refine wpAny_bind (wpAny_rule ?_)
  refine wpAny_bind (wpAny_attempt ?_)
  refine len_K F X I find_len fn_len ?_
  show wpAny _ (top dp (un + 1) gd cn cs L a ccd cl outer) _ _ _ _
  refine wpAny_mono (len_c B F X Tp hk N hF lF (by omega) (by omega)) (fun r s' hr => ?_) fun _ _ e => e.elim
  obtain ⟨aft, dr, t, rfl⟩ := hr
  refine ⟨⟨by omega, by omega⟩, ?_⟩
  refine wpAny_bind (m := asInt? (.int _ _)) (wpAny_pure ?_)
  dsimp only
  rw [if_neg (by simp [Builtin.List.listTooLong, sizeLine_eq]; omega)]
  exact wpAny_pure (h _ _ ⟨aft.gens, aft.os, aft.keep⟩ dr)

theorem After.same {s s' : Shared} (x : After [] s s') : ∀ b o, s.heap.get? b = some o → s'.heap.get? b = some o := fun b o e => x.keep b o (List.not_mem_nil) e
theorem extend_tags {S : Addr} {c₀ : Nat} {res : Value} {R : Result → Shared → Prop} (B : Below A₀ base outer h₀) (F : Fr h₀ L s.heap m) (X : (Et.hd.heap_39 w.params).In h₀) (Tp : Top p loose mean mg mb h₀) (hk : cs.kind = .function)
    (N : News h₀ L s.heap (tagsN w.params x dx fs fw oF oW star t1 t2 t3)) (hF : SetO w oF "frozenset" ks) (lF : ks.length ≤ 20) (hd : dp + 50 < 1000) (hu : un + 220 < cLine)
    (hS : s.heap.get? S = some { cls := .type "list", data := .seq #[] c₀ }) (hSf : S ≠ fs)
    (hR : ∀ h' tk d xs ss c', (∀ b o, b ≠ S → s.heap.get? b = some o → h'.get? b = some o) → h'.get? S = some { cls := .type "list", data := .seq xs.toArray c' } → StrsAre xs ss → ss.Perm ks → R (.ok (.ret res)) { s with heap := h', toks := tk, drawn := d }) :
    wpAny (model PySem.Challenge.rw_ez0423_01.row.prog w) (top dp un gd cn cs L a ccd cl outer).in1 (Builtin.List.listExtendWith (.ref S) (.ref x) res)
      (fun fin s' => match fin with | .done f => R (.ok f) s' | .again c' => c'.quiet = true ∧ codeAny (model PySem.Challenge.rw_ez0423_01.row.prog w) (top dp un gd cn cs L a ccd cl outer) c' R s') (fun e s' => R (.error e) s') s := by
  have I := InstAt.of_news N (.head _) (.tail _ (.head _))
  have hSx : S ≠ x := fun e => by
    have := (N _ (.head _)).1
    rw [← e, hS] at this; cases this
  unfold Builtin.List.listExtendWith
  refine wpAny_bind (I.type.here ?_)
  have h1 : Builtin.List.listSameRef (.ref S) (.ref x) = false := by simp [Builtin.List.listSameRef, hSx]
  have h2 : (Value.ref 140 == Value.type "list") = false := rfl
  have h3 : (Value.ref 140 == Value.type "tuple") = false := rfl
  simp only [h1, h2, h3, Bool.or_false, Bool.false_eq_true, if_false]
  show wpAny _ (top dp (un + 1) gd cn cs L a ccd cl outer) _ _ _ _
  refine wpAny_bind (pyIter_tags B F X Tp hk N hF lF (by omega) (by omega) fun r s₁ aft it => ?_)
  obtain ⟨I', fp, xs, ss, St, rfl, a2, a3, a4, a5, a6, a7, -⟩ := it
  have F₁ := Fr.same F aft.same
  have N₁ := News.same N aft.same
  refine wpAny_bind (wpAny_holding (hint_tags (s := s₁) B F₁ X Tp hk N₁ hF lF (by omega) (by omega) fun room s₂ aft2 dr => ?_))
  have k2 : ∀ b o, s.heap.get? b = some o → s₂.heap.get? b = some o := fun b o e => aft2.same b o (aft.same b o e)
  have hSf' : S ∉ fp := fun hm => by
    rcases a5 S hm with e | e
    · exact hSf e
    · rw [hS] at e; cases e
  have hst : St 0 s₂.heap := (a6 (top dp un gd cn cs L a ccd cl outer) rfl).frame 0 _ _ a7 fun b _ o e => aft2.same b o e
  have hL1 := k2 S _ hS
  have hxl : xs.length = ks.length := by rw [strs_len a2, a3.length_eq]
  have W := a6 (top dp (un + 1) gd cn cs L a ccd cl outer) rfl
  have eg : s₂.gens = s.gens := aft2.gens.trans aft.gens
  have eo : s₂.os = s.os := aft2.os.trans aft.os
  obtain ⟨h₂, g₂, d₂, tk₂, os₂⟩ := s₂
  dsimp only at eg eo k2 hst hL1 dr
  subst eg; subst eo
  have loop : ∀ (H : Heap) (c : Nat), (∀ b o, b ≠ S → h₂.get? b = some o → H.get? b = some o) → H.get? S = some { cls := .type "list", data := .seq #[] c } →
      codeAny (model PySem.Challenge.rw_ez0423_01.row.prog w) (top dp un gd cn cs L a ccd cl outer) (.builtin "list.extend.loop" ⟨[.ref S, .ref I', res], []⟩) R { s with heap := H, drawn := d₂, toks := tk₂ } := by
    intro H c hk' hLc
    refine codeAny_extend_loopS W.toS (by rw [hxl, sizeLine_eq]; omega) S hSf' res xs.length 0 _ #[] c rfl (Nat.zero_le _)
      (W.frame 0 _ _ hst fun b hb o e => hk' b o (fun e' => hSf' (e' ▸ hb)) e) hLc (ItemsOf.nil _) fun s' acc' c' hm hS' hacc => ?_
    obtain ⟨h', g', d', tk', os'⟩ := s'
    have eg : g' = s.gens := hm.gens
    have ed : d' = d₂ := hm.drawn
    have eo : os' = s.os := hm.os
    subst eg; subst ed; subst eo
    have := items_eq hacc
    subst this
    refine hR h' tk' d' xs ss c' (fun b o hb e => hm.heap b o ?_ (hk' b o hb (k2 b o e))) hS' a2 a3
    intro hmem
    rcases List.mem_cons.mp hmem with e' | e'
    · exact hb e'
    · rw [List.mem_singleton] at e'
      rw [e', a4] at e; cases e
  split
  · refine wpAny_bind (wpAny_rule ?_)
    refine wpAny_bind ?_
    show wpAny _ _ (updateSeq S (·.push .none) >>= fun _ => updateSeq S (·.pop)) _ _ _
    refine wpAny_bind (wpAny_updateSeq hL1 rfl ?_)
    have hS₂ := Heap.get?_update_self (Obj.mapSeq (·.push Value.none)) hL1 rfl
    refine wpAny_updateSeq (hz := by seq_fits) hS₂ rfl ?_
    have hS₃ := Heap.get?_update_self (Obj.mapSeq (·.pop)) hS₂ rfl
    exact wpAny_pure ⟨plainId_quiet PySem.F.plain_extend_loop _, loop _ _ (fun b o hb e => (Heap.get?_update_other _ _ (Ne.symm hb)).trans ((Heap.get?_update_other _ _ (Ne.symm hb)).trans e)) hS₃⟩
  · exact wpAny_pure ⟨plainId_quiet PySem.F.plain_extend_loop _, loop _ _ (fun b o hb e => e) hL1⟩
theorem list_tags {Q : Value → Shared → Prop} {E : Value → Shared → Prop} (B : Below A₀ base outer h₀) (F : Fr h₀ L s.heap m) (X : (Et.hd.heap_39 w.params).In h₀) (Tp : Top p loose mean mg mb h₀) (hk : cs.kind = .function)
    (N : News h₀ L s.heap (tagsN w.params x dx fs fw oF oW star t1 t2 t3)) (hF : SetO w oF "frozenset" ks) (lF : ks.length ≤ 20) (hd : dp + 50 < 1000) (hu : un + 230 < cLine)
    (h : ∀ h' tk d l vs e ss, (∀ b o, s.heap.get? b = some o → h'.get? b = some o) → s.heap.get? l = none → h'.get? l = some (listO vs e) → StrsAre vs ss → ss.Perm ks → Q (.ref l) { s with heap := h', toks := tk, drawn := d }) :
    wpAny (model PySem.Challenge.rw_ez0423_01.row.prog w) (top dp un gd cn cs L a ccd cl outer) (call (.type "list") [.ref x]) Q E s := by
  refine callType_codes (Q₁ := fun obj s₁ => obj = .ref s.heap.objs.size ∧ s₁ = { s with heap := s.heap.push { cls := .type "list", data := .seq #[] } }) PySem.F.called_list (PySem.F.typeCall_list_1 _) PySem.F.entry_list_init
    (code_list_new _ ⟨rfl, rfl⟩) fun obj s₁ h₁ => ?_
  obtain ⟨rfl, rfl⟩ := h₁
  have hS : (s.heap.push { cls := .type "list", data := .seq #[] }).get? s.heap.objs.size = some { cls := .type "list", data := .seq #[] } := Heap.get?_push_size _ rfl
  have kp : ∀ b o, s.heap.get? b = some o → (s.heap.push { cls := .type "list", data := .seq #[] }).get? b = some o := fun b o e => Heap.get?_push_of_some _ e
  refine ⟨⟨_, hS, rfl⟩, PySem.F.args_list_init_2 _ _, ?_⟩
  show wpAny _ _ (do let old ← Builtin.List.listItems (.ref s.heap.objs.size); Builtin.List.listUpdate (.ref s.heap.objs.size) (fun _ => #[]); letGo old.toList.reverse; Builtin.List.listExtendWith (.ref s.heap.objs.size) (.ref x) .none) _ _ _
  refine wpAny_bind ?_
  unfold Builtin.List.listItems
  refine wpAny_bind (wpAny_seqItems hS rfl (wpAny_pure ?_))
  show wpAny _ _ (updateSeq s.heap.objs.size (fun _ => #[]) >>= fun _ => letGo (#[] : Array Value).toList.reverse >>= fun _ => Builtin.List.listExtendWith (.ref s.heap.objs.size) (.ref x) .none) _ _ _
  refine wpAny_bind (wpAny_updateSeq hS rfl ?_)
  have hS₂ := Heap.get?_update_self (Obj.mapSeq (fun _ => (#[] : Array Value))) hS rfl
  have k2 : ∀ b o, s.heap.get? b = some o → ((s.heap.push { cls := .type "list", data := .seq #[] }).update s.heap.objs.size (Obj.mapSeq (fun _ => (#[] : Array Value)))).get? b = some o :=
    fun b o e => (Heap.get?_update_other _ _ (Nat.ne_of_gt (Heap.lt_size e))).trans (kp b o e)
  refine wpAny_bind (wpAny_letGo ?_)
  refine extend_tags (un := un + 1) (R := fun r s' => match r with | .ok (.ret r) => r = .none ∧ Q (.ref s.heap.objs.size) s' | .ok _ => False | .error e => E e s') B (Fr.same F k2) X Tp hk (News.same N k2) hF lF hd (by omega) hS₂ (Nat.ne_of_gt (Heap.lt_size (N _ (.tail _ (.tail _ (.head _)))).1)) fun h' tk d xs ss c' r1 r2 r3 r4 => ?_
  exact ⟨rfl, h h' tk d _ xs c' ss (fun b o e => r1 b o (Nat.ne_of_lt (Heap.lt_size e)) (k2 b o e)) (none_size _) r2 r3 r4⟩
end
end Et
end
section
open PySem PySem.W PySem.Calls PyProof.Rows
set_option Elab.async false
set_option maxRecDepth 100000
namespace Et
open PyProof.Rows.LCg PyProof.Rows.LCp
theorem RowsIn.at {tl : List (Addr × Obj)} {vs : List Value} {rs : List (Str × Bool)} (h : RowsIn tl vs rs) : ∀ (i : Nat) (v : Value), vs[i]? = some v → ∃ a tk e r, v = .ref a ∧ rs[i]? = some r ∧ (a, ({ cls := .type "tuple", data := .seq #[.str r.1 tk, .bool r.2] e } : Obj)) ∈ tl := by
  induction h with
  | nil => intro i v h; simp at h
  | @cons a tk e n b vs rs hm _ ih =>
    intro i v h
    cases i with
    | zero => simp at h; exact ⟨a, tk, e, (n, b), h.symm, rfl, hm⟩
    | succ i => simp at h; simpa using ih i v h
/-- what a comprehension over rows takes of each -/
def told (p : Str × Bool → Bool) (rs : List (Str × Bool)) : List Str := (rs.filter p).map (·.1)
theorem told_snoc {p : Str × Bool → Bool} {rs : List (Str × Bool)} {i : Nat} {r : Str × Bool} (h : rs[i]? = some r) : told p (rs.take (i + 1)) = told p (rs.take i) ++ (if p r then [r.1] else []) := by
  rw [List.take_add_one, h]
  unfold told
  rw [List.filter_append, List.map_append]
  cases q : p r <;> simp [q]
def EltOk (prog : Program) (w : World) (A : Around) (env : Env) (scope : Scope) (x : Str) (elt : Expr) : Prop :=
  ∀ (C : Addr) v s₃ m₃ E', s₃.heap.Ns C m₃ → m₃ x = some v → wpAny (model prog w) A (eval elt (compEnv scope C env)) (fun y s₄ => y = v ∧ Keeps s₃ s₄) E' s₃
def TestOk (prog : Program) (w : World) (A : Around) (env : Env) (scope : Scope) (x₂ : Str) (p : Str × Bool → Bool) (c : Expr) : Prop :=
  ∀ (C : Addr) (r : Str × Bool) s₃ m₃ E', s₃.heap.Ns C m₃ → m₃ x₂ = some (.bool r.2) → wpAny (model prog w) A (isTrue c (compEnv scope C env) (eval c (compEnv scope C env))) (fun ok s₄ => ok = p r ∧ Keeps s₃ s₄) E' s₃
def CompR (prog : Program) (w : World) (A : Around) (env : Env) (scope : Scope) (x x₂ : Str) (elt : Expr) (ifs : List Expr) (Q : Value → Shared → Prop) (xv : Value) (s₁ : Shared) : Prop :=
  ∃ (p : Str × Bool → Bool) (g : Heap) (L : Addr) (m : Str → Option Value) (news : List (Addr × Obj)) (rl : Addr) (vr : List Value) (er : Nat) (rs : List (Str × Bool)),
    xv = .ref rl ∧ Fr g L s₁.heap m ∧ News g L s₁.heap news ∧ (rl, listO vr er) ∈ news ∧ RowsIn news vr rs ∧ rs.length ≤ 20 ∧ A.handled = none ∧ EltOk prog w A env scope x elt ∧
    ((ifs = [] ∧ ∀ r, p r = true) ∨ ∃ c, ifs = [c] ∧ TestOk prog w A env scope x₂ p c) ∧
    (∀ D h' tk vs e, Fr g L h' m → News g L h' ((D, listO vs e) :: news) → StrsAre vs (told p rs) → (∀ q ∈ news, q.1 < D) → Q (.ref D) { s₁ with heap := h', toks := tk })
section
variable {prog : Program} {w : World} {A : Around} {E : Value → Shared → Prop} {s : Shared} {env : Env}
theorem comp_rows_own {elt iter : Expr} {x x₂ : Str} {px px₂ tp : Pos} {kt} {ifs : List Expr} {scope : Scope} {pos : Pos} {Q : Value → Shared → Prop}
    (hfree : ∀ y ∈ scope.names, y.2 ≠ .free) (hcell : ∀ y ∈ scope.names, y.2 ≠ .cell) (hkind : scope.kind = .function)
    (hnames : ∀ y ∈ scope.names, y.2 = .local → scope.names.lookup y.1 = some .local) (hx : scope.names.lookup x = some .local) (hx₂ : scope.names.lookup x₂ = some .local) (hxx : x ≠ x₂)
    (h : wpAny (model prog w) A (eval iter env) (CompR prog w A env scope x x₂ elt ifs Q) E s)
    (hs : ∀ x, foldedSetIterable iter env x = pure x := by intro _; rfl) :
    wpAny (model prog w) A (eval (.ListComp elt [⟨.Tuple [.Name x px, .Name x₂ px₂] kt tp, iter, ifs, 0⟩] scope pos) env) Q E s := by
  refine wpAny_ListComp hfree hkind hnames (wpAny_mono h (fun xv s₁ h₁ => ?_) fun _ _ e => e) hs
  obtain ⟨p, g, L, m, news, rl, vr, er, rs, rfl, F, N, hm, hR, hsz, hh, hE, hT, hQ⟩ := h₁
  have hl : s₁.heap.IsList rl vr.toArray := list_of_news N hm
  have hvl : vr.length = rs.length := hR.len
  have hrl : rl < s₁.heap.objs.size := Heap.lt_size (N _ hm).1
  refine wpAny_pyIter_list hl ?_
  generalize hH1 : s₁.heap.push { cls := .type "list_iterator", data := .fields #[.ref rl, .int 0 0] } = H1
  have hI1 : H1.get? s₁.heap.objs.size = some { cls := .type "list_iterator", data := .fields #[.ref rl, .int 0 0] } := by rw [← hH1]; exact Heap.get?_push_size _ rfl
  have s1 : H1.objs.size = s₁.heap.objs.size + 1 := by rw [← hH1, Heap.size_push]
  have up1 : ∀ b o, s₁.heap.get? b = some o → H1.get? b = some o := fun b o e => by rw [← hH1]; exact Heap.get?_push_of_some _ e
  refine wpAny_newObj_type (wpAny_newFunctionEnv hcell (by intro y hy; simp at hy) (fun h₁ hns₁ hsb₁ => ?_) hkind)
  dsimp only at hns₁ hsb₁ ⊢
  generalize hH2 : H1.push { cls := .type "list", dict := none, data := .seq ([] : List Value).toArray } = H2 at hns₁ hsb₁ ⊢
  have s2 : H2.objs.size = s₁.heap.objs.size + 2 := by rw [← hH2, Heap.size_push, s1]
  have nID : s₁.heap.objs.size ≠ H1.objs.size := by rw [s1]; exact Nat.ne_of_lt (Nat.lt_succ_self _)
  have nIC : s₁.heap.objs.size ≠ H2.objs.size := by rw [s2]; exact Nat.ne_of_lt (Nat.lt_add_of_pos_right (by decide))
  have nDC : H1.objs.size ≠ H2.objs.size := by rw [s1, s2]; exact Nat.ne_of_lt (Nat.lt_succ_self _)
  have low : ∀ b o, s₁.heap.get? b = some o → b ≠ s₁.heap.objs.size ∧ b ≠ H1.objs.size ∧ b ≠ H2.objs.size := fun b o e => by
    have t : @LT.lt Nat _ b s₁.heap.objs.size := Heap.lt_size e
    rw [s1, s2]
    exact ⟨Nat.ne_of_lt t, Nat.ne_of_lt (Nat.lt_succ_of_lt t), Nat.ne_of_lt (Nat.lt_succ_of_lt (Nat.lt_succ_of_lt t))⟩
  have top' : ∀ b o, s₁.heap.get? b = some o → @LT.lt Nat _ b H1.objs.size := fun b o e => by
    have t : @LT.lt Nat _ b s₁.heap.objs.size := Heap.lt_size e
    rw [s1]; exact Nat.lt_succ_of_lt t
  have noD : s₁.heap.get? H1.objs.size = none := by
    cases q : s₁.heap.get? H1.objs.size with
    | none => rfl
    | some o => exact absurd (top' _ _ q) (Nat.lt_irrefl _)
  have old : ∀ b o, s₁.heap.get? b = some o → h₁.get? b = some o := fun b o e => hsb₁.extBut b o (low b o e).2.2 (Heap.get?_push_of_some _ (by rw [← hH2]; exact Heap.get?_push_of_some _ (up1 b o e)))
  have hI2 : h₁.get? s₁.heap.objs.size = some { cls := .type "list_iterator", data := .fields #[.ref rl, .int 0 0] } := hsb₁.extBut _ _ nIC (Heap.get?_push_of_some _ (by rw [← hH2]; exact Heap.get?_push_of_some _ hI1))
  have hD2 : h₁.get? H1.objs.size = some { cls := .type "list", data := .seq ([] : List Value).toArray } := hsb₁.extBut _ _ nDC (Heap.get?_push_of_some _ (by rw [← hH2]; exact Heap.get?_push_size _ rfl))
  clear hI1 s1 s2 up1 hsb₁ hH1 hH2
  have Ns : ∀ {h : Heap}, (∀ b o, s₁.heap.get? b = some o → h.get? b = some o) → News g L h news := fun k => News.same N k
  generalize s₁.heap.objs.size = I at *
  generalize H1.objs.size = D at *
  generalize H2.objs.size = C at *
  have hrln : rl ≠ I := (low _ _ (N _ hm).1).1
  have step : ∀ (i : Nat) (h' : Heap) (tk : Nat) (ys : List Value) (e : Nat) (m' : Str → Option Value) (QQ : Unit → Shared → Prop) (EE : Value → Shared → Prop), i < rs.length → h'.IsListIter I rl i → h'.Ns C m' → h'.get? D = some (listO ys e) → (∀ b o, s₁.heap.get? b = some o → h'.get? b = some o) →
      (∀ (h₅ : Heap) (tk₅ : Nat) (m₅ : Str → Option Value) (r : Str × Bool) (t : Tok), rs[i]? = some r → m₅ x = some (.str r.1 t) → m₅ x₂ = some (.bool r.2) → h₅.IsListIter I rl (i + 1) → h₅.Ns C m₅ → h₅.get? D = some (listO ys e) → (∀ b o, s₁.heap.get? b = some o → h₅.get? b = some o) → QQ () { s₁ with heap := h₅, toks := tk₅ }) →
      wpAny (model prog w) A (pyNext (.ref I)) (fun r s => match r with
        | none => False
        | some v => wpAny (model prog w) A (letOwnedTupleGo (.Tuple [.Name x px, .Name x₂ px₂] kt tp) (.ref I) v) (fun _ s => wpAny (model prog w) A (assign (.Tuple [.Name x px, .Name x₂ px₂] kt tp) (compEnv scope C env) v) QQ EE s) EE s) EE { s₁ with heap := h', toks := tk } := by
    intro i h' tk ys e m' QQ EE hi hit hn hDat k hQQ
    have hv : vr[i]? = some (vr[i]'(by omega)) := List.getElem?_eq_getElem (by omega)
    obtain ⟨a, tn, en, r, ev, hr, hmem⟩ := hR.at i _ hv
    have hl' : h'.IsList rl vr.toArray := let ⟨o, ho, r⟩ := hl; ⟨o, k _ _ ho, r⟩
    refine wpAny_pyNext_list_item hit hl' (x := .ref a) (by simpa [ev] using hv) fun h₂ hit₂ hs₂ => ?_
    have k2 : ∀ b o, s₁.heap.get? b = some o → h₂.get? b = some o := fun b o e => hs₂.extBut b o (low b o e).1 (k b o e)
    refine wpAny_letOwnedTupleGo_listiter hit₂ ?_
    have ht : IsTup h₂ a #[.str r.1 tn, .bool r.2] := ⟨_, k2 _ _ (N _ hmem).1, rfl, _, rfl⟩
    refine assign_Tuple_tuple hh ht rfl rfl fun h₃ he => ?_
    have he' : ∀ b o, h₂.get? b = some o → h₃.get? b = some o := fun b o e => he b o (Nat.ne_of_lt (Heap.lt_size e)) e
    refine assignInOrder_cons (wpAny_assign_Name (wpAny_storeName_local hx ((hn.at' fun o e => hs₂.extBut _ o (Ne.symm nIC) e).at' fun o e => he' _ o e) (fun h₄ hn₄ hs₄ => ?_) (by simp [compEnv, hkind])))
    refine assignInOrder_cons (wpAny_assign_Name (wpAny_storeName_local hx₂ hn₄ (fun h₅ hn₅ hs₅ => ?_) (by simp [compEnv, hkind])))
    refine assignInOrder_nil ?_
    have old3 : ∀ b o, b ≠ C → h₂.get? b = some o → h₅.get? b = some o := fun b o hb e => hs₅.extBut b o hb (hs₄.extBut b o hb (he' b o e))
    refine hQQ h₅ _ _ r tn hr (by simp [hxx]) (by simp) ?_ hn₅ (old3 _ _ nDC (hs₂.extBut _ _ (Ne.symm nID) hDat)) fun b o e => old3 _ _ (low b o e).2.2 (k2 b o e)
    obtain ⟨o, ho, r⟩ := hit₂
    exact ⟨o, old3 _ _ nIC ho, r⟩
  have loop : ∀ (R : Result → Shared → Prop) (tk : Nat), (∀ h' tk m' ys e, h'.Ns C m' → h'.get? D = some (listO ys e) → StrsAre ys (told p rs) → (∀ b o, s₁.heap.get? b = some o → h'.get? b = some o) → R (.ok .next) { s₁ with heap := h', toks := tk }) →
      codeAny (model prog w) A (.compLoop (.ListComp elt [⟨.Tuple [.Name x px, .Name x₂ px₂] kt tp, iter, ifs, 0⟩] scope pos) 0 (.ref I) (.ref D) (compEnv scope C env)) R { s₁ with heap := h₁, toks := tk } := by
    intro R tk fin
    let Inv : Nat → Shared → Prop := fun k s' => ∃ (h' : Heap) (tk : Nat) (i : Nat) (ys : List Value) (e : Nat) (m' : Str → Option Value), s' = { s₁ with heap := h', toks := tk } ∧ i ≤ rs.length ∧ k = rs.length + 1 - i ∧ h'.IsListIter I rl i ∧ h'.Ns C m' ∧ h'.get? D = some (listO ys e) ∧
      StrsAre ys (told p (rs.take i)) ∧ ys.length ≤ i ∧ (∀ b o, s₁.heap.get? b = some o → h'.get? b = some o)
    have start : Inv (rs.length + 1) { s₁ with heap := h₁, toks := tk } := ⟨h₁, tk, 0, [], 0, _, rfl, Nat.zero_le _, rfl, ⟨_, hI2, rfl, rfl⟩, hns₁, hD2, .nil, Nat.le_refl _, old⟩
    have last : ∀ (h' : Heap) (tk : Nat) (ys : List Value) (e : Nat) (m' : Str → Option Value) (QQ : Option Value → Shared → Prop) (EE : Value → Shared → Prop), h'.IsListIter I rl rs.length → h'.Ns C m' → h'.get? D = some (listO ys e) → StrsAre ys (told p (rs.take rs.length)) → (∀ b o, s₁.heap.get? b = some o → h'.get? b = some o) →
        (∀ s', R (.ok .next) s' → QQ none s') → wpAny (model prog w) A (pyNext (.ref I)) QQ EE { s₁ with heap := h', toks := tk } := by
      intro h' tk ys e m' QQ EE hit hn hDat hS k hQQ
      have hl' : h'.IsList rl vr.toArray := let ⟨o, ho, r⟩ := hl; ⟨o, k _ _ ho, r⟩
      refine wpAny_pyNext_list_end hh hit hl' (by simp; omega) fun h₂ he => hQQ _ (fin h₂ _ m' ys e (hn.at' fun o e => he _ o (Ne.symm nIC) e) (he _ _ (Ne.symm nID) hDat) (by simpa using hS) fun b o e => he b o (low b o e).1 (k b o e))
    have app : ∀ (i k : Nat) (h' : Heap) (tk : Nat) (ys : List Value) (e : Nat) (m' : Str → Option Value) (r : Str × Bool) (t : Tok) (EE : Value → Shared → Prop), i < rs.length → k = rs.length + 1 - i → rs[i]? = some r → p r = true → h'.IsListIter I rl (i + 1) → h'.Ns C m' → h'.get? D = some (listO ys e) → StrsAre ys (told p (rs.take i)) → ys.length ≤ i → (∀ b o, s₁.heap.get? b = some o → h'.get? b = some o) →
        wpAny (model prog w) A (call (.builtin "list.append") [.ref D, .str r.1 t]) (fun _ s₅ => ∃ m, m < k ∧ Inv m s₅) EE { s₁ with heap := h', toks := tk } := by
      intro i k h' tk ys e m' r t EE hi hk hr hp hit hn hDat hS hy kp
      refine append_at (its := ys.toArray) (hsz := by rw [sizeLine_eq]; simp only [List.size_toArray]; omega) hDat fun h₂ hs ho => ?_
      refine ⟨rs.length + 1 - (i + 1), by omega, h₂, tk, i + 1, ys ++ [.str r.1 t], e + 1, m', rfl, hi, rfl, ?_, hn.at' fun o e => hs.extBut _ o (Ne.symm nDC) e, by simpa [W.listOf, listO] using ho, ?_, by simp; omega, fun b o e => hs.extBut b o (low b o e).2.1 (kp b o e)⟩
      · obtain ⟨o, ho, r⟩ := hit
        exact ⟨o, hs.extBut _ _ nID ho, r⟩
      · rw [told_snoc hr, hp]
        exact strsAre_append hS (.cons _ _ .nil)
    rcases hT with ⟨rfl, hall⟩ | ⟨c, rfl, hc⟩
    · refine codeAny_compLoop_pair Inv (fun k s' hI => ?_) _ start
      obtain ⟨h', tk, i, ys, e, m', rfl, hi, hk, hit, hn, hDat, hS, hy, kp⟩ := hI
      rcases Nat.lt_or_ge i rs.length with hlt | hge
      · refine' wpAny_mono (step i h' tk ys e m' _ _ hlt hit hn hDat kp ?a) ?b fun _ _ e => e
        case b =>
          intro r s hr
          cases r with
          | none => exact hr.elim
          | some v => exact hr
        intro h₅ tk₅ m₅ r t hr hx' _ hit₅ hn₅ hD₅ k₅
        refine wpAny_mono (hE C _ _ m₅ _ hn₅ hx') (fun y s₄ h₄ => ?_) fun _ _ e => e
        obtain ⟨rfl, h₄, tk₄, rfl, k₄⟩ := h₄
        exact app i k h₄ tk₄ ys e m₅ r t _ hlt hk hr (hall r) (let ⟨o, ho, r⟩ := hit₅; ⟨o, k₄ _ _ ho, r⟩) (hn₅.at' fun o e => k₄ _ o e) (k₄ _ _ hD₅) hS hy fun b o e => k₄ b o (k₅ b o e)
      · have hin : i = rs.length := by omega
        subst hin
        exact last h' tk ys e m' _ _ hit hn hDat hS kp fun s' q => q
    · refine kct_loop Inv (fun k s' hI => ?_) _ start
      obtain ⟨h', tk, i, ys, e, m', rfl, hi, hk, hit, hn, hDat, hS, hy, kp⟩ := hI
      rcases Nat.lt_or_ge i rs.length with hlt | hge
      · refine' wpAny_mono (step i h' tk ys e m' _ _ hlt hit hn hDat kp ?a2) ?b2 fun _ _ e => e
        case b2 =>
          intro r s hr
          cases r with
          | none => exact hr.elim
          | some v => exact hr
        intro h₅ tk₅ m₅ r t hr hx' hx2' hit₅ hn₅ hD₅ k₅
        refine wpAny_mono (hc C r _ m₅ _ hn₅ hx2') (fun ok s₃ h₃ => ?_) fun _ _ e => e
        obtain ⟨rfl, h₃, tk₃, rfl, k₃⟩ := h₃
        have hit₃ : h₃.IsListIter I rl (i + 1) := let ⟨o, ho, r⟩ := hit₅; ⟨o, k₃ _ _ ho, r⟩
        have hn₃ : h₃.Ns C m₅ := hn₅.at' fun o e => k₃ _ o e
        cases hp : p r with
        | true =>
          rw [if_pos rfl]
          refine wpAny_mono (hE C _ _ m₅ _ hn₃ hx') (fun y s₄ h₄ => ?_) fun _ _ e => e
          obtain ⟨rfl, h₄, tk₄, rfl, k₄⟩ := h₄
          exact app i k h₄ tk₄ ys e m₅ r t _ hlt hk hr hp (let ⟨o, ho, r⟩ := hit₃; ⟨o, k₄ _ _ ho, r⟩) (hn₃.at' fun o e => k₄ _ o e) (k₄ _ _ (k₃ _ _ hD₅)) hS hy fun b o e => k₄ b o (k₃ b o (k₅ b o e))
        | false =>
          rw [if_neg (by decide)]
          refine ⟨rs.length + 1 - (i + 1), by omega, h₃, tk₃, i + 1, ys, e, m₅, rfl, hlt, rfl, hit₃, hn₃, k₃ _ _ hD₅, ?_, by omega, fun b o e => k₃ b o (k₅ b o e)⟩
          rw [told_snoc hr, hp]
          simpa using hS
      · have hin : i = rs.length := by omega
        subst hin
        exact last h' tk ys e m' _ _ hit hn hDat hS kp fun s' q => q
  have fin : ∀ (R : Result → Shared → Prop), R = (fun r s' => ∃ m, s'.heap.Ns C m ∧ ∀ h', Heap.SameBut C s'.heap h' →
      match r with | .ok _ => Q (.ref D) { s' with heap := h' } | .error x => wpAny (model prog w) A (PySem.passOn "comprehension.variables-let-go" x (compEnv scope C env)) Q E { s' with heap := h' }) →
      ∀ tk, codeAny (model prog w) A (.compLoop (.ListComp elt [⟨.Tuple [.Name x px, .Name x₂ px₂] kt tp, iter, ifs, 0⟩] scope pos) 0 (.ref I) (.ref D) (compEnv scope C env)) R { s₁ with heap := h₁, toks := tk } := by
    rintro R rfl tk
    refine loop _ tk fun h' tk' m' ys e hn hDat hS k => ⟨m', hn, fun h3 hs3 => ?_⟩
    have k3 : ∀ b o, s₁.heap.get? b = some o → h3.get? b = some o := fun b o e => hs3.extBut b o (low b o e).2.2 (k b o e)
    exact hQ D h3 tk' ys e (Fr.same F k3) (News.more F N k3 (hs3.extBut _ _ nDC hDat) noD) hS fun q hq => top' _ _ (N q hq).1
  refine codeAny_compStart_list (fin _ rfl _) (wpAny_pyIter_listiter ⟨_, hI2, rfl, rfl⟩ (fin _ rfl _))
end
end Et
end
section
open PySem PySem.W PySem.Calls PyProof.Rows
set_option Elab.async false
set_option maxRecDepth 100000
namespace Et
abbrev leS (a b : Str) : Prop := a.cps.toList ≤ b.cps.toList
theorem leS_anti {a b : Str} (h1 : leS a b) (h2 : leS b a) : a = b := by
  have := List.le_antisymm h1 h2
  cases a; cases b
  simp only [Str.mk.injEq]
  exact Array.toList_inj.mp this
theorem rising_pair : ∀ (p : Str) (l : List Str), risingS p l = true → (∀ x ∈ l, leS p x) ∧ l.Pairwise leS
  | _, [], _ => ⟨fun _ h => (nomatch h), .nil⟩
  | p, x :: r, h => by
    have h' : (!Spec.ltCps x.cps.toList p.cps.toList && risingS x r) = true := h
    rw [Bool.and_eq_true, Bool.not_eq_true', ltCps_eq, decide_eq_false_iff_not] at h'
    have hpx : leS p x := List.not_lt.mp h'.1
    obtain ⟨a, b⟩ := rising_pair x r h'.2
    refine ⟨fun y hy => ?_, List.pairwise_cons.mpr ⟨a, b⟩⟩
    rcases List.mem_cons.mp hy with rfl | hy
    · exact hpx
    · exact List.le_trans hpx (a y hy)
theorem sorted_pair {l : List Str} (h : sortedS l = true) : l.Pairwise leS := by
  cases l with
  | nil => exact .nil
  | cons x r => exact List.pairwise_cons.mpr (rising_pair x r h)
/-- two sorted lists of the same distinct texts are one -/
theorem sorted_same {a b ka kb : List Str} (ha : sortedS a = true) (hb : sortedS b = true) (pa : a.Perm ka) (pb : b.Perm kb) (na : ka.Nodup) (nb : kb.Nodup) (h : ∀ x, x ∈ ka ↔ x ∈ kb) : a = b :=
  List.Perm.eq_of_pairwise (le := leS) (fun _ _ _ _ h1 h2 => leS_anti h1 h2) (sorted_pair ha) (sorted_pair hb) (pa.trans (((List.perm_ext_iff_of_nodup na nb).mpr h).trans pb.symm))
/-! what the text of the tags holds -/
def wide0 (x1 : Str) (n : Str) : Item := quoted x1 (Str.ofString "") n (Str.ofString "")
def wideW (x1 : Str) (n : Str) : Item := quoted x1 (Str.ofString "W/") n (Str.ofString "")
theorem str_same {a b : Str} (h : a.cps.toList = b.cps.toList) : a = b := by
  cases a; cases b
  simp only [Str.mk.injEq]
  exact Array.toList_inj.mp h
theorem empty_list : (Str.ofString "").cps.toList = [] := by decide +kernel
theorem wq_list : (Str.ofString "W/\"").cps.toList = (Str.ofString "W/").cps.toList ++ q34.cps.toList := by decide +kernel
theorem txt0 (n : Str) : (wide0 (Str.ofString "") n).txt = quoS n := str_same (by simp only [wide0, quoted, app_list, empty_list, List.nil_append, List.append_nil])
theorem txt0s (n : Str) : (wide0 (Str.ofString " ") n).txt = Str.ofString " " ++ quoS n := str_same (by simp only [wide0, quoted, app_list, empty_list, List.append_nil, List.append_assoc])
theorem txtW (n : Str) : (wideW (Str.ofString "") n).txt = quoW n := str_same (by simp only [wideW, quoted, app_list, empty_list, wq_list, List.nil_append, List.append_nil, List.append_assoc])
theorem txtWs (n : Str) : (wideW (Str.ofString " ") n).txt = Str.ofString " " ++ quoW n := str_same (by simp only [wideW, quoted, app_list, empty_list, wq_list, List.append_nil, List.append_assoc])
theorem sp_in : Str.ofString " " ∈ sps := by decide +kernel
theorem em_in : Str.ofString "" ∈ sps := by decide +kernel
theorem good0 {x1 n : Str} (h1 : x1 ∈ sps) (h : n ∈ nms) : Good (wide0 x1 n) := good_quoted h1 (by decide +kernel) h em_in
theorem goodW {x1 n : Str} (h1 : x1 ∈ sps) (h : n ∈ nms) : Good (wideW x1 n) := good_quoted h1 (by decide +kernel) h em_in
theorem row0 (x1 n : Str) : (wide0 x1 n).row = some (n, false) := by
  show some (n, Str.ofString "" != Str.ofString "") = _
  rw [show (Str.ofString "" != Str.ofString "") = false by decide +kernel]
theorem rowW (x1 n : Str) : (wideW x1 n).row = some (n, true) := by
  show some (n, Str.ofString "W/" != Str.ofString "") = _
  rw [show (Str.ofString "W/" != Str.ofString "") = true by decide +kernel]
theorem head_items {s1 s2 : List Str} (h1 : ∀ n ∈ s1, n ∈ nms) (h2 : ∀ n ∈ s2, n ∈ nms) (ne : s1.map quoS ++ s2.map quoW ≠ []) :
    ∃ its : List Item, (Txt.join (Str.ofString ", ") (s1.map quoS ++ s2.map quoW)).cps.toList = J (its.map Item.txt) ∧ (∀ it ∈ its, Good it) ∧ its.length = s1.length + s2.length ∧ strongs its = s1 ∧ weaks its = s2 := by
  have st0 : ∀ l : List Str, strongs (l.map (wide0 (Str.ofString " "))) = l := fun l => by
    induction l with
    | nil => rfl
    | cons x l ih => unfold strongs at ih ⊢; simp [List.filterMap_cons, row0, ih]
  have stW : ∀ l : List Str, strongs (l.map (wideW (Str.ofString " "))) = [] := fun l => by
    induction l with
    | nil => rfl
    | cons x l ih => unfold strongs at ih ⊢; simp [List.filterMap_cons, rowW, ih]
  have wk0 : ∀ l : List Str, weaks (l.map (wide0 (Str.ofString " "))) = [] := fun l => by
    induction l with
    | nil => rfl
    | cons x l ih => unfold weaks at ih ⊢; simp [List.filterMap_cons, row0, ih]
  have wkW : ∀ l : List Str, weaks (l.map (wideW (Str.ofString " "))) = l := fun l => by
    induction l with
    | nil => rfl
    | cons x l ih => unfold weaks at ih ⊢; simp [List.filterMap_cons, rowW, ih]
  have sapp : ∀ a b : List Item, strongs (a ++ b) = strongs a ++ strongs b := fun a b => List.filterMap_append
  have wapp : ∀ a b : List Item, weaks (a ++ b) = weaks a ++ weaks b := fun a b => List.filterMap_append
  cases s1 with
  | cons x r =>
    refine ⟨wide0 (Str.ofString "") x :: (r.map (wide0 (Str.ofString " ")) ++ s2.map (wideW (Str.ofString " "))), ?_, ?_, ?_, ?_, ?_⟩
    · rw [List.map_cons, List.cons_append, tjoin_sp, List.map_cons, txt0]
      simp [List.map_append, List.map_map, Function.comp_def, txt0s, txtWs]
    · intro it hit
      rcases List.mem_cons.mp hit with rfl | hit
      · exact good0 em_in (h1 _ (.head _))
      · rcases List.mem_append.mp hit with hit | hit
        · obtain ⟨n, hn, rfl⟩ := List.mem_map.mp hit
          exact good0 sp_in (h1 _ (.tail _ hn))
        · obtain ⟨n, hn, rfl⟩ := List.mem_map.mp hit
          exact goodW sp_in (h2 _ hn)
    · simp; omega
    · show strongs ([wide0 (Str.ofString "") x] ++ (r.map (wide0 (Str.ofString " ")) ++ s2.map (wideW (Str.ofString " ")))) = _
      rw [sapp, sapp, st0, stW]
      simp [strongs, row0]
    · show weaks ([wide0 (Str.ofString "") x] ++ (r.map (wide0 (Str.ofString " ")) ++ s2.map (wideW (Str.ofString " ")))) = _
      rw [wapp, wapp, wk0, wkW]
      simp [weaks, row0]
  | nil =>
    cases s2 with
    | nil => exact absurd rfl ne
    | cons x r =>
      refine ⟨wideW (Str.ofString "") x :: r.map (wideW (Str.ofString " ")), ?_, ?_, ?_, ?_, ?_⟩
      · rw [List.map_nil, List.nil_append, List.map_cons, tjoin_sp, List.map_cons, txtW]
        simp [List.map_map, Function.comp_def, txtWs]
      · intro it hit
        rcases List.mem_cons.mp hit with rfl | hit
        · exact goodW em_in (h2 _ (.head _))
        · obtain ⟨n, hn, rfl⟩ := List.mem_map.mp hit
          exact goodW sp_in (h2 _ (.tail _ hn))
      · simp
      · show strongs ([wideW (Str.ofString "") x] ++ _) = _
        rw [sapp, stW]
        simp [strongs, rowW]
      · show weaks ([wideW (Str.ofString "") x] ++ _) = _
        rw [wapp, wkW]
        simp [weaks, rowW]
end Et
end
section
open PySem PySem.W PySem.Calls PyProof.Rows
set_option Elab.async false
set_option maxRecDepth 100000
namespace Et
theorem hide_nil {h : Heap} {b : Addr} (e : (hideAll h []).get? b = none) : h.get? b = none := by
  cases q : h.get? b with
  | none => rfl
  | some o => rw [hideAll_get _ q (List.not_mem_nil)] at e; cases e
theorem TagsOut.base {w : World} {h₀ h₁ h : Heap} {r : Value} {ss sw : List Str} {star : Bool} (x : TagsOut w h₀ h r ss sw star) (k : ∀ b, h₀.get? b = none → h₁.get? b = none) : TagsOut w h₁ h r ss sw star := by
  obtain ⟨x, dx, fs, fw, t1, t2, t3, oF, oW, ks, kw, a0, a1, a2, a3, a4, b1, b2, b3, b4, c⟩ := x
  exact ⟨x, dx, fs, fw, t1, t2, t3, oF, oW, ks, kw, a0, a1, a2, a3, a4, k _ b1, k _ b2, k _ b3, k _ b4, c⟩
theorem split_after {s s' : Shared} {as : List Addr} (x : After as s s') : s' = { s with heap := s'.heap, toks := s'.toks, drawn := s'.drawn } := by
  obtain ⟨h, g, d, t, o⟩ := s'
  have e1 := x.gens
  have e2 := x.os
  dsimp only at e1 e2
  subst e1; subst e2; rfl
theorem News.put {g h : Heap} {L a : Addr} {o : Obj} {m : Str → Option Value} {h₁ : Heap} {news : List (Addr × Obj)} (F : Fr g L h m) (N : News g L h₁ news) (e : h₁.get? a = some o) (fresh : h.get? a = none) : News g L h₁ ((a, o) :: news) := fun p hp => by
  rcases List.mem_cons.mp hp with rfl | hp
  · refine ⟨e, fun q => ?_, ?_⟩
    · obtain ⟨o, es, ep, ho, _⟩ := F.ns
      dsimp only at q
      rw [← q, fresh] at ho; cases ho
    · show g.get? a = none
      cases q : g.get? a with
      | none => rfl
      | some o => have := F.keep _ _ q; rw [fresh] at this; cases this
  · exact N p hp
theorem empty_of_J {T : Str} {its : List Item} (hT : T.cps.toList = J (its.map Item.txt)) (h : its = []) : T = Str.ofString "" := by
  subst h
  exact str_same (by rw [hT, empty_list]; rfl)
theorem len_of_J {T : Str} {its : List Item} (hT : T.cps.toList = J (its.map Item.txt)) (good : ∀ it ∈ its, Good it) (h : its ≠ []) : 0 < T.length := by
  cases its with
  | nil => exact absurd rfl h
  | cons it r =>
    have h1 := good_text (good it (.head _))
    have h2 : T.length = (J ((it :: r).map Item.txt)).length := by rw [← hT]; simp [Str.length]
    rw [h2]
    obtain ⟨u, e1, e2⟩ := J_part it.txt (r.map Item.txt)
    rw [List.map_cons, e1, List.length_append]
    have : 0 < u.length := by
      have z := List.length_pos_iff.mpr h1
      rcases e2 with ⟨_, rfl⟩ | ⟨_, rfl⟩
      · exact z
      · rw [List.length_append]; omega
    omega
section
variable {w : World} {dp un : Nat} {gd : Option (List Code)} {cn : Str} {cs : Scope} {L a : Addr} {ccd : Value} {cl : List (Str × Addr)} {outer : List Env}
    {A₀ : Around} {base h₀ : Heap} {m : Str → Option Value} {s : Shared} {p : Program} {loose : List Str} {mean : ExcName → Option Value} {mg mb : Str → Option Value}
theorem parse_any {T : Str} {tT : Tok} {its : List Item} (B : Below A₀ base outer h₀) (F : Fr h₀ L s.heap m) (X : (Et.hd.heap_39 w.params).In h₀) (Tp : Top p loose mean mg mb h₀) (hk : cs.kind = .function)
    (hT : T.cps.toList = J (its.map Item.txt)) (good : ∀ it ∈ its, Good it) (hlen : its.length ≤ 20) (hd : dp + 40 < 1000) (hu : un + 200 < cLine) :
    wpAny (model PySem.Challenge.rw_ez0423_01.row.prog w) (top dp un gd cn cs L a ccd cl outer) (call (.ref 171) [.str T tT])
      (fun r s' => After [] s s' ∧ s'.drawn = s.drawn ∧ TagsOut w (hideAll s.heap []) s'.heap r (strongs its) (weaks its) false) (fun _ _ => False) s := by
  by_cases h : its = []
  · have e := empty_of_J hT h
    subst e; subst h
    exact parse_0 B F X Tp hk hd hu
  · exact parse_c B F X Tp hk hT good hlen (len_of_J hT good h) hd hu
def TagsUse (w : World) (h₀ : Heap) (L : Addr) (m : Str → Option Value) (news : List (Addr × Obj)) (ss sw : List Str) (star : Bool) (Q : Value → Shared → Prop) (s : Shared) : Prop :=
  ∀ x dx fs fw t1 t2 t3 oF oW ks kw h' tk, Fr h₀ L h' m → News h₀ L h' ((x, instObj 140 dx) :: (dx, tagsD w.params fs fw star t1 t2 t3) :: (fs, oF) :: (fw, oW) :: news) →
    SetO w oF "frozenset" ks → (∀ y, y ∈ ks ↔ y ∈ ss) → SetO w oW "frozenset" kw → (∀ y, y ∈ kw ↔ y ∈ sw) → ks.length ≤ ss.length → kw.length ≤ sw.length → Q (.ref x) { s with heap := h', toks := tk }
theorem tags_use {news : List (Addr × Obj)} {ss sw : List Str} {star : Bool} {Q : Value → Shared → Prop} {r : Value} {s' : Shared} (F : Fr h₀ L s.heap m) (N : News h₀ L s.heap news) (aft : After [] s s') (dr : s'.drawn = s.drawn)
    (T : TagsOut w (hideAll s.heap []) s'.heap r ss sw star) (h : TagsUse w h₀ L m news ss sw star Q s) : Q r s' := by
  obtain ⟨x, dx, fs, fw, t1, t2, t3, oF, oW, ks, kw, rfl, a1, a2, a3, a4, b1, b2, b3, b4, l1, l2, l3, c1, c2, c3, c4, c5, c6⟩ := T.base fun b => hide_nil
  rw [split_after aft, dr]
  exact h x dx fs fw t1 t2 t3 oF oW ks kw s'.heap s'.toks (Fr.same F aft.same) (News.put F (News.put F (News.put F (News.put F (News.same N aft.same) a4 b4) a3 b3) a2 b2) a1 b1) c1 c2 c3 c4 c5 c6
theorem parse_use {news : List (Addr × Obj)} {T : Str} {tT : Tok} {its : List Item} {Q : Value → Shared → Prop} (B : Below A₀ base outer h₀) (F : Fr h₀ L s.heap m) (X : (Et.hd.heap_39 w.params).In h₀) (Tp : Top p loose mean mg mb h₀) (hk : cs.kind = .function) (N : News h₀ L s.heap news)
    (hT : T.cps.toList = J (its.map Item.txt)) (good : ∀ it ∈ its, Good it) (hlen : its.length ≤ 20) (hd : dp + 40 < 1000) (hu : un + 200 < cLine) (h : TagsUse w h₀ L m news (strongs its) (weaks its) false Q s) :
    wpAny (model PySem.Challenge.rw_ez0423_01.row.prog w) (top dp un gd cn cs L a ccd cl outer) (call (.ref 171) [.str T tT]) Q (fun _ _ => False) s :=
  wpAny_mono (parse_any B F X Tp hk hT good hlen hd hu) (fun _ _ hr => tags_use F N hr.1 hr.2.1 hr.2.2 h) fun _ _ e => e
theorem star_use {news : List (Addr × Obj)} {tT : Tok} {Q : Value → Shared → Prop} (B : Below A₀ base outer h₀) (F : Fr h₀ L s.heap m) (X : (Et.hd.heap_39 w.params).In h₀) (Tp : Top p loose mean mg mb h₀) (hk : cs.kind = .function) (N : News h₀ L s.heap news)
    (hd : dp + 40 < 1000) (hu : un + 200 < cLine) (h : TagsUse w h₀ L m news [] [] true Q s) :
    wpAny (model PySem.Challenge.rw_ez0423_01.row.prog w) (top dp un gd cn cs L a ccd cl outer) (call (.ref 171) [.str (Str.ofString "*") tT]) Q (fun _ _ => False) s :=
  wpAny_mono (parse_star B F X Tp hk hd hu) (fun _ _ hr => tags_use F N hr.1 hr.2.1 hr.2.2 h) fun _ _ e => e
section
variable {x dx fs fw : Addr} {oF oW : Obj} {ks kw : List Str} {t1 t2 t3 : Tok} {star : Bool} {news : List (Addr × Obj)}
theorem tags_sub {h : Heap} (N : News h₀ L h news) (m1 : (x, instObj 140 dx) ∈ news) (m2 : (dx, tagsD w.params fs fw star t1 t2 t3) ∈ news) (m3 : (fs, oF) ∈ news) (m4 : (fw, oW) ∈ news) : News h₀ L h (tagsN w.params x dx fs fw oF oW star t1 t2 t3) := fun p hp => by
  rcases List.mem_cons.mp hp with rfl | hp
  · exact N _ m1
  rcases List.mem_cons.mp hp with rfl | hp
  · exact N _ m2
  rcases List.mem_cons.mp hp with rfl | hp
  · exact N _ m3
  rw [List.mem_singleton] at hp
  subst hp; exact N _ m4
theorem header_use {Q : Value → Shared → Prop} (B : Below A₀ base outer h₀) (F : Fr h₀ L s.heap m) (X : (Et.hd.heap_39 w.params).In h₀) (Tp : Top p loose mean mg mb h₀) (hk : cs.kind = .function) (N : News h₀ L s.heap news)
    (m1 : (x, instObj 140 dx) ∈ news) (m2 : (dx, tagsD w.params fs fw false t1 t2 t3) ∈ news) (m3 : (fs, oF) ∈ news) (m4 : (fw, oW) ∈ news) (hF : SetO w oF "frozenset" ks) (hW : SetO w oW "frozenset" kw) (lF : ks.length ≤ 7) (lW : kw.length ≤ 7)
    (sF : ∀ k ∈ ks, k ∈ nms) (sW : ∀ k ∈ kw, k ∈ nms) (hd : dp + 40 < 1000) (hu : un + 200 < cLine)
    (h : ∀ T t its h' tk d, Fr h₀ L h' m → News h₀ L h' news → T.cps.toList = J (its.map Item.txt) → (∀ it ∈ its, Good it) → its.length ≤ 14 → (strongs its).Perm ks → (weaks its).Perm kw → Q (.str T t) { s with heap := h', toks := tk, drawn := d }) :
    wpAny (model PySem.Challenge.rw_ez0423_01.row.prog w) (top dp un gd cn cs L a ccd cl outer) (call (.ref 87) [.ref x]) Q (fun _ _ => False) s := by
  have sz : ∀ k ∈ nms, k.length ≤ 10 := by decide +kernel
  refine wpAny_mono (header_c B F X Tp hk (tags_sub N m1 m2 m3 m4) hF hW (by omega) (by omega) (fun k hk => sz k (sF k hk)) (fun k hk => sz k (sW k hk)) hd hu) (fun r s' hr => ?_) fun _ _ e => e
  obtain ⟨aft, s1, s2, t, p1, p2, rfl⟩ := hr
  rw [split_after aft]
  by_cases ne : s1.map quoS ++ s2.map quoW = []
  · have e1 : s1 = [] := by cases s1 with | nil => rfl | cons a l => simp at ne
    have e2 : s2 = [] := by cases s2 with | nil => rfl | cons a l => simp at ne
    subst e1; subst e2
    refine h _ t [] s'.heap s'.toks s'.drawn (Fr.same F aft.same) (News.same N aft.same) (by decide +kernel) (fun _ h => nomatch h) (Nat.zero_le _) ?_ ?_
    · exact p1
    · exact p2
  · obtain ⟨its, q1, q2, q3, q4, q5⟩ := head_items (fun n hn => sF n (p1.subset hn)) (fun n hn => sW n (p2.subset hn)) ne
    have l1 := p1.length_eq
    have l2 := p2.length_eq
    exact h _ t its s'.heap s'.toks s'.drawn (Fr.same F aft.same) (News.same N aft.same) q1 q2 (by omega) (q4 ▸ p1) (q5 ▸ p2)
theorem asset_use_0 {Q : Value → Shared → Prop} {SS : List Str} (B : Below A₀ base outer h₀) (F : Fr h₀ L s.heap m) (X : (Et.hd.heap_39 w.params).In h₀) (Tp : Top p loose mean mg mb h₀) (hk : cs.kind = .function) (N : News h₀ L s.heap news)
    (m1 : (x, instObj 140 dx) ∈ news) (m2 : (dx, tagsD w.params fs fw star t1 t2 t3) ∈ news) (m3 : (fs, oF) ∈ news) (m4 : (fw, oW) ∈ news) (hF : SetO w oF "frozenset" ks) (hW : SetO w oW "frozenset" kw) (lF : ks.length ≤ 7) (lW : kw.length ≤ 7)
    (mS : ∀ y, y ∈ ks ↔ y ∈ SS) (hd : dp + 40 < 1000) (hu : un + 200 < cLine)
    (h : ∀ S o k' h' tk d, Fr h₀ L h' m → News h₀ L h' ((S, o) :: news) → SetO w o "set" k' → (∀ y, y ∈ k' ↔ y ∈ SS) → Q (.ref S) { s with heap := h', toks := tk, drawn := d }) :
    wpAny (model PySem.Challenge.rw_ez0423_01.row.prog w) (top dp un gd cn cs L a ccd cl outer) (call (.ref 54) [.ref x]) Q (fun _ _ => False) s := by
  refine wpAny_mono (asset_0 B F X Tp hk (tags_sub N m1 m2 m3 m4) hF hW lF lW hd hu) (fun r s' hr => ?_) fun _ _ e => e
  obtain ⟨aft, S, k', rfl, ⟨o, b1, b2⟩, b3, b4⟩ := hr
  rw [split_after aft]
  exact h S o k' s'.heap s'.toks s'.drawn (Fr.same F aft.same) (News.put F (News.same N aft.same) b1 b4) b2 fun y => (b3 y).trans (mS y)
theorem asset_use_1 {Q : Value → Shared → Prop} {SS : List Str} (B : Below A₀ base outer h₀) (F : Fr h₀ L s.heap m) (X : (Et.hd.heap_39 w.params).In h₀) (Tp : Top p loose mean mg mb h₀) (hk : cs.kind = .function) (N : News h₀ L s.heap news)
    (m1 : (x, instObj 140 dx) ∈ news) (m2 : (dx, tagsD w.params fs fw star t1 t2 t3) ∈ news) (m3 : (fs, oF) ∈ news) (m4 : (fw, oW) ∈ news) (hF : SetO w oF "frozenset" ks) (hW : SetO w oW "frozenset" kw) (lF : ks.length ≤ 7) (lW : kw.length ≤ 7)
    (mS : ∀ y, (y ∈ ks ∨ y ∈ kw) ↔ y ∈ SS) (hd : dp + 40 < 1000) (hu : un + 200 < cLine)
    (h : ∀ S o k' h' tk d, Fr h₀ L h' m → News h₀ L h' ((S, o) :: news) → SetO w o "set" k' → (∀ y, y ∈ k' ↔ y ∈ SS) → Q (.ref S) { s with heap := h', toks := tk, drawn := d }) :
    wpAny (model PySem.Challenge.rw_ez0423_01.row.prog w) (top dp un gd cn cs L a ccd cl outer) (call (.ref 54) [.ref x, .bool true]) Q (fun _ _ => False) s := by
  refine wpAny_mono (asset_1 B F X Tp hk (tags_sub N m1 m2 m3 m4) hF hW lF lW hd hu) (fun r s' hr => ?_) fun _ _ e => e
  obtain ⟨aft, S, k', rfl, ⟨o, b1, b2⟩, b3, b4⟩ := hr
  rw [split_after aft]
  exact h S o k' s'.heap s'.toks s'.drawn (Fr.same F aft.same) (News.put F (News.same N aft.same) b1 b4) b2 fun y => ((b3 y).trans (List.mem_append)).trans (mS y)
theorem list_use {Q : Value → Shared → Prop} (B : Below A₀ base outer h₀) (F : Fr h₀ L s.heap m) (X : (Et.hd.heap_39 w.params).In h₀) (Tp : Top p loose mean mg mb h₀) (hk : cs.kind = .function) (N : News h₀ L s.heap news)
    (m1 : (x, instObj 140 dx) ∈ news) (m2 : (dx, tagsD w.params fs fw star t1 t2 t3) ∈ news) (m3 : (fs, oF) ∈ news) (m4 : (fw, oW) ∈ news) (hF : SetO w oF "frozenset" ks) (lF : ks.length ≤ 7) (hd : dp + 50 < 1000) (hu : un + 230 < cLine)
    (h : ∀ l vs e ss h' tk d, Fr h₀ L h' m → News h₀ L h' ((l, listO vs e) :: news) → StrsAre vs ss → ss.Perm ks → Q (.ref l) { s with heap := h', toks := tk, drawn := d }) :
    wpAny (model PySem.Challenge.rw_ez0423_01.row.prog w) (top dp un gd cn cs L a ccd cl outer) (call (.type "list") [.ref x]) Q (fun _ _ => False) s :=
  list_tags B F X Tp hk (tags_sub N m1 m2 m3 m4) hF (by omega) hd hu fun h' tk d l vs e ss k fr el st pm => h l vs e ss h' tk d (Fr.same F k) (News.put F (News.same N k) el fr) st pm
end
end
section
variable {prog : Program} {w : World} {A : Around} {E : Value → Shared → Prop} {s : Shared} {h₀ : Heap} {L S l : Addr} {m : Str → Option Value} {news : List (Addr × Obj)} {o : Obj} {k' SS ks : List Str} {vs : List Value} {e : Nat}
theorem sorted_set_own {Q : Value → Shared → Prop} (hh : A.handled = none) (F : Fr h₀ L s.heap m) (N : News h₀ L s.heap news) (hm : (S, o) ∈ news) (hS : SetO w o "set" k') (M : ∀ y, y ∈ k' ↔ y ∈ SS) (so : sortedS SS = true) (nd : SS.Nodup) (lS : SS.length ≤ 20)
    (h : ∀ l vs e h' tk d, Fr h₀ L h' m → News h₀ L h' ((l, listO vs e) :: news) → StrsAre vs SS → Q (.ref l) { s with heap := h', toks := tk, drawn := d }) :
    wpAny (model prog w) A (call (.builtin "sorted") [.ref S]) Q E s := by
  have ln := nodup_le hS.nodup fun x hx => (M x).mp hx
  refine sorted_set hh (.inl rfl) ⟨o, (N _ hm).1, hS⟩ (by omega) fun h' tk d l vs' ss' e k fr el st pm so' => ?_
  have : ss' = SS := sorted_same so' so pm (List.Perm.refl _) hS.nodup nd M
  subst this
  exact h l vs' e h' tk d (Fr.same F k) (News.put F (News.same N k) el fr) st
theorem sorted_new_own {Q : Value → Shared → Prop} (hh : A.handled = none) (F : Fr h₀ L s.heap m) (N : News h₀ L s.heap news) (hm : (S, o) ∈ news) (hS : SetO w o "set" k') (lS : k'.length ≤ 20)
    (h : ∀ l vs e h' tk d SS, Fr h₀ L h' m → News h₀ L h' ((l, listO vs e) :: news) → StrsAre vs SS → sortedS SS = true → SS.Nodup → (∀ y, y ∈ SS ↔ y ∈ k') → SS.length = k'.length → Q (.ref l) { s with heap := h', toks := tk, drawn := d }) :
    wpAny (model prog w) A (call (.builtin "sorted") [.ref S]) Q E s :=
  sorted_set hh (.inl rfl) ⟨o, (N _ hm).1, hS⟩ (by omega) fun h' tk d l vs' ss' e k fr el st pm so' => h l vs' e h' tk d ss' (Fr.same F k) (News.put F (News.same N k) el fr) st so' (pm.symm.nodup hS.nodup) (fun y => pm.mem_iff) pm.length_eq
theorem sorted_list_own {ss : List Str} {Q : Value → Shared → Prop} (F : Fr h₀ L s.heap m) (N : News h₀ L s.heap news) (hm : (l, listO vs e) ∈ news) (hS : StrsAre vs ss) (pm : ss.Perm ks) (nk : ks.Nodup) (M : ∀ y, y ∈ ks ↔ y ∈ SS) (so : sortedS SS = true) (nd : SS.Nodup) (lS : SS.length ≤ 20)
    (h : ∀ l vs e h', Fr h₀ L h' m → News h₀ L h' ((l, listO vs e) :: news) → StrsAre vs SS → Q (.ref l) { s with heap := h' }) :
    wpAny (model prog w) A (call (.builtin "sorted") [.ref l]) Q E s := by
  have ln := nodup_le nk fun x hx => (M x).mp hx
  refine sorted_list_strs (list_of_news N hm) hS (by rw [strs_len hS, pm.length_eq]; omega) fun h' l' vs' ss' e' k fr el st pm' so' => ?_
  have : ss' = SS := sorted_same so' so (pm'.trans pm) (List.Perm.refl _) nk nd M
  subst this
  exact h l' vs' e' h' (Fr.same F k) (News.put F (News.same N k) el fr) st
theorem set_strs_own {ss : List Str} {Q : Value → Shared → Prop} (hh : A.handled = none) (F : Fr h₀ L s.heap m) (N : News h₀ L s.heap news) (hm : (l, listO vs e) ∈ news) (hS : StrsAre vs ss) (hb : vs.length ≤ 100)
    (h : ∀ S o k' h' tk, Fr h₀ L h' m → News h₀ L h' ((S, o) :: news) → SetO w o "set" k' → (∀ y, y ∈ k' ↔ y ∈ ss) → k'.length ≤ ss.length → Q (.ref S) { s with heap := h', toks := tk }) :
    wpAny (model prog w) A (call (.type "set") [.ref l]) Q E s :=
  call_set_strs hh (list_of_news N hm) hS (by unfold scanBound; omega) fun h' tk ks k ⟨o, e1, e2⟩ mm ll => h _ o ks h' tk (Fr.same F k) (News.put F (News.same N k) e1 (none_size _)) e2 mm ll
end
end Et
end
section
open PySem PySem.W PySem.Calls PyProof.Rows
set_option Elab.async false
set_option maxRecDepth 100000
namespace Et
/-- what a value of the ledger reads as -/
def Rd (news : List (Addr × Obj)) (v : Value) (d : PyData) : Prop := ∀ (g h : Heap) (L : Addr), News g L h news → ∃ as, Reads h v d as
def RdAll (news : List (Addr × Obj)) (vs : List Value) (ds : List PyData) : Prop := ∀ (g h : Heap) (L : Addr), News g L h news → ∃ as, ReadsAll h vs ds as
section
variable {news : List (Addr × Obj)} {a : Addr} {n e : Nat}
theorem Rd.bool (b : Bool) : Rd news (.bool b) (.bool b) := fun _ _ _ _ => ⟨_, .bool b⟩
theorem Rd.int (i : Int) (t : Tok) : Rd news (.int i t) (.int i) := fun _ _ _ _ => ⟨_, .int i t⟩
theorem Rd.str (x : Str) (t : Tok) : Rd news (.str x t) (.str x) := fun _ _ _ _ => ⟨_, .str x t⟩
theorem RdAll.nil : RdAll news [] [] := fun _ _ _ _ => ⟨_, .nil⟩
theorem RdAll.cons {v : Value} {d : PyData} {vs : List Value} {ds : List PyData} (h : Rd news v d) (hr : RdAll news vs ds) : RdAll news (v :: vs) (d :: ds) := fun g h' L N =>
  let ⟨_, a⟩ := h g h' L N
  let ⟨_, b⟩ := hr g h' L N
  ⟨_, .cons a b⟩
theorem Rd.list {vs : Array Value} {ds : List PyData} (hm : (a, ({ cls := .type "list", data := .seq vs n } : Obj)) ∈ news) (h : RdAll news vs.toList ds) : Rd news (.ref a) (.list ds) := fun g h' L N =>
  let ⟨_, b⟩ := h g h' L N
  ⟨_, .list (N _ hm).1 rfl rfl b⟩
theorem Rd.tuple {vs : Array Value} {ds : List PyData} (hm : (a, ({ cls := .type "tuple", data := .seq vs n } : Obj)) ∈ news) (h : RdAll news vs.toList ds) : Rd news (.ref a) (.tuple ds) := fun g h' L N =>
  let ⟨_, b⟩ := h g h' L N
  ⟨_, .tuple (N _ hm).1 rfl rfl b⟩
theorem reads_strs {h : Heap} : ∀ {vs : List Value} {ss : List Str}, StrsAre vs ss → ReadsAll h vs (ss.map PyData.str) []
  | _, _, .nil => .nil
  | _, _, .cons x t r => by
    have := ReadsAll.cons (Reads.str (h := h) x t) (reads_strs (h := h) r)
    simpa using this
theorem Rd.strs {vs : List Value} {ss : List Str} (hm : (a, listO vs e) ∈ news) (hS : StrsAre vs ss) : Rd news (.ref a) (.list (ss.map .str)) := fun g h' L N =>
  ⟨_, .list (N _ hm).1 rfl rfl (by simpa using reads_strs hS)⟩
end
theorem lay_strs : ∀ {ss : List Str}, (∀ x ∈ ss, x ∈ nms) → PyData.canLayAll0 (ss.map .str) = true
  | [], _ => rfl
  | x :: r, h => by
    have h1 : PyData.strOk x = true := (by decide +kernel : ∀ k ∈ nms, PyData.strOk k = true) x (h x (.head _))
    have h2 := lay_strs fun y hy => h y (.tail _ hy)
    simp only [List.map_cons, PyData.canLayAll0, PyData.canLay0, h1, h2, Bool.and_self]
theorem depth_strs : ∀ ss : List Str, PyData.depthAll (ss.map .str) ≤ 1
  | [] => by simp [PyData.depthAll]
  | x :: r => by
    have := depth_strs r
    simp only [List.map_cons, PyData.depthAll, PyData.depth]
    omega
section
variable {prog : Program} {w : World} {A : Around} {E : Value → Shared → Prop} {s : Shared} {g : Heap} {L : Addr} {news : List (Addr × Obj)} {v1 v2 : Value} {d : PyData}
theorem shaped_of (h1 : d.canLay0 = true) (h2 : d.depth ≤ 64) : SeqAt.shaped d = true := by
  unfold SeqAt.shaped
  rw [h1, decide_eq_true h2]; rfl
theorem ne_same_own {Q : Value → Shared → Prop} (N : News g L s.heap news) (r1 : Rd news v1 d) (r2 : Rd news v2 d) (h1 : d.canLay0 = true) (h2 : d.depth ≤ 64) (hu : A.units + 64 < cLine) (h : Q (.bool false) s) :
    wpAny (model prog w) A (compareOp .NotEq v1 v2) Q E s := by
  obtain ⟨_, a⟩ := r1 _ _ _ N
  obtain ⟨_, b⟩ := r2 _ _ _ N
  refine ne_dataH a b (shaped_of h1 h2) (shaped_of h1 h2) hu ?_
  rw [PySem.SeqAt.eqv_refl d h1]; exact h
theorem eq_same_own {Q : Value → Shared → Prop} (N : News g L s.heap news) (r1 : Rd news v1 d) (r2 : Rd news v2 d) (h1 : d.canLay0 = true) (h2 : d.depth ≤ 64) (hu : A.units + 64 < cLine) (h : Q (.bool true) s) :
    wpAny (model prog w) A (compareOp .Eq v1 v2) Q E s := by
  obtain ⟨_, a⟩ := r1 _ _ _ N
  obtain ⟨_, b⟩ := r2 _ _ _ N
  refine eq_dataH a b (shaped_of h1 h2) (shaped_of h1 h2) hu ?_
  rw [PySem.SeqAt.eqv_refl d h1]; exact h
theorem ne_nil_own {l b : Addr} {vs : List Value} {ss : List Str} {e e2 : Nat} {Q : Value → Shared → Prop} (N : News g L s.heap news) (m1 : (l, listO vs e) ∈ news) (hS : StrsAre vs ss) (m2 : (b, ({ cls := .type "list", data := .seq #[] e2 } : Obj)) ∈ news) (hm : ∀ x ∈ ss, x ∈ nms) (hu : A.units + 64 < cLine)
    (h : Q (.bool (decide (0 < ss.length))) s) : wpAny (model prog w) A (compareOp .NotEq (.ref l) (.ref b)) Q E s := by
  obtain ⟨_, a⟩ := Rd.strs m1 hS _ _ _ N
  obtain ⟨_, b⟩ := Rd.list m2 RdAll.nil _ _ _ N
  have dp := depth_strs ss
  refine ne_dataH a b (shaped_of (by simp only [PyData.canLay0]; exact lay_strs hm) (by simp only [PyData.depth]; omega)) (shaped_of rfl (by decide)) hu ?_
  cases ss with
  | nil => exact h
  | cons x r => exact h
theorem rows_all {h : Heap} {vs : List Value} {rs : List (Str × Bool)} (hR : RowsIn news vs rs) (N : News g L h news) : ∃ as, ReadsAll h vs (rs.map fun r => .tuple [.str r.1, .bool r.2]) as := by
  induction hR with
  | nil => exact ⟨_, .nil⟩
  | @cons a tk e n b vs rs hm _ ih =>
    obtain ⟨as, q⟩ := ih
    exact ⟨_, .cons (.tuple (N _ hm).1 rfl rfl (.cons (.str n tk) (.cons (.bool b) .nil))) q⟩
theorem in_rows_own {T l : Addr} {n : Str} {t : Tok} {e en : Nat} {vs : List Value} {rs : List (Str × Bool)} {Q : Value → Shared → Prop} (N : News g L s.heap news) (mT : (T, ({ cls := .type "tuple", data := .seq #[.str n t, .bool true] en } : Obj)) ∈ news) (ml : (l, listO vs e) ∈ news)
    (hR : RowsIn news vs rs) (hn : PyData.strOk n = true) (hrs : ∀ r ∈ rs, r.1 ∈ nms) (hu : A.units + 64 < cLine) (h : Q (.bool (rs.any fun r => r == (n, true))) s) :
    wpAny (model prog w) A (compareOp .In (.ref T) (.ref l)) Q E s := by
  obtain ⟨as, ra⟩ := rows_all hR N
  have rx : Reads s.heap (.ref T) (.tuple [.str n, .bool true]) _ := .tuple (N _ mT).1 rfl rfl (.cons (.str n t) (.cons (.bool true) .nil))
  have ok : ∀ k ∈ nms, PyData.strOk k = true := by decide +kernel
  have lay : ∀ rs : List (Str × Bool), (∀ r ∈ rs, r.1 ∈ nms) → PyData.canLayAll0 (rs.map fun r => .tuple [.str r.1, .bool r.2]) = true := by
    intro rs
    induction rs with
    | nil => intro _; rfl
    | cons r rs ih =>
      intro h
      have h1 := ok _ (h r (.head _))
      have h2 := ih fun x hx => h x (.tail _ hx)
      simp only [List.map_cons, PyData.canLayAll0, PyData.canLay0, h1, h2, Bool.and_self]
  have any : ∀ rs : List (Str × Bool), ((rs.map fun r => PyData.tuple [.str r.1, .bool r.2]).any fun y => PyData.eqv y (.tuple [.str n, .bool true])) = rs.any fun r => r == (n, true) := by
    intro rs
    induction rs with
    | nil => rfl
    | cons r rs ih =>
      rw [List.map_cons, List.any_cons, List.any_cons, ih]
      congr 1
      obtain ⟨a, b⟩ := r
      simp only [PyData.eqv, PyData.eqvAll, Bool.and_true]
      rfl
  refine SeqAt.in_list_reads (.list (N _ ml).1 rfl rfl (by simpa using ra)) rx (lay rs hrs) (by simp [PyData.canLay0, PyData.canLayAll0, hn]) ?_ (by rw [any]; exact h)
  have := Nat.min_le_right (PyData.depthAll (rs.map fun r => PyData.tuple [.str r.1, .bool r.2])) (PyData.tuple [.str n, .bool true]).depth
  have e : (PyData.tuple [.str n, .bool true]).depth ≤ 4 := by simp [PyData.depth, PyData.depthAll]
  omega
theorem in_list_own {l : Addr} {n : Str} {t : Tok} {e : Nat} {vs : List Value} {ss : List Str} {b : Bool} {Q : Value → Shared → Prop} (N : News g L s.heap news) (ml : (l, listO vs e) ∈ news) (hS : StrsAre vs ss) (hb : decide (n ∈ ss) = b) (h : Q (.bool b) s) :
    wpAny (model prog w) A (compareOp .In (.str n t) (.ref l)) Q E s := by
  refine in_list_strs (list_of_news N ml) hS ?_
  have : ss.any (· == n) = decide (n ∈ ss) := by
    rw [Bool.eq_iff_iff, List.any_eq_true, decide_eq_true_eq]
    exact ⟨fun ⟨x, hx, e⟩ => (beq_iff_eq.mp e) ▸ hx, fun hx => ⟨n, hx, beq_self_eq_true n⟩⟩
  rw [this, hb]; exact h
end
end Et
end
section
open PySem PySem.W PySem.Calls PyProof.Rows
set_option Elab.async false
set_option maxRecDepth 100000
namespace Et
section
variable {w : World} {dp un : Nat} {gd : Option (List Code)} {cn : Str} {cs : Scope} {L a : Addr} {ccd : Value} {cl : List (Str × Addr)} {outer : List Env}
    {A₀ : Around} {base h₀ : Heap} {m : Str → Option Value} {s : Shared} {p : Program} {loose : List Str} {mean : ExcName → Option Value} {mg mb : Str → Option Value}
theorem items_use {st nums : Addr} {at_ : Int} {ta : Tok} {e en : Nat} {vs : List Value} {ns : List Int} {Q : Value → Shared → Prop} (B : Below A₀ base outer h₀) (F : Fr h₀ L s.heap m) (X : (Et.hd.heap_39 w.params).In h₀) (Tp : Top p loose mean mg mb h₀) (hk : cs.kind = .function)
    {I : Addr} {oI : Obj} (N : News h₀ L s.heap [(st, stO nums at_ ta e), (nums, listO vs en), (I, oI)]) (hI : I ≠ st) (hi : IntsAre vs ns) (hns : st ≠ nums) (hn : 0 < vs.length) (hn2 : vs.length ≤ 100) (hall : ∀ n ∈ ns, 0 ≤ n ∧ n < 10000000) (ha : 0 ≤ at_) (ha2 : at_ < 90000) (hd : dp + 40 < 1000) (hu : un + 200 < cLine)
    (h : ∀ (R rl : Addr) (vr : List Value) (er : Nat) (tx : Tok) (tl : List (Addr × Obj)) (its : List Item) (at' : Int) (t' : Tok) (e' : Nat) (h' : Heap) (tk : Nat), Fr h₀ L h' m → News h₀ L h' ((R, ({ cls := .type "tuple", data := .seq #[.ref rl, .str (Txt.join (Str.ofString ",") (its.map Item.txt)) tx] } : Obj)) :: (rl, listO vr er) :: (st, stO nums at' t' e') :: (nums, listO vs en) :: (I, oI) :: tl) →
      RowsIn tl vr (its.filterMap Item.row) → (∀ it ∈ its, Good it) → its.length ≤ 7 → at_ ≤ at' → at' ≤ at_ + 80 → Q (.ref R) { s with heap := h', toks := tk }) :
    wpAny (model PySem.Challenge.rw_ez0423_01.row.prog w) (top dp un gd cn cs L a ccd cl outer) (call (.ref 190) [.ref st]) Q (fun _ _ => False) s := by
  have zs := N _ (.head _)
  have zn := N _ (.tail _ (.head _))
  refine wpAny_mono (items_c B F X Tp hk zs.1 zs.2.1 zs.2.2 ⟨_, zn.1, rfl, _, rfl⟩ hns hi hn hn2 hall ha ha2 hd hu) (fun r s' hr => ?_) fun _ _ e => e
  obtain ⟨aft, dr, R, rl, vr, er, tx, tl, its, at', t', e', rfl, a1, a2, a3, b1, b2, b3, hR, good, len, a4, c1, c2, d1, d2, d3, off⟩ := hr
  rw [split_after aft, dr]
  have other : ∀ b o, b ≠ st → s.heap.get? b = some o → s'.heap.get? b = some o := fun b o hb e => aft.keep b o (by simpa using hb) e
  have F' : Fr h₀ L s'.heap m := ⟨F.ns.at' fun o e => other L o (Ne.symm zs.2.1) e, fun b o e => other b o (fun q => by rw [q, zs.2.2] at e; cases e) (F.keep b o e), F.above⟩
  have N0 : News h₀ L s'.heap ((st, stO nums at' t' e') :: (nums, listO vs en) :: (I, oI) :: tl) := fun p hp => by
    rcases List.mem_cons.mp hp with rfl | hp
    · exact ⟨a4, zs.2⟩
    rcases List.mem_cons.mp hp with rfl | hp
    · exact ⟨other _ _ (Ne.symm hns) zn.1, zn.2⟩
    rcases List.mem_cons.mp hp with rfl | hp
    · exact ⟨other _ _ hI (N _ (.tail _ (.tail _ (.head _)))).1, (N _ (.tail _ (.tail _ (.head _)))).2⟩
    · have hne : p.1 ≠ st := off p hp _ (by simp)
      exact (News.put (news := []) F News.nil (a3 p hp) (hide_none (b3 p hp) hne)) _ (.head _)
  exact h R rl vr er tx tl its at' t' e' s'.heap s'.toks F' (News.put F (News.put F N0 a2 (hide_none b2 d3)) a1 (hide_none b1 d2)) hR good len c1 c2
theorem in_own' {prog : Program} {A : Around} {E : Value → Shared → Prop} {g : Heap} {S : Addr} {news : List (Addr × Obj)} {oS : Obj} {ks : List Str} {k : Str} {tk : Tok} {b : Bool} {Q : Value → Shared → Prop} (N : News g L s.heap news) (hm : (S, oS) ∈ news) (hS : SetO w oS "frozenset" ks) (hsz : ks.length ≤ 7) (hb : decide (k ∈ ks) = b)
    (h : ∀ t, Q (.bool b) { s with toks := t }) : wpAny (model prog w) A (compareOp .In (.str k tk) (.ref S)) Q E s := in_own N hm hS (by omega) fun t => by rw [hb]; exact h t
end
end Et
end
section
open PySem PySem.W PySem.Calls PyProof.Rows
set_option Elab.async false
set_option maxRecDepth 100000
namespace Et
section
variable {prog : Program} {w : World} {A : Around} {E : Value → Shared → Prop} {s : Shared} {env : Env}
theorem execs_app (b : List Stmt) : ∀ a : List Stmt, execs (a ++ b) env = (execs a env >>= fun f => match f with | .next => execs b env | f => pure f)
  | [] => by rw [List.nil_append, execs_nil, pure_bind]
  | x :: a => by
    rw [List.cons_append, execs_cons, execs_cons, bind_assoc]
    congr 1
    funext f
    cases f <;> first | exact execs_app b a | rfl
def CutAt (Inv : Shared → Prop) (f : Flow) (s : Shared) : Prop := f = .next ∧ Inv s
theorem execs_cut {Q : Flow → Shared → Prop} (Inv : Shared → Prop) (n : Nat) {l : List Stmt} (h1 : wpAny (model prog w) A (execs (l.take n) env) (CutAt Inv) E s) (h2 : ∀ s', Inv s' → wpAny (model prog w) A (execs (l.drop n) env) Q E s') :
    wpAny (model prog w) A (execs l env) Q E s := by
  have e := execs_app (env := env) (l.drop n) (l.take n)
  rw [List.take_append_drop] at e
  rw [e]
  refine wpAny_bind (wpAny_mono h1 (fun f s' h => ?_) fun _ _ x => x)
  obtain ⟨rfl, hi⟩ := h
  exact h2 s' hi
/-- a place where the walk rests -/
def Stop (P : Prop) : Prop := P
theorem stop {P : Prop} (h : Stop P) : P := h
/-- a comparison to be told by hand -/
def NeStop (prog : Program) (w : World) (A : Around) (E : Value → Shared → Prop) (v1 v2 : Value) (Q : Value → Shared → Prop) (s : Shared) : Prop := wpAny (model prog w) A (compareOp .NotEq v1 v2) Q E s
theorem ne_stop {v1 v2 : Value} {Q : Value → Shared → Prop} (h : NeStop prog w A E v1 v2 Q s) : wpAny (model prog w) A (compareOp .NotEq v1 v2) Q E s := h
end
end Et
end
section
open PySem PySem.W PySem.Calls PyProof.Rows
set_option Elab.async false
set_option maxRecDepth 100000
namespace Et
theorem plain_bool_new : plainId "bool.__new__" = true := by decide +kernel
section
variable {prog : Program} {w : World} {A : Around} {E : Value → Shared → Prop} {s : Shared}
theorem bool_new_1 {x : Value} {Q : Value → Shared → Prop} (h : wpAny (model prog w) A.in1 (truthy x) (fun b s' => Q (.bool b) s') E s) :
    codeAny (model prog w) A (.call (.builtin "bool.__new__") ⟨[.type "bool", x], []⟩) (wants (fun v s' => s'.TypeIs v "bool" ∧ Q v s') E) s := by
  refine codeAny_of_tree ?_
  show wpAny _ A.in1 (do checkBuiltinCall "bool.__new__" ⟨[.type "bool", x], []⟩; again (.builtin "bool.__new__" ⟨[.type "bool", x], []⟩)) _ _ s
  refine wpAny_bind (wpAny_of_eq (F.newCall_bool_1 x) (wpAny_pure ⟨plainId_quiet plain_bool_new _, codeAny_builtin F.entry_bool_new ?_⟩))
  rw [Around.under_plainId plain_bool_new _]
  have hsub := F.conv_sub_bool
  obtain ⟨hp, g, d, tk, os⟩ := s
  unfold Builtin.«bool.__new__»
  generalize hT : truthy = TR at h ⊢
  wp_walk
  refine wpAny_mono h (fun b s' q => ?_) fun _ _ e => e
  exact wpAny_pure ⟨rfl, q⟩
theorem call_bool_own {x : Value} {Q : Value → Shared → Prop} (h : wpAny (model prog w) A.in1.in1 (truthy x) (fun b s' => Q (.bool b) s') E s) : wpAny (model prog w) A (call (.type "bool") [x]) Q E s :=
  callType_codes F.called_bool (F.typeCall_bool_1 x) F.entry_object_init (bool_new_1 h) fun obj s₁ hq =>
    ⟨hq.1, F.args_object_init_2 obj x, (object_init_meets F.slot_bool_init.lookup F.called_bool.made (by decide)) prog w A.in1 _ s₁ ⟨hq.1, rfl, hq.2⟩⟩
end
end Et
end
section
open PySem PySem.W PySem.Calls PyProof.Rows
set_option Elab.async false
set_option maxRecDepth 100000
namespace Et
/-- between two turns of the law -/
def LawT (g : Heap) (L st nums : Addr) (ws : List Value) (en : Nat) (i : Nat) (h : Heap) : Prop :=
  ∃ m at' t' e', Fr g L h m ∧ m (Str.ofString "state") = some (.ref st) ∧ News g L h [(st, stO nums at' t' e'), (nums, listO ws en)] ∧ 0 ≤ at' ∧ at' ≤ 80 * i
theorem state_name {m : Str → Option Value} {st : Addr} (h : m (Str.ofString "state") = some (.ref st)) : m = fun y => if y = Str.ofString "state" then some (.ref st) else m y := by
  funext y
  split
  · next e => rw [e, h]
  · rfl
def TurnE (g : Heap) (L st nums : Addr) (ws : List Value) (en : Nat) (I : Addr) (oI : Obj) (i : Nat) (gs : Array GenState) (os : OsState) (s : Shared) : Prop :=
  (∃ m at' t' e', Fr g L s.heap m ∧ m (Str.ofString "state") = some (.ref st) ∧ News g L s.heap [(st, stO nums at' t' e'), (nums, listO ws en), (I, oI)] ∧ 0 ≤ at' ∧ at' ≤ 80 * ((i : Int) + 1)) ∧ s.gens = gs ∧ s.os = os
theorem News.two {g h : Heap} {L : Addr} {a b : Addr × Obj} {r : List (Addr × Obj)} (N : News g L h (a :: b :: r)) : News g L h [a, b] := fun p hp => by
  rcases List.mem_cons.mp hp with rfl | hp
  · exact N _ (.head _)
  · rw [List.mem_singleton] at hp; subst hp; exact N _ (.tail _ (.head _))
section
variable {prog : Program} {w : World} {A : Around} {s : Shared} {env : Env}
theorem law_loop {x : Str} {body : List Stmt} {Q : Flow → Shared → Prop} {h g : Heap} {tk₀ : Nat} {L st nums : Addr} {m : Str → Option Value} {ws : List Value} {en : Nat} {t : Tok} {e : Nat} (F : Fr g L h m) (N : News g L h [(st, stO nums 0 t e), (nums, listO ws en)]) (hm : m (Str.ofString "state") = some (.ref st)) (HH : A.handled = none)
    (turn : ∀ (gs : Array GenState) (os : OsState) (i : Nat) (h₁ : Heap) (d : Drawn) (tk : Nat) (tv : Tok) (I : Addr) (oI : Obj) (m₁ : Str → Option Value) (at' : Int) (t' : Tok) (e' : Nat), gs = s.gens → os = s.os → i < 3 → Fr g L h₁ m₁ → m₁ (Str.ofString "state") = some (.ref st) → News g L h₁ [(st, stO nums at' t' e'), (nums, listO ws en), (I, oI)] → I ≠ st → 0 ≤ at' → at' ≤ 80 * i →
      wpAny (model prog w) A (storeName env x (.int (0 + (i : Int) * 1) tv)) (fun _ s₃ => wpAny (model prog w) A (execs body env) (fun f s₄ => match f with
        | .next | .cont => TurnE g L st nums ws en I oI i gs os s₄
        | .brk => False
        | .ret _ => False) (fun _ _ => False) s₃) (fun _ _ => False) { heap := h₁, gens := gs, drawn := d, toks := tk, os := os })
    (done : ∀ (h₁ : Heap) (d : Drawn) (tk : Nat) (m₁ : Str → Option Value) (at' : Int) (t' : Tok) (e' : Nat), Fr g L h₁ m₁ → m₁ (Str.ofString "state") = some (.ref st) → News g L h₁ [(st, stO nums at' t' e'), (nums, listO ws en)] → Q .next { s with heap := h₁, drawn := d, toks := tk }) :
    Loop prog w A env x body Q (.ref h.objs.size) { s with heap := h.push { cls := .type "range_iterator", data := .fields #[rawInt 0, rawInt (3 : Nat), rawInt 1] }, toks := tk₀ } := by
  have I0 : g.get? h.objs.size = none := next_is_new F
  have IL : h.objs.size ≠ L := fun q => Nat.lt_irrefl _ (q ▸ F.ns.lt)
  have z1 : h.objs.size ≠ st := Nat.ne_of_gt (Heap.lt_size (N _ (.head _)).1)
  have z2 : h.objs.size ≠ nums := Nat.ne_of_gt (Heap.lt_size (N _ (.tail _ (.head _))).1)
  refine ⟨h.objs.size, _, 3, _, _, fun i s₂ => LawT g L st nums ws en i s₂.heap ∧ s₂.gens = s.gens ∧ s₂.os = s.os, rfl, Walks.range HH h.objs.size 0 1 3, ?_, ?_, ?_, ?_⟩
  · show IsRangeIter _ _ _ _ _
    simpa using Heap.get?_push_size h rfl
  · have up : ∀ b o, h.get? b = some o → (h.push { cls := .type "range_iterator", data := .fields #[rawInt 0, rawInt (3 : Nat), rawInt 1] }).get? b = some o := fun b o e => Heap.get?_push_of_some _ e
    exact ⟨⟨m, 0, t, e, Fr.same (s := { s with heap := h }) F up, hm, News.same (s := { s with heap := h }) N up, Int.le_refl _, by omega⟩, rfl, rfl⟩
  · rintro i s₁ hi ⟨⟨m₁, at', t', e', F₁, hm₁, N₁, lo, hi'⟩, c1, c2⟩ v h₂ tk ⟨tv, rfl⟩ hSt hk
    obtain ⟨h₁, g₁, d₁, tk₁, os₁⟩ := s₁
    dsimp only at c1 c2 hSt hk F₁ N₁
    subst c1; subst c2
    have F₂ : Fr g L h₂ m₁ := ⟨F₁.ns.at' fun o q => hk L o (Ne.symm IL) q, fun b o q => hk b o (fun z => by rw [z, I0] at q; cases q) (F₁.keep b o q), F₁.above⟩
    have N₂ : News g L h₂ [(st, stO nums at' t' e'), (nums, listO ws en), (h.objs.size, ({ cls := .type "range_iterator", data := .fields #[rawInt (0 + ((i + 1 : Nat) : Int) * 1), rawInt ((3 : Nat) - ((i + 1 : Nat) : Int)), rawInt 1] } : Obj))] := fun p hp => by
      rcases List.mem_cons.mp hp with rfl | hp
      · exact ⟨hk _ _ (Ne.symm z1) (N₁ _ (.head _)).1, (N₁ _ (.head _)).2⟩
      rcases List.mem_cons.mp hp with rfl | hp
      · exact ⟨hk _ _ (Ne.symm z2) (N₁ _ (.tail _ (.head _))).1, (N₁ _ (.tail _ (.head _))).2⟩
      rw [List.mem_singleton] at hp
      subst hp
      exact ⟨hSt, IL, I0⟩
    refine wpAny_mono (turn s.gens s.os i h₂ d₁ tk tv h.objs.size _ m₁ at' t' e' rfl rfl hi F₂ hm₁ N₂ z1 lo hi') (fun _ s₃ h₃ => wpAny_mono h₃ (fun f s₄ h₄ => ?_) fun _ _ e => e) fun _ _ e => e
    cases f with
    | next =>
      obtain ⟨⟨m₂, a₂, t₂, e₂, F₃, hm₃, N₃, lo₃, hi₃⟩, c1, c2⟩ := h₄
      exact ⟨(N₃ _ (.tail _ (.tail _ (.head _)))).1, ⟨m₂, a₂, t₂, e₂, F₃, hm₃, News.two N₃, lo₃, by push_cast; omega⟩, c1, c2⟩
    | cont =>
      obtain ⟨⟨m₂, a₂, t₂, e₂, F₃, hm₃, N₃, lo₃, hi₃⟩, c1, c2⟩ := h₄
      exact ⟨(N₃ _ (.tail _ (.tail _ (.head _)))).1, ⟨m₂, a₂, t₂, e₂, F₃, hm₃, News.two N₃, lo₃, by push_cast; omega⟩, c1, c2⟩
    | brk => exact h₄.elim
    | ret v => exact h₄.elim
  · rintro s₁ ⟨⟨m₁, at', t', e', F₁, hm₁, N₁, lo, hi'⟩, c1, c2⟩ h₂ tk hk
    obtain ⟨h₁, g₁, d₁, tk₁, os₁⟩ := s₁
    dsimp only at c1 c2 hk F₁ N₁
    subst c1; subst c2
    have F₂ : Fr g L h₂ m₁ := ⟨F₁.ns.at' fun o q => hk L o (Ne.symm IL) q, fun b o q => hk b o (fun z => by rw [z, I0] at q; cases q) (F₁.keep b o q), F₁.above⟩
    refine done h₂ d₁ tk m₁ at' t' e' F₂ hm₁ fun p hp => ?_
    rcases List.mem_cons.mp hp with rfl | hp
    · exact ⟨hk _ _ (Ne.symm z1) (N₁ _ (.head _)).1, (N₁ _ (.head _)).2⟩
    · rw [List.mem_singleton] at hp
      subst hp
      exact ⟨hk _ _ (Ne.symm z2) (N₁ _ (.tail _ (.head _))).1, (N₁ _ (.tail _ (.head _))).2⟩
end
theorem script_facts {ws : List Value} {l : List Int} (h : IntsAre ws (List.map (fun k' => (if k' < 0 then -k' else k').fmod 1000003) (List.take 24 l) ++ [5, 0, 11])) :
    0 < ws.length ∧ ws.length ≤ 100 ∧ ∀ n ∈ (List.map (fun k' : Int => (if k' < 0 then -k' else k').fmod 1000003) (List.take 24 l) ++ [5, 0, 11]), 0 ≤ n ∧ n < 10000000 := by
  have e := h.length
  rw [List.length_append, List.length_map, List.length_take] at e
  simp only [List.length_cons, List.length_nil] at e
  refine ⟨by omega, by omega, fun n hn => ?_⟩
  rcases List.mem_append.mp hn with hn | hn
  · obtain ⟨k, _, rfl⟩ := List.mem_map.mp hn
    have := fmod_pos' (if k < 0 then -k else k) (b := 1000003) (by decide)
    omega
  · simp at hn; omega
structure InvA (w : World) (g : Heap) (L st nums I : Addr) (oI : Obj) (ws : List Value) (en i : Nat) (h : Heap) (m : Str → Option Value) (x dx fs fw rl : Addr) (t1 t2 t3 : Tok) (oF oW : Obj) (ks kw : List Str) (vr : List Value) (er : Nat) (tl : List (Addr × Obj)) (its : List Item) (at' : Int) (t' : Tok) (e' : Nat) : Prop where
  fr : Fr g L h m
  ns : m (Str.ofString "state") = some (.ref st)
  nr : m (Str.ofString "rows") = some (.ref rl)
  nt : m (Str.ofString "told") = some (.ref x)
  led : News g L h ((x, instObj 140 dx) :: (dx, tagsD w.params fs fw false t1 t2 t3) :: (fs, oF) :: (fw, oW) :: (rl, listO vr er) :: (st, stO nums at' t' e') :: (nums, listO ws en) :: (I, oI) :: tl)
  rows : RowsIn tl vr (its.filterMap Item.row)
  good : ∀ it ∈ its, Good it
  len : its.length ≤ 7
  hF : SetO w oF "frozenset" ks
  mF : ∀ y, y ∈ ks ↔ y ∈ strongs its
  hW : SetO w oW "frozenset" kw
  mW : ∀ y, y ∈ kw ↔ y ∈ weaks its
  lF : ks.length ≤ 7
  lW : kw.length ≤ 7
  lo : 0 ≤ at'
  hi : at' ≤ 80 * (i + 1)
def InvAx {w : World} {g h : Heap} {L st nums I : Addr} {oI : Obj} {ws : List Value} {en : Nat} {at₀ : Int} {t₀ : Tok} {e₀ : Nat} (_X : (Et.hd.heap_39 w.params).In g) (_N : News g L h [(st, stO nums at₀ t₀ e₀), (nums, listO ws en), (I, oI)]) (i : Nat) (gs : Array GenState) (os : OsState) (s' : Shared) : Prop :=
  (∃ m x dx fs fw rl t1 t2 t3 oF oW ks kw vr er tl its at' t' e', InvA w g L st nums I oI ws en i s'.heap m x dx fs fw rl t1 t2 t3 oF oW ks kw vr er tl its at' t' e') ∧ s'.gens = gs ∧ s'.os = os
theorem News.drop5 {g h : Heap} {L : Addr} {a b c d e : Addr × Obj} {r : List (Addr × Obj)} (N : News g L h (a :: b :: c :: d :: e :: r)) : News g L h (a :: b :: c :: d :: r) := fun p hp => by
  rcases List.mem_cons.mp hp with rfl | hp
  · exact N _ (.head _)
  rcases List.mem_cons.mp hp with rfl | hp
  · exact N _ (.tail _ (.head _))
  rcases List.mem_cons.mp hp with rfl | hp
  · exact N _ (.tail _ (.tail _ (.head _)))
  rcases List.mem_cons.mp hp with rfl | hp
  · exact N _ (.tail _ (.tail _ (.tail _ (.head _))))
  · exact N _ (.tail _ (.tail _ (.tail _ (.tail _ (.tail _ hp)))))
theorem strongs_le (its : List Item) : (strongs its).length ≤ its.length := List.length_filterMap_le _ _
theorem weaks_le (its : List Item) : (weaks its).length ≤ its.length := List.length_filterMap_le _ _
theorem InvA.names {w : World} {g : Heap} {L st nums I : Addr} {oI : Obj} {ws : List Value} {en i : Nat} {h : Heap} {m : Str → Option Value} {x dx fs fw rl : Addr} {t1 t2 t3 : Tok} {oF oW : Obj} {ks kw : List Str} {vr : List Value} {er : Nat} {tl : List (Addr × Obj)} {its : List Item} {at' : Int} {t' : Tok} {e' : Nat}
    (P : InvA w g L st nums I oI ws en i h m x dx fs fw rl t1 t2 t3 oF oW ks kw vr er tl its at' t' e') : m = fun y => if y = Str.ofString "told" then some (.ref x) else if y = Str.ofString "rows" then some (.ref rl) else if y = Str.ofString "state" then some (.ref st) else m y := by
  funext y
  split
  · next e => rw [e, P.nt]
  split
  · next e => rw [e, P.nr]
  split
  · next e => rw [e, P.ns]
  · rfl

theorem told_strong (its : List Item) : told (fun r => !r.2) (its.filterMap Item.row) = strongs its := by
  induction its with
  | nil => rfl
  | cons it l ih =>
    unfold told strongs at ih ⊢
    rw [List.filterMap_cons, List.filterMap_cons]
    cases hr : it.row with
    | none => simpa using ih
    | some r =>
      obtain ⟨n, b⟩ := r
      cases b <;> simpa using ih
theorem told_every (its : List Item) : ∀ y, y ∈ told (fun _ => true) (its.filterMap Item.row) ↔ (y ∈ strongs its ∨ y ∈ weaks its) := by
  induction its with
  | nil => intro y; simp [told, strongs, weaks]
  | cons it l ih =>
    intro y
    have ih := ih y
    unfold told strongs weaks at ih ⊢
    rw [List.filterMap_cons, List.filterMap_cons, List.filterMap_cons]
    cases hr : it.row with
    | none => simpa using ih
    | some r =>
      obtain ⟨n, b⟩ := r
      cases b
      · simp at ih ⊢
        rw [ih]
        constructor
        · rintro (h | h | h)
          · exact .inl (.inl h)
          · exact .inl (.inr h)
          · exact .inr h
        · rintro ((h | h) | h)
          · exact .inl h
          · exact .inr (.inl h)
          · exact .inr (.inr h)
      · simp at ih ⊢
        rw [ih]
        constructor
        · rintro (h | h | h)
          · exact .inr (.inl h)
          · exact .inl h
          · exact .inr (.inr h)
        · rintro (h | h | h)
          · exact .inr (.inl h)
          · exact .inl h
          · exact .inr (.inr h)
theorem row_names : allItems.all (fun it => match it.row with | some r => nms.contains r.1 | none => true) = true := by decide +kernel
theorem strong_in {its : List Item} (good : ∀ it ∈ its, Good it) : ∀ y ∈ strongs its, y ∈ nms := fun y hy => by
  unfold strongs at hy
  obtain ⟨it, hit, hb⟩ := List.mem_filterMap.mp hy
  have := List.all_eq_true.mp row_names it (good it hit)
  cases hr : it.row with
  | none => rw [hr] at hb; cases hb
  | some r =>
    rw [hr] at hb this
    obtain ⟨n, b⟩ := r
    cases b
    · simp at hb; subst hb; simpa using this
    · simp at hb
theorem weak_in {its : List Item} (good : ∀ it ∈ its, Good it) : ∀ y ∈ weaks its, y ∈ nms := fun y hy => by
  unfold weaks at hy
  obtain ⟨it, hit, hb⟩ := List.mem_filterMap.mp hy
  have := List.all_eq_true.mp row_names it (good it hit)
  cases hr : it.row with
  | none => rw [hr] at hb; cases hb
  | some r =>
    rw [hr] at hb this
    obtain ⟨n, b⟩ := r
    cases b
    · simp at hb
    · simp at hb; subst hb; simpa using this
theorem rows_in {its : List Item} (good : ∀ it ∈ its, Good it) : ∀ r ∈ its.filterMap Item.row, r.1 ∈ nms := fun r hr => by
  obtain ⟨it, hit, hb⟩ := List.mem_filterMap.mp hr
  have := List.all_eq_true.mp row_names it (good it hit)
  rw [hb] at this
  simpa using this
theorem told_len (p : Str × Bool → Bool) (rs : List (Str × Bool)) : (told p rs).length ≤ rs.length := by
  unfold told
  rw [List.length_map]
  exact List.length_filter_le _ _
structure InvB (w : World) (g : Heap) (L st nums I : Addr) (oI : Obj) (ws : List Value) (en i : Nat) (h : Heap) (m : Str → Option Value) (x dx fs fw rl lS lE : Addr) (t1 t2 t3 : Tok) (oF oW : Obj) (ks kw : List Str) (vr : List Value) (er : Nat) (vS : List Value) (eS : Nat) (vE : List Value) (eE : Nat) (SS EE : List Str) (tl : List (Addr × Obj)) (its : List Item) (at' : Int) (t' : Tok) (e' : Nat) : Prop where
  fr : Fr g L h m
  ns : m (Str.ofString "state") = some (.ref st)
  nr : m (Str.ofString "rows") = some (.ref rl)
  nt : m (Str.ofString "told") = some (.ref x)
  nS : m (Str.ofString "strong") = some (.ref lS)
  nE : m (Str.ofString "every") = some (.ref lE)
  led : News g L h ((lE, listO vE eE) :: (lS, listO vS eS) :: (x, instObj 140 dx) :: (dx, tagsD w.params fs fw false t1 t2 t3) :: (fs, oF) :: (fw, oW) :: (rl, listO vr er) :: (st, stO nums at' t' e') :: (nums, listO ws en) :: (I, oI) :: tl)
  rows : RowsIn tl vr (its.filterMap Item.row)
  good : ∀ it ∈ its, Good it
  len : its.length ≤ 7
  hF : SetO w oF "frozenset" ks
  mF : ∀ y, y ∈ ks ↔ y ∈ SS
  hW : SetO w oW "frozenset" kw
  mW : ∀ y, y ∈ kw ↔ y ∈ weaks its
  mE : ∀ y, (y ∈ ks ∨ y ∈ kw) ↔ y ∈ EE
  sS : StrsAre vS SS
  sE : StrsAre vE EE
  oS : sortedS SS = true
  oE : sortedS EE = true
  dS : SS.Nodup
  dE : EE.Nodup
  iS : ∀ y ∈ SS, y ∈ nms
  iE : ∀ y ∈ EE, y ∈ nms
  lF : ks.length ≤ 7
  lW : kw.length ≤ 7
  cS : SS.length ≤ 7
  cE : EE.length ≤ 7
  lo : 0 ≤ at'
  hi : at' ≤ 80 * (i + 1)
def InvBx {w : World} {g h : Heap} {L st nums I : Addr} {oI : Obj} {ws : List Value} {en : Nat} {at₀ : Int} {t₀ : Tok} {e₀ : Nat} (_X : (Et.hd.heap_39 w.params).In g) (_N : News g L h [(st, stO nums at₀ t₀ e₀), (nums, listO ws en), (I, oI)]) (i : Nat) (gs : Array GenState) (os : OsState) (s' : Shared) : Prop :=
  (∃ m x dx fs fw rl lS lE t1 t2 t3 oF oW ks kw vr er vS eS vE eE SS EE tl its at' t' e', InvB w g L st nums I oI ws en i s'.heap m x dx fs fw rl lS lE t1 t2 t3 oF oW ks kw vr er vS eS vE eE SS EE tl its at' t' e') ∧ s'.gens = gs ∧ s'.os = os
theorem InvB.names {w : World} {g : Heap} {L st nums I : Addr} {oI : Obj} {ws : List Value} {en i : Nat} {h : Heap} {m : Str → Option Value} {x dx fs fw rl lS lE : Addr} {t1 t2 t3 : Tok} {oF oW : Obj} {ks kw : List Str} {vr : List Value} {er : Nat} {vS : List Value} {eS : Nat} {vE : List Value} {eE : Nat} {SS EE : List Str} {tl : List (Addr × Obj)} {its : List Item} {at' : Int} {t' : Tok} {e' : Nat}
    (P : InvB w g L st nums I oI ws en i h m x dx fs fw rl lS lE t1 t2 t3 oF oW ks kw vr er vS eS vE eE SS EE tl its at' t' e') : m = fun y => if y = Str.ofString "every" then some (.ref lE) else if y = Str.ofString "strong" then some (.ref lS) else if y = Str.ofString "told" then some (.ref x) else if y = Str.ofString "rows" then some (.ref rl) else if y = Str.ofString "state" then some (.ref st) else m y := by
  funext y
  split
  · next e => rw [e, P.nE]
  split
  · next e => rw [e, P.nS]
  split
  · next e => rw [e, P.nt]
  split
  · next e => rw [e, P.nr]
  split
  · next e => rw [e, P.ns]
  · rfl
theorem mem_every {its : List Item} {ks kw EE ke : List Str} (mF : ∀ y, y ∈ ks ↔ y ∈ strongs its) (mW : ∀ y, y ∈ kw ↔ y ∈ weaks its) (mE : ∀ y, y ∈ EE ↔ y ∈ ke) (mk : ∀ y, y ∈ ke ↔ y ∈ told (fun _ => true) (its.filterMap Item.row)) : ∀ y, (y ∈ ks ∨ y ∈ kw) ↔ y ∈ EE := fun y => by
  rw [mF y, mW y, mE y, mk y, told_every]
theorem InvB.make {w : World} {g : Heap} {L st nums I : Addr} {oI : Obj} {ws : List Value} {en i : Nat} {h : Heap} {m : Str → Option Value} {x dx fs fw rl lS lE : Addr} {t1 t2 t3 : Tok} {oF oW : Obj} {ks kw : List Str} {vr : List Value} {er : Nat} {vS : List Value} {eS : Nat} {vE : List Value} {eE : Nat} {SS EE : List Str} {tl : List (Addr × Obj)} {its : List Item} {at' : Int} {t' : Tok} {e' : Nat} {a b c d : Addr × Obj} {k1 k2 : List Str}
    (fr : Fr g L h m) (ns : m (Str.ofString "state") = some (.ref st)) (nr : m (Str.ofString "rows") = some (.ref rl)) (nt : m (Str.ofString "told") = some (.ref x)) (nS : m (Str.ofString "strong") = some (.ref lS)) (nE : m (Str.ofString "every") = some (.ref lE))
    (led : News g L h ((lE, listO vE eE) :: a :: b :: (lS, listO vS eS) :: c :: d :: (x, instObj 140 dx) :: (dx, tagsD w.params fs fw false t1 t2 t3) :: (fs, oF) :: (fw, oW) :: (rl, listO vr er) :: (st, stO nums at' t' e') :: (nums, listO ws en) :: (I, oI) :: tl))
    (rows : RowsIn tl vr (its.filterMap Item.row)) (good : ∀ it ∈ its, Good it) (len : its.length ≤ 7) (hF : SetO w oF "frozenset" ks) (mF : ∀ y, y ∈ ks ↔ y ∈ strongs its) (hW : SetO w oW "frozenset" kw) (mW : ∀ y, y ∈ kw ↔ y ∈ weaks its) (lF : ks.length ≤ 7) (lW : kw.length ≤ 7)
    (sS : StrsAre vS SS) (sE : StrsAre vE EE) (oS : sortedS SS = true) (oE : sortedS EE = true) (dS : SS.Nodup) (dE : EE.Nodup) (m1 : ∀ y, y ∈ SS ↔ y ∈ k1) (m1' : ∀ y, y ∈ k1 ↔ y ∈ strongs its) (m2 : ∀ y, y ∈ EE ↔ y ∈ k2) (m2' : ∀ y, y ∈ k2 ↔ y ∈ told (fun _ => true) (its.filterMap Item.row))
    (c1 : SS.length = k1.length) (c1' : k1.length ≤ (strongs its).length) (c2 : EE.length = k2.length) (c2' : k2.length ≤ (told (fun _ => true) (its.filterMap Item.row)).length) (lo : 0 ≤ at') (hi : at' ≤ 80 * (i + 1)) :
    InvB w g L st nums I oI ws en i h m x dx fs fw rl lS lE t1 t2 t3 oF oW ks kw vr er vS eS vE eE SS EE tl its at' t' e' where
  fr := fr
  ns := ns
  nr := nr
  nt := nt
  nS := nS
  nE := nE
  led := fun p hp => by
    rcases List.mem_cons.mp hp with rfl | hp
    · exact led _ (.head _)
    rcases List.mem_cons.mp hp with rfl | hp
    · exact led _ (.tail _ (.tail _ (.tail _ (.head _))))
    · exact led _ (.tail _ (.tail _ (.tail _ (.tail _ (.tail _ (.tail _ hp))))))
  rows := rows
  good := good
  len := len
  hF := hF
  mF := fun y => by rw [mF y, m1 y, m1' y]
  hW := hW
  mW := mW
  mE := mem_every mF mW m2 m2'
  sS := sS
  sE := sE
  oS := oS
  oE := oE
  dS := dS
  dE := dE
  iS := fun y hy => strong_in good y ((m1' y).mp ((m1 y).mp hy))
  iE := fun y hy => by
    rcases (told_every its y).mp ((m2' y).mp ((m2 y).mp hy)) with h | h
    · exact strong_in good y h
    · exact weak_in good y h
  lF := lF
  lW := lW
  cS := by have := strongs_le its; omega
  cE := by
    have := told_len (fun _ => true) (its.filterMap Item.row)
    have e : (its.filterMap Item.row).length ≤ its.length := List.length_filterMap_le _ _
    omega
  lo := lo
  hi := hi
theorem iff_two {a b c : List Str} (h1 : ∀ y, y ∈ a ↔ y ∈ b) (h2 : ∀ y, y ∈ b ↔ y ∈ c) : ∀ y, y ∈ a ↔ y ∈ c := fun y => (h1 y).trans (h2 y)
theorem iff_or {a a' b b' c : List Str} (h1 : ∀ y, y ∈ a ↔ y ∈ b) (h2 : ∀ y, y ∈ a' ↔ y ∈ b') (h3 : ∀ y, (y ∈ b ∨ y ∈ b') ↔ y ∈ c) : ∀ y, (y ∈ a ∨ y ∈ a') ↔ y ∈ c := fun y => by rw [h1 y, h2 y, h3 y]
section
variable {w : World} {dp un : Nat} {gd : Option (List Code)} {cn : Str} {cs : Scope} {L a : Addr} {ccd : Value} {cl : List (Str × Addr)} {outer : List Env}
    {A₀ : Around} {base h₀ : Heap} {m : Str → Option Value} {s : Shared} {p : Program} {loose : List Str} {mean : ExcName → Option Value} {mg mb : Str → Option Value}
    {x dx fs fw : Addr} {oF oW : Obj} {ks kw : List Str} {t1 t2 t3 : Tok} {news : List (Addr × Obj)}
theorem header_law {Q : Value → Shared → Prop} {SS EE : List Str} (B : Below A₀ base outer h₀) (F : Fr h₀ L s.heap m) (X : (Et.hd.heap_39 w.params).In h₀) (Tp : Top p loose mean mg mb h₀) (hk : cs.kind = .function) (N : News h₀ L s.heap news)
    (m1 : (x, instObj 140 dx) ∈ news) (m2 : (dx, tagsD w.params fs fw false t1 t2 t3) ∈ news) (m3 : (fs, oF) ∈ news) (m4 : (fw, oW) ∈ news) (hF : SetO w oF "frozenset" ks) (hW : SetO w oW "frozenset" kw) (lF : ks.length ≤ 7) (lW : kw.length ≤ 7)
    (mS : ∀ y, y ∈ ks ↔ y ∈ SS) (mE : ∀ y, (y ∈ ks ∨ y ∈ kw) ↔ y ∈ EE) (iE : ∀ y ∈ EE, y ∈ nms) (hd : dp + 40 < 1000) (hu : un + 200 < cLine)
    (h : ∀ T t its h' tk d, Fr h₀ L h' m → News h₀ L h' news → T.cps.toList = J (its.map Item.txt) → (∀ it ∈ its, Good it) → its.length ≤ 14 → (∀ y, y ∈ strongs its ↔ y ∈ SS) → (∀ y, (y ∈ strongs its ∨ y ∈ weaks its) ↔ y ∈ EE) → (strongs its).length ≤ 7 → (weaks its).length ≤ 7 → Q (.str T t) { s with heap := h', toks := tk, drawn := d }) :
    wpAny (model PySem.Challenge.rw_ez0423_01.row.prog w) (top dp un gd cn cs L a ccd cl outer) (call (.ref 87) [.ref x]) Q (fun _ _ => False) s :=
  header_use B F X Tp hk N m1 m2 m3 m4 hF hW lF lW (fun k hk => iE k ((mE k).mp (.inl hk))) (fun k hk => iE k ((mE k).mp (.inr hk))) hd hu fun T t its h' tk d F' N' hT good len p1 p2 =>
    h T t its h' tk d F' N' hT good len (fun y => p1.mem_iff.trans (mS y)) (fun y => by rw [p1.mem_iff, p2.mem_iff, mE y]) (by rw [p1.length_eq]; exact lF) (by rw [p2.length_eq]; exact lW)
end
theorem len_same {a b : List Str} (na : a.Nodup) (nb : b.Nodup) (h : ∀ y, y ∈ a ↔ y ∈ b) : a.length = b.length := ((List.perm_ext_iff_of_nodup na nb).mpr h).length_eq
section
variable {prog : Program} {w : World} {A : Around} {E : Value → Shared → Prop} {s : Shared} {g : Heap} {L S l : Addr} {news : List (Addr × Obj)} {oS : Obj} {ks ss : List Str} {n : Nat} {vs : List Value} {e : Nat}
theorem len_froz_own {Q : Value → Shared → Prop} (N : News g L s.heap news) (hm : (S, oS) ∈ news) (hS : SetO w oS "frozenset" ks) (hsz : ks.length ≤ 7) (hb : ks.length = n)
    (h : ∀ t t', Q (.int (n : Int) t) { s with toks := t' }) : wpAny (model prog w) A (call (.builtin "len") [.ref S]) Q E s := by
  subst hb
  exact len_own N hm hS (by omega) h
theorem len_strs_own {Q : Value → Shared → Prop} (N : News g L s.heap news) (hm : (l, listO vs e) ∈ news) (hS : StrsAre vs ss) (hsz : ss.length ≤ 20)
    (h : ∀ t t', Q (.int (ss.length : Int) t) { s with toks := t' }) : wpAny (model prog w) A (call (.builtin "len") [.ref l]) Q E s := by
  have hl := strs_len hS
  refine len_list (list_of_news N hm) (by simp only [List.size_toArray]; omega) ?_
  simp only [List.size_toArray, hl]
  exact h _ _
end
theorem InvB.keep {w : World} {g : Heap} {L st nums I : Addr} {oI : Obj} {ws : List Value} {en i : Nat} {h h' : Heap} {m m' : Str → Option Value} {x dx fs fw rl lS lE : Addr} {t1 t2 t3 : Tok} {oF oW : Obj} {ks kw : List Str} {vr : List Value} {er : Nat} {vS : List Value} {eS : Nat} {vE : List Value} {eE : Nat} {SS EE : List Str} {tl : List (Addr × Obj)} {its : List Item} {at' : Int} {t' : Tok} {e' : Nat} (P : InvB w g L st nums I oI ws en i h m x dx fs fw rl lS lE t1 t2 t3 oF oW ks kw vr er vS eS vE eE SS EE tl its at' t' e')
    (fr : Fr g L h' m') (ns : m' (Str.ofString "state") = some (.ref st)) (nr : m' (Str.ofString "rows") = some (.ref rl)) (nt : m' (Str.ofString "told") = some (.ref x)) (nS : m' (Str.ofString "strong") = some (.ref lS)) (nE : m' (Str.ofString "every") = some (.ref lE))
    (led : News g L h' ((lE, listO vE eE) :: (lS, listO vS eS) :: (x, instObj 140 dx) :: (dx, tagsD w.params fs fw false t1 t2 t3) :: (fs, oF) :: (fw, oW) :: (rl, listO vr er) :: (st, stO nums at' t' e') :: (nums, listO ws en) :: (I, oI) :: tl)) :
    InvB w g L st nums I oI ws en i h' m' x dx fs fw rl lS lE t1 t2 t3 oF oW ks kw vr er vS eS vE eE SS EE tl its at' t' e' :=
  { P with fr := fr, ns := ns, nr := nr, nt := nt, nS := nS, nE := nE, led := led }
section
variable {prog : Program} {w : World} {A : Around} {E : Value → Shared → Prop} {s : Shared} {g : Heap} {L S l b : Addr} {news : List (Addr × Obj)} {oS : Obj} {ks ss : List Str} {n : Nat} {vs v1 v2 : List Value} {e e1 e2 : Nat}
theorem ne_strs_own {Q : Value → Shared → Prop} (N : News g L s.heap news) (m1 : (l, listO v1 e1) ∈ news) (s1 : StrsAre v1 ss) (m2 : (b, listO v2 e2) ∈ news) (s2 : StrsAre v2 ss) (hi : ∀ x ∈ ss, x ∈ nms) (hu : A.units + 64 < cLine) (h : Q (.bool false) s) :
    wpAny (model prog w) A (compareOp .NotEq (.ref l) (.ref b)) Q E s := by
  have d := depth_strs ss
  exact ne_same_own N (Rd.strs m1 s1) (Rd.strs m2 s2) (by simp only [PyData.canLay0]; exact lay_strs hi) (by simp only [PyData.depth]; omega) hu h
theorem ne_nil_yes {Q : Value → Shared → Prop} (N : News g L s.heap news) (m1 : (l, listO vs e) ∈ news) (hS : StrsAre vs ss) (m2 : (b, ({ cls := .type "list", data := .seq #[] e2 } : Obj)) ∈ news) (hm : ∀ x ∈ ss, x ∈ nms) (hu : A.units + 64 < cLine) (hp : 0 < ss.length)
    (h : Q (.bool true) s) : wpAny (model prog w) A (compareOp .NotEq (.ref l) (.ref b)) Q E s := ne_nil_own N m1 hS m2 hm hu (by rw [decide_eq_true hp]; exact h)
theorem ne_nil_no {Q : Value → Shared → Prop} (N : News g L s.heap news) (m1 : (l, listO vs e) ∈ news) (hS : StrsAre vs ss) (m2 : (b, ({ cls := .type "list", data := .seq #[] e2 } : Obj)) ∈ news) (hm : ∀ x ∈ ss, x ∈ nms) (hu : A.units + 64 < cLine) (hp : ¬ 0 < ss.length)
    (h : Q (.bool false) s) : wpAny (model prog w) A (compareOp .NotEq (.ref l) (.ref b)) Q E s := ne_nil_own N m1 hS m2 hm hu (by rw [decide_eq_false hp]; exact h)
theorem truthy_froz_yes {Q : Bool → Shared → Prop} (N : News g L s.heap news) (hm : (S, oS) ∈ news) (hS : SetO w oS "frozenset" ks) (hsz : ks.length ≤ 7) (hp : 0 < ks.length)
    (h : ∀ t, Q true { s with toks := t }) : wpAny (model prog w) A (truthy (.ref S)) Q E s := truthy_froz_own N hm hS (by omega) fun t => by rw [decide_eq_true hp]; exact h t
theorem truthy_froz_no {Q : Bool → Shared → Prop} (N : News g L s.heap news) (hm : (S, oS) ∈ news) (hS : SetO w oS "frozenset" ks) (hsz : ks.length ≤ 7) (hp : ¬ 0 < ks.length)
    (h : ∀ t, Q false { s with toks := t }) : wpAny (model prog w) A (truthy (.ref S)) Q E s := truthy_froz_own N hm hS (by omega) fun t => by rw [decide_eq_false hp]; exact h t
theorem truthy_froz_two {Q : Bool → Shared → Prop} (N : News g L s.heap news) (hm : (S, oS) ∈ news) (hS : SetO w oS "frozenset" ks) (hsz : ks.length ≤ 7)
    (h1 : 0 < ks.length → ∀ t, Q true { s with toks := t }) (h2 : ¬ 0 < ks.length → ∀ t, Q false { s with toks := t }) : wpAny (model prog w) A (truthy (.ref S)) Q E s := by
  by_cases hp : 0 < ks.length
  · exact truthy_froz_yes N hm hS hsz hp (h1 hp)
  · exact truthy_froz_no N hm hS hsz hp (h2 hp)
end
theorem every_len {ks kw EE : List Str} (mE : ∀ y, (y ∈ ks ∨ y ∈ kw) ↔ y ∈ EE) : 0 < EE.length ↔ (0 < ks.length ∨ 0 < kw.length) := by
  constructor
  · intro h
    obtain ⟨y, hy⟩ := List.exists_mem_of_length_pos h
    rcases (mE y).mpr hy with q | q
    · exact .inl (List.length_pos_of_mem q)
    · exact .inr (List.length_pos_of_mem q)
  · rintro (h | h)
    · obtain ⟨y, hy⟩ := List.exists_mem_of_length_pos h
      exact List.length_pos_of_mem ((mE y).mp (.inl hy))
    · obtain ⟨y, hy⟩ := List.exists_mem_of_length_pos h
      exact List.length_pos_of_mem ((mE y).mp (.inr hy))
theorem every_no {ks kw EE : List Str} (mE : ∀ y, (y ∈ ks ∨ y ∈ kw) ↔ y ∈ EE) (h1 : ¬ 0 < ks.length) (h2 : ¬ 0 < kw.length) : ¬ 0 < EE.length := fun h => ((every_len mE).mp h).elim h1 h2
def NameE (g : Heap) (L : Addr) (want : (Str → Option Value) → Prop) (led : List (Addr × Obj)) (gs : Array GenState) (os : OsState) (s : Shared) : Prop :=
  (∃ m, Fr g L s.heap m ∧ want m ∧ News g L s.heap led) ∧ s.gens = gs ∧ s.os = os
section
variable {prog : Program} {w : World} {A : Around} {gs₀ : Array GenState} {d₀ : Drawn} {os₀ : OsState} {env : Env}
theorem name_loop {x : Str} {body : List Stmt} {Q : Flow → Shared → Prop} {h g : Heap} {tk₀ : Nat} {L lN : Addr} {m : Str → Option Value} {vN : List Value} {en : Nat} {led : List (Addr × Obj)} {ss : List Str} (want : (Str → Option Value) → Prop) (F : Fr g L h m) (hw : want m) (N : News g L h ((lN, listO vN en) :: led)) (hS : StrsAre vN ss) (HH : A.handled = none)
    (turn : ∀ (gs : Array GenState) (os : OsState) (k : Str) (t : Tok) (h₁ : Heap) (d : Drawn) (tk : Nat) (I : Addr) (oI : Obj) (m₁ : Str → Option Value), gs = gs₀ → os = os₀ → k ∈ ss → Fr g L h₁ m₁ → want m₁ → News g L h₁ ((I, oI) :: (lN, listO vN en) :: led) →
      wpAny (model prog w) A (storeName env x (.str k t)) (fun _ s₃ => wpAny (model prog w) A (execs body env) (fun f s₄ => match f with
        | .next | .cont => NameE g L want ((I, oI) :: (lN, listO vN en) :: led) gs os s₄
        | .brk => False
        | .ret _ => False) (fun _ _ => False) s₃) (fun _ _ => False) { heap := h₁, gens := gs, drawn := d, toks := tk, os := os })
    (done : ∀ (h₁ : Heap) (d : Drawn) (tk : Nat) (m₁ : Str → Option Value), Fr g L h₁ m₁ → want m₁ → News g L h₁ led → Q .next { heap := h₁, gens := gs₀, drawn := d, toks := tk, os := os₀ }) :
    Loop prog w A env x body Q (.ref h.objs.size) { heap := h.push { cls := .type "list_iterator", data := .fields #[.ref lN, .int 0 0] }, gens := gs₀, drawn := d₀, toks := tk₀, os := os₀ } := by
  have I0 : g.get? h.objs.size = none := next_is_new F
  have IL : h.objs.size ≠ L := fun q => Nat.lt_irrefl _ (q ▸ F.ns.lt)
  have z : ∀ p ∈ (lN, listO vN en) :: led, p.1 ≠ h.objs.size := fun p hp => Nat.ne_of_lt (Heap.lt_size (N p hp).1)
  have up : ∀ b o, h.get? b = some o → (h.push { cls := .type "list_iterator", data := .fields #[.ref lN, .int 0 0] }).get? b = some o := fun b o e => Heap.get?_push_of_some _ e
  refine ⟨h.objs.size, _, vN.toArray.size, _, _, fun i s₂ => NameE g L want ((lN, listO vN en) :: led) gs₀ os₀ s₂, rfl, Walks.list HH h.objs.size lN (z _ (.head _)) vN.toArray, ?_, ?_, ?_, ?_⟩
  · exact ⟨⟨_, Heap.get?_push_size h rfl, rfl, rfl⟩, ⟨_, up _ _ (N _ (.head _)).1, rfl, _, rfl⟩⟩
  · exact ⟨⟨m, Fr.same (s := ⟨h, gs₀, d₀, tk₀, os₀⟩) F up, hw, News.same (s := ⟨h, gs₀, d₀, tk₀, os₀⟩) N up⟩, rfl, rfl⟩
  · rintro i s₁ hi ⟨⟨m₁, F₁, hw₁, N₁⟩, c1, c2⟩ v h₂ tk hv hSt hk
    obtain ⟨h₁, g₁, d₁, tk₁, os₁⟩ := s₁
    dsimp only at c1 c2 hSt hk F₁ N₁
    subst c1; subst c2
    obtain ⟨t, rfl⟩ := strs_at hS i v (by simpa using hv)
    have hk' : ss.getD i Str.empty ∈ ss := by
      have hl := strs_len hS
      have hi' : i < ss.length := by simpa [hl] using hi
      rw [List.getD_eq_getElem?_getD, List.getElem?_eq_getElem hi']
      exact List.getElem_mem hi'
    have F₂ : Fr g L h₂ m₁ := ⟨F₁.ns.at' fun o q => hk L o (Ne.symm IL) q, fun b o q => hk b o (fun z => by rw [z, I0] at q; cases q) (F₁.keep b o q), F₁.above⟩
    obtain ⟨⟨oI, hoI, hcI, hdI⟩, hL⟩ := hSt
    have N₂ : News g L h₂ ((h.objs.size, oI) :: (lN, listO vN en) :: led) := fun p hp => by
      rcases List.mem_cons.mp hp with rfl | hp
      · exact ⟨hoI, IL, I0⟩
      · exact ⟨hk _ _ (z p hp) (N₁ p hp).1, (N₁ p hp).2⟩
    refine wpAny_mono (turn _ _ _ t h₂ d₁ tk h.objs.size oI m₁ rfl rfl hk' F₂ hw₁ N₂) (fun _ s₃ h₃ => wpAny_mono h₃ (fun f s₄ h₄ => ?_) fun _ _ e => e) fun _ _ e => e
    cases f with
    | next =>
      obtain ⟨⟨m₂, F₃, hw₃, N₃⟩, c1, c2⟩ := h₄
      exact ⟨⟨⟨oI, (N₃ _ (.head _)).1, hcI, hdI⟩, ⟨_, (N₃ _ (.tail _ (.head _))).1, rfl, _, rfl⟩⟩, ⟨m₂, F₃, hw₃, fun p hp => N₃ p (.tail _ hp)⟩, c1, c2⟩
    | cont =>
      obtain ⟨⟨m₂, F₃, hw₃, N₃⟩, c1, c2⟩ := h₄
      exact ⟨⟨⟨oI, (N₃ _ (.head _)).1, hcI, hdI⟩, ⟨_, (N₃ _ (.tail _ (.head _))).1, rfl, _, rfl⟩⟩, ⟨m₂, F₃, hw₃, fun p hp => N₃ p (.tail _ hp)⟩, c1, c2⟩
    | brk => exact h₄.elim
    | ret v => exact h₄.elim
  · rintro s₁ ⟨⟨m₁, F₁, hw₁, N₁⟩, c1, c2⟩ h₂ tk hk
    obtain ⟨h₁, g₁, d₁, tk₁, os₁⟩ := s₁
    dsimp only at c1 c2 hk F₁ N₁
    subst c1; subst c2
    have F₂ : Fr g L h₂ m₁ := ⟨F₁.ns.at' fun o q => hk L o (Ne.symm IL) q, fun b o q => hk b o (fun z => by rw [z, I0] at q; cases q) (F₁.keep b o q), F₁.above⟩
    exact done h₂ d₁ tk m₁ F₂ hw₁ fun p hp => ⟨hk _ _ (z p (.tail _ hp)) (N₁ p (.tail _ hp)).1, (N₁ p (.tail _ hp)).2⟩
end
def InvB.want {w : World} {g : Heap} {L st nums I : Addr} {oI : Obj} {ws : List Value} {en i : Nat} {h : Heap} {m : Str → Option Value} {x dx fs fw rl lS lE : Addr} {t1 t2 t3 : Tok} {oF oW : Obj} {ks kw : List Str} {vr : List Value} {er : Nat} {vS : List Value} {eS : Nat} {vE : List Value} {eE : Nat} {SS EE : List Str} {tl : List (Addr × Obj)} {its : List Item} {at' : Int} {t' : Tok} {e' : Nat} (_P : InvB w g L st nums I oI ws en i h m x dx fs fw rl lS lE t1 t2 t3 oF oW ks kw vr er vS eS vE eE SS EE tl its at' t' e') (m' : Str → Option Value) : Prop :=
  m' (Str.ofString "state") = some (.ref st) ∧ m' (Str.ofString "rows") = some (.ref rl) ∧ m' (Str.ofString "told") = some (.ref x) ∧ m' (Str.ofString "strong") = some (.ref lS) ∧ m' (Str.ofString "every") = some (.ref lE)
theorem InvB.want_names {w : World} {g : Heap} {L st nums I : Addr} {oI : Obj} {ws : List Value} {en i : Nat} {h : Heap} {m : Str → Option Value} {x dx fs fw rl lS lE : Addr} {t1 t2 t3 : Tok} {oF oW : Obj} {ks kw : List Str} {vr : List Value} {er : Nat} {vS : List Value} {eS : Nat} {vE : List Value} {eE : Nat} {SS EE : List Str} {tl : List (Addr × Obj)} {its : List Item} {at' : Int} {t' : Tok} {e' : Nat} (P : InvB w g L st nums I oI ws en i h m x dx fs fw rl lS lE t1 t2 t3 oF oW ks kw vr er vS eS vE eE SS EE tl its at' t' e') {m' : Str → Option Value} (hw : P.want m') : m' = fun y => if y = Str.ofString "every" then some (.ref lE) else if y = Str.ofString "strong" then some (.ref lS) else if y = Str.ofString "told" then some (.ref x) else if y = Str.ofString "rows" then some (.ref rl) else if y = Str.ofString "state" then some (.ref st) else m' y := by
  obtain ⟨ns, nr, nt, nS, nE⟩ := hw
  funext y
  split
  · next e => rw [e, nE]
  split
  · next e => rw [e, nS]
  split
  · next e => rw [e, nt]
  split
  · next e => rw [e, nr]
  split
  · next e => rw [e, ns]
  · rfl
abbrev six : List Str := [Str.ofString "a", Str.ofString "b", Str.ofString "c d", Str.ofString "e,f", Str.ofString "x-1", Str.ofString "z"]
theorem six_ok : ∀ k ∈ six, PyData.strOk k = true := by decide +kernel
theorem rows_any (its : List Item) (n : Str) : (its.filterMap Item.row).any (fun r => r == (n, true)) = decide (n ∈ weaks its) := by
  rw [Bool.eq_iff_iff, List.any_eq_true, decide_eq_true_eq]
  unfold weaks
  constructor
  · rintro ⟨r, hr, e⟩
    have e := eq_of_beq e
    subst e
    obtain ⟨it, hit, hb⟩ := List.mem_filterMap.mp hr
    exact List.mem_filterMap.mpr ⟨it, hit, by rw [hb]; rfl⟩
  · intro h
    obtain ⟨it, hit, hb⟩ := List.mem_filterMap.mp h
    cases hr : it.row with
    | none => rw [hr] at hb; cases hb
    | some r =>
      rw [hr] at hb
      obtain ⟨n', b⟩ := r
      cases b
      · simp at hb
      · simp at hb; subst hb
        exact ⟨_, List.mem_filterMap.mpr ⟨it, hit, hr⟩, beq_self_eq_true _⟩
theorem in_rows_law {prog : Program} {w : World} {A : Around} {E : Value → Shared → Prop} {s : Shared} {g : Heap} {L : Addr} {news : List (Addr × Obj)} {T l : Addr} {n : Str} {t : Tok} {e en : Nat} {vs : List Value} {rs : List (Str × Bool)} {b : Bool} {Q : Value → Shared → Prop} (N : News g L s.heap news) (mT : (T, ({ cls := .type "tuple", data := .seq #[.str n t, .bool true] en } : Obj)) ∈ news) (ml : (l, listO vs e) ∈ news)
    (hR : RowsIn news vs rs) (hn : PyData.strOk n = true) (hrs : ∀ r ∈ rs, r.1 ∈ nms) (hu : A.units + 64 < cLine) (hb : (rs.any fun r => r == (n, true)) = b) (h : Q (.bool b) s) :
    wpAny (model prog w) A (compareOp .In (.ref T) (.ref l)) Q E s := in_rows_own N mT ml hR hn hrs hu (by rw [hb]; exact h)
def NameX {g h : Heap} {L : Addr} {led : List (Addr × Obj)} (_N : News g L h led) (want : (Str → Option Value) → Prop) (gs : Array GenState) (os : OsState) (s : Shared) : Prop := NameE g L want led gs os s
theorem in_every {ks kw SS EE : List Str} {k : Str} (mF : ∀ y, y ∈ ks ↔ y ∈ SS) (mE : ∀ y, (y ∈ ks ∨ y ∈ kw) ↔ y ∈ EE) {b : Bool} (hb : decide (k ∈ kw) = b) : decide (k ∈ EE) = (b || decide (k ∈ SS)) := by
  have h := mE k
  rw [mF k] at h
  rw [Bool.eq_iff_iff, decide_eq_true_eq, Bool.or_eq_true, decide_eq_true_eq, ← h, ← hb, decide_eq_true_eq]
  exact Or.comm
end Et
end
section
open PySem PySem.W PySem.Calls PyProof.Rows
set_option Elab.async false
theorem Et.fresh_32 {M : Model} {A : Around} {E : Value → Shared → Prop} {s : Shared} {env : Env} {Q : Flow → Shared → Prop} (h : Q .next s) : wpAny M A (execs [] env) Q E s := by
  w_top off
  first | (walk1; exact h) | exact wpAny_execs_nil h
set_option maxRecDepth 100000
namespace Et
local macro_rules | `(tactic| walk_at "compareOp In str ref") => `(tactic| (k_here; k_dflt (refine' in_own' ?N ?m ?S ?l ?b ?_; (case N => k_asm); (case m => k_mem); (case S => assumption); (case l => assumption); (case b => assumption)); intro tI))
/-- what a method of one text tells -/
def Told (f : Addr) (w : World) (A : Around) (x : Addr) (args : List Value) (b : Bool) (s : Shared) : Prop :=
  codeAny (model PySem.Challenge.rw_ez0423_01.row.prog w) A (.call (.ref f) ⟨.ref x :: args, []⟩) (fun r s' => match r with
    | .ok (.ret v) => After [] s s' ∧ v = .bool b
    | _ => False) s
section
variable {w : World} {dp un : Nat} {gd : Option (List Code)} {cn : Str} {cs : Scope} {L a : Addr} {ccd : Value} {cl : List (Str × Addr)} {outer : List Env}
    {A₀ : Around} {base h₀ : Heap} {m : Str → Option Value} {s : Shared} {p : Program} {loose : List Str} {mean : ExcName → Option Value} {mg mb : Str → Option Value}
    {x dx fs fw : Addr} {oF oW : Obj} {ks kw : List Str} {t1 t2 t3 : Tok} {k : Str} {tk : Tok} {b b2 : Bool}
set_option maxHeartbeats 2000000 in
theorem is_strong_c {star : Bool} (B : Below A₀ base outer h₀) (F : Fr h₀ L s.heap m) (X : (Et.hd.heap_39 w.params).In h₀) (Tp : Top p loose mean mg mb h₀) (hk : cs.kind = .function)
    (N : News h₀ L s.heap (tagsN w.params x dx fs fw oF oW star t1 t2 t3)) (hF : SetO w oF "frozenset" ks) (lF : ks.length ≤ 7) (hb : decide (k ∈ ks) = b)
    (hd : dp + 32 < 1000) (hu : un + 180 < cLine) : Told 68 w (top dp un gd cn cs L a ccd cl outer) x [.str k tk] b s := by
  unfold Told
  revert X; k_fill; intro X
  refine codeAny_mono (R := fun r s' => match r with
      | .ok (.ret v) => (∀ b o, b ∉ (tagsN w.params x dx fs fw oF oW star t1 t2 t3).map (·.1) → s.heap.get? b = some o → s'.heap.get? b = some o) ∧ (s'.gens = s.gens ∧ s'.os = s.os ∧ (∀ p ∈ tagsN w.params x dx fs fw oF oW star t1 t2 t3, s'.heap.get? p.1 = some p.2) ∧ v = .bool (b))
      | _ => False) ?_ (fun r s' h => ?_)
  · k_dflt (refine' enterG ?k1 ?k2 ?k3 ?k4 ?k5 ?kA ?kF ?kK ?k6 ?k7 ?k8 ?k9 ?kB ?_ ?c2 ?c3 ?c4 ?c5; (case kA => exact rfl); (case kF => exact rfl); (case kK => assumption); (case k1 => k_asm); (case k2 => k_asm); (case k3 => k_asm); (case k4 => k_asm); (case k5 => k_asm); (case k6 => k_is); (case k7 => k_is); (case k8 => (simp only [recursionLimit]; omega)); (case k9 => exact BindsTo.of_eq rfl); (case c5 => decide); (case kB => exact locs rfl); (case c2 => exact rfl); (case c3 => exact rfl); (case c4 => exact rfl); k_whole)
    intro g L' h' hg F' N' B' X' T'
    dsimp only
    show wpAny _ _ _ _ _ _
    clear hg B F Tp X
    clear N
    try k_fold
    k_steps
    all_goals (rename News _ _ _ _ => nE; rename Fr _ _ _ _ => fE)
    all_goals exact ⟨_, _, fE, rfl, rfl, fun p hp => (nE p hp).1, (by first | rfl | (cases b2 <;> first | rfl | contradiction))⟩
  · split at h
    · exact ⟨⟨h.2.1, h.2.2.1, fun b o _ => kept_all N h.1 h.2.2.2.1 b o⟩, h.2.2.2.2⟩
    · exact h.elim
set_option maxHeartbeats 2000000 in
theorem is_weak_c {star : Bool} (B : Below A₀ base outer h₀) (F : Fr h₀ L s.heap m) (X : (Et.hd.heap_39 w.params).In h₀) (Tp : Top p loose mean mg mb h₀) (hk : cs.kind = .function)
    (N : News h₀ L s.heap (tagsN w.params x dx fs fw oF oW star t1 t2 t3)) (hW : SetO w oW "frozenset" kw) (lW : kw.length ≤ 7) (hb2 : decide (k ∈ kw) = b2)
    (hd : dp + 32 < 1000) (hu : un + 180 < cLine) : Told 61 w (top dp un gd cn cs L a ccd cl outer) x [.str k tk] b2 s := by
  unfold Told
  revert X; k_fill; intro X
  refine codeAny_mono (R := fun r s' => match r with
      | .ok (.ret v) => (∀ b o, b ∉ (tagsN w.params x dx fs fw oF oW star t1 t2 t3).map (·.1) → s.heap.get? b = some o → s'.heap.get? b = some o) ∧ (s'.gens = s.gens ∧ s'.os = s.os ∧ (∀ p ∈ tagsN w.params x dx fs fw oF oW star t1 t2 t3, s'.heap.get? p.1 = some p.2) ∧ v = .bool (b2))
      | _ => False) ?_ (fun r s' h => ?_)
  · k_dflt (refine' enterG ?k1 ?k2 ?k3 ?k4 ?k5 ?kA ?kF ?kK ?k6 ?k7 ?k8 ?k9 ?kB ?_ ?c2 ?c3 ?c4 ?c5; (case kA => exact rfl); (case kF => exact rfl); (case kK => assumption); (case k1 => k_asm); (case k2 => k_asm); (case k3 => k_asm); (case k4 => k_asm); (case k5 => k_asm); (case k6 => k_is); (case k7 => k_is); (case k8 => (simp only [recursionLimit]; omega)); (case k9 => exact BindsTo.of_eq rfl); (case c5 => decide); (case kB => exact locs rfl); (case c2 => exact rfl); (case c3 => exact rfl); (case c4 => exact rfl); k_whole)
    intro g L' h' hg F' N' B' X' T'
    dsimp only
    show wpAny _ _ _ _ _ _
    clear hg B F Tp X
    clear N
    try k_fold
    k_steps
    all_goals (rename News _ _ _ _ => nE; rename Fr _ _ _ _ => fE)
    all_goals exact ⟨_, _, fE, rfl, rfl, fun p hp => (nE p hp).1, (by first | rfl | (cases b2 <;> first | rfl | contradiction))⟩
  · split at h
    · exact ⟨⟨h.2.1, h.2.2.1, fun b o _ => kept_all N h.1 h.2.2.2.1 b o⟩, h.2.2.2.2⟩
    · exact h.elim
theorem told_use {f : Addr} {A : Around} {args : List Value} {news : List (Addr × Obj)} {Q E : Value → Shared → Prop} (F : Fr h₀ L s.heap m) (N : News h₀ L s.heap news) (T : Told f w A x args b s)
    (h : ∀ h' tk d, Fr h₀ L h' m → News h₀ L h' news → Q (.bool b) { s with heap := h', toks := tk, drawn := d }) : wpAny (model PySem.Challenge.rw_ez0423_01.row.prog w) A (call (.ref f) (.ref x :: args)) Q E s := by
  refine wpAny_call (codeAny_mono T (fun r s' hr => ?_))
  split at hr
  · obtain ⟨aft, rfl⟩ := hr
    rw [split_after aft]
    exact h _ _ _ (Fr.same F aft.same) (News.same N aft.same)
  · exact hr.elim
/-- an object and its dict as they stand -/
def Still (x dx : Addr) (od : Obj) (s : Shared) : Prop := s.heap.get? x = some (instObj 140 dx) ∧ s.heap.get? dx = some od
theorem Still.of {news : List (Addr × Obj)} {od : Obj} (N : News h₀ L s.heap news) (m1 : (x, instObj 140 dx) ∈ news) (m2 : (dx, od) ∈ news) : Still x dx od s := ⟨(N _ m1).1, (N _ m2).1⟩
theorem tags_callWith {M : Model} {A : Around} {env : Env} {pos : Pos} {first : List Value} {e : Expr} {rest : List Expr} {Q E : Value → Shared → Prop} {od : Obj} {news : List (Addr × Obj)} (_N : News h₀ L s.heap news) (_m1 : (x, instObj 140 dx) ∈ news) (_m2 : (dx, od) ∈ news)
    (h : wpAny M A (spliced (backTo pos (starEach (e :: rest) env))) (fun vs s₁ => Still x dx od s₁ ∧ wpAny M A (call (.ref x) (first ++ vs)) Q E s₁) E s)
    (he : starEach (e :: rest) env = (false, eval e env) :: starEach rest env) (hplain : (backTo pos (starEach rest env)).any (·.1) = false) :
    wpAny M A (callWith pos (.ref x) first (backTo pos (starEach (e :: rest) env)) []) Q E s := by
  rw [he] at h ⊢
  exact kco_callWith_of (K := []) (C := 140) (ox := instObj 140 dx) (od := some od) (by show ((false || (backTo pos (starEach rest env)).any (·.1)) || false) = false; rw [hplain]; rfl) rfl
    (evalArgs_plain (wpAny_mono h (fun vs s₁ q => ⟨⟨(fun _ _ e => nomatch e), ⟨q.1.1, rfl, rfl, q.1.2⟩⟩, q.2⟩) fun _ _ e => e))
theorem tags_call {A : Around} {args : List Value} {news : List (Addr × Obj)} {Q E : Value → Shared → Prop} {od : Obj} (F : Fr h₀ L s.heap m) (X : (Et.hd.heap_39 w.params).In h₀) (N : News h₀ L s.heap news) (m1 : (x, instObj 140 dx) ∈ news) (m2 : (dx, od) ∈ news) (T : Told 95 w A x args b s)
    (h : ∀ h' tk d, Fr h₀ L h' m → News h₀ L h' news → Q (.bool b) { s with heap := h', toks := tk, drawn := d }) : wpAny (model PySem.Challenge.rw_ez0423_01.row.prog w) A (call (.ref x) args) Q E s := by
  refine wpAny_call (kco_code (C := 140) (X.keeps F.keep) (InstAt.of_news N m1 m2) rfl find_call fn_call fnIn_call (codeAny_mono T (fun r s' hr => ?_)))
  split at hr
  · obtain ⟨aft, rfl⟩ := hr
    rw [split_after aft]
    exact h _ _ _ (Fr.same F aft.same) (News.same N aft.same)
  · exact hr.elim
local macro_rules | `(tactic| walk_at "call ref") => `(tactic| (k_here; (with_reducible show wpAny _ _ (call (Value.ref 68) _) _ _ _); k_dflt (refine' told_use ?F2 ?N2 (is_strong_c ?B ?F ?X ?T ?hk (tags_sub ?N ?m1 ?m2 ?m3 ?m4) ?hF ?lF ?hb ?d ?u) ?_; (case F2 => k_asm); (case N2 => k_asm); (case B => k_asm); (case F => k_asm); (case X => k_asm); (case T => k_asm); (case hk => exact rfl); (case N => k_asm); (case m1 => k_mem); (case m2 => k_mem); (case m3 => k_mem); (case m4 => k_mem); (case hF => assumption); (case lF => assumption); (case hb => assumption); (case d => (dsimp only [top]; omega)); (case u => (dsimp only [top]; omega))); intro h' tk' d' F' N'))
local macro_rules | `(tactic| walk_at "call ref") => `(tactic| (k_here; (with_reducible show wpAny _ _ (call (Value.ref 61) _) _ _ _); k_dflt (refine' told_use ?F2 ?N2 (is_weak_c ?B ?F ?X ?T ?hk (tags_sub ?N ?m1 ?m2 ?m3 ?m4) ?hW ?lW ?hb2 ?d ?u) ?_; (case F2 => k_asm); (case N2 => k_asm); (case B => k_asm); (case F => k_asm); (case X => k_asm); (case T => k_asm); (case hk => exact rfl); (case N => k_asm); (case m1 => k_mem); (case m2 => k_mem); (case m3 => k_mem); (case m4 => k_mem); (case hW => assumption); (case lW => assumption); (case hb2 => assumption); (case d => (dsimp only [top]; omega)); (case u => (dsimp only [top]; omega))); intro h' tk' d' F' N'))
set_option maxHeartbeats 2000000 in
theorem contains_c (B : Below A₀ base outer h₀) (F : Fr h₀ L s.heap m) (X : (Et.hd.heap_39 w.params).In h₀) (Tp : Top p loose mean mg mb h₀) (hk : cs.kind = .function)
    (N : News h₀ L s.heap (tagsN w.params x dx fs fw oF oW false t1 t2 t3)) (hF : SetO w oF "frozenset" ks) (lF : ks.length ≤ 7) (hb : decide (k ∈ ks) = b)
    (hd : dp + 36 < 1000) (hu : un + 190 < cLine) : Told 82 w (top dp un gd cn cs L a ccd cl outer) x [.str k tk] b s := by
  unfold Told
  revert X; k_fill; intro X
  refine codeAny_mono (R := fun r s' => match r with
      | .ok (.ret v) => (∀ b o, b ∉ (tagsN w.params x dx fs fw oF oW false t1 t2 t3).map (·.1) → s.heap.get? b = some o → s'.heap.get? b = some o) ∧ (s'.gens = s.gens ∧ s'.os = s.os ∧ (∀ p ∈ tagsN w.params x dx fs fw oF oW false t1 t2 t3, s'.heap.get? p.1 = some p.2) ∧ v = .bool (b))
      | _ => False) ?_ (fun r s' h => ?_)
  · k_dflt (refine' enterG ?k1 ?k2 ?k3 ?k4 ?k5 ?kA ?kF ?kK ?k6 ?k7 ?k8 ?k9 ?kB ?_ ?c2 ?c3 ?c4 ?c5; (case kA => exact rfl); (case kF => exact rfl); (case kK => assumption); (case k1 => k_asm); (case k2 => k_asm); (case k3 => k_asm); (case k4 => k_asm); (case k5 => k_asm); (case k6 => k_is); (case k7 => k_is); (case k8 => (simp only [recursionLimit]; omega)); (case k9 => exact BindsTo.of_eq rfl); (case c5 => decide); (case kB => exact locs rfl); (case c2 => exact rfl); (case c3 => exact rfl); (case c4 => exact rfl); k_whole)
    intro g L' h' hg F' N' B' X' T'
    dsimp only
    show wpAny _ _ _ _ _ _
    clear hg B F Tp X
    clear N
    try k_fold
    k_steps
    all_goals (rename News _ _ _ _ => nE; rename Fr _ _ _ _ => fE)
    all_goals exact ⟨_, _, fE, rfl, rfl, fun p hp => (nE p hp).1, (by first | rfl | (cases b2 <;> first | rfl | contradiction))⟩
  · split at h
    · exact ⟨⟨h.2.1, h.2.2.1, fun b o _ => kept_all N h.1 h.2.2.2.1 b o⟩, h.2.2.2.2⟩
    · exact h.elim
set_option maxHeartbeats 2000000 in
theorem contains_star (B : Below A₀ base outer h₀) (F : Fr h₀ L s.heap m) (X : (Et.hd.heap_39 w.params).In h₀) (Tp : Top p loose mean mg mb h₀) (hk : cs.kind = .function)
    (N : News h₀ L s.heap (tagsN w.params x dx fs fw oF oW true t1 t2 t3)) 
    (hd : dp + 36 < 1000) (hu : un + 190 < cLine) : Told 82 w (top dp un gd cn cs L a ccd cl outer) x [.str k tk] true s := by
  unfold Told
  revert X; k_fill; intro X
  refine codeAny_mono (R := fun r s' => match r with
      | .ok (.ret v) => (∀ b o, b ∉ (tagsN w.params x dx fs fw oF oW true t1 t2 t3).map (·.1) → s.heap.get? b = some o → s'.heap.get? b = some o) ∧ (s'.gens = s.gens ∧ s'.os = s.os ∧ (∀ p ∈ tagsN w.params x dx fs fw oF oW true t1 t2 t3, s'.heap.get? p.1 = some p.2) ∧ v = .bool (true))
      | _ => False) ?_ (fun r s' h => ?_)
  · k_dflt (refine' enterG ?k1 ?k2 ?k3 ?k4 ?k5 ?kA ?kF ?kK ?k6 ?k7 ?k8 ?k9 ?kB ?_ ?c2 ?c3 ?c4 ?c5; (case kA => exact rfl); (case kF => exact rfl); (case kK => assumption); (case k1 => k_asm); (case k2 => k_asm); (case k3 => k_asm); (case k4 => k_asm); (case k5 => k_asm); (case k6 => k_is); (case k7 => k_is); (case k8 => (simp only [recursionLimit]; omega)); (case k9 => exact BindsTo.of_eq rfl); (case c5 => decide); (case kB => exact locs rfl); (case c2 => exact rfl); (case c3 => exact rfl); (case c4 => exact rfl); k_whole)
    intro g L' h' hg F' N' B' X' T'
    dsimp only
    show wpAny _ _ _ _ _ _
    clear hg B F Tp X
    clear N
    try k_fold
    k_steps
    all_goals (rename News _ _ _ _ => nE; rename Fr _ _ _ _ => fE)
    all_goals exact ⟨_, _, fE, rfl, rfl, fun p hp => (nE p hp).1, (by first | rfl | (cases b2 <;> first | rfl | contradiction))⟩
  · split at h
    · exact ⟨⟨h.2.1, h.2.2.1, fun b o _ => kept_all N h.1 h.2.2.2.1 b o⟩, h.2.2.2.2⟩
    · exact h.elim
local macro_rules | `(tactic| walk_at "call ref") => `(tactic| (k_here; (with_reducible show wpAny _ _ (call (Value.ref 82) _) _ _ _); k_dflt (refine' told_use ?F2 ?N2 (contains_c ?B ?F ?X ?T ?hk (tags_sub ?N ?m1 ?m2 ?m3 ?m4) ?hF ?lF ?hb ?d ?u) ?_; (case F2 => k_asm); (case N2 => k_asm); (case B => k_asm); (case F => k_asm); (case X => k_asm); (case T => k_asm); (case hk => exact rfl); (case N => k_asm); (case m1 => k_mem); (case m2 => k_mem); (case m3 => k_mem); (case m4 => k_mem); (case hF => assumption); (case lF => assumption); (case hb => assumption); (case d => (dsimp only [top]; omega)); (case u => (dsimp only [top]; omega))); intro h' tk' d' F' N'))
set_option maxHeartbeats 2000000 in
theorem contains_weak_c (B : Below A₀ base outer h₀) (F : Fr h₀ L s.heap m) (X : (Et.hd.heap_39 w.params).In h₀) (Tp : Top p loose mean mg mb h₀) (hk : cs.kind = .function)
    (N : News h₀ L s.heap (tagsN w.params x dx fs fw oF oW false t1 t2 t3)) (hF : SetO w oF "frozenset" ks) (lF : ks.length ≤ 7) (hb : decide (k ∈ ks) = b) (hW : SetO w oW "frozenset" kw) (lW : kw.length ≤ 7) (hb2 : decide (k ∈ kw) = b2)
    (hd : dp + 40 < 1000) (hu : un + 200 < cLine) : Told 75 w (top dp un gd cn cs L a ccd cl outer) x [.str k tk] (b2 || b) s := by
  unfold Told
  revert X; k_fill; intro X
  refine codeAny_mono (R := fun r s' => match r with
      | .ok (.ret v) => (∀ b o, b ∉ (tagsN w.params x dx fs fw oF oW false t1 t2 t3).map (·.1) → s.heap.get? b = some o → s'.heap.get? b = some o) ∧ (s'.gens = s.gens ∧ s'.os = s.os ∧ (∀ p ∈ tagsN w.params x dx fs fw oF oW false t1 t2 t3, s'.heap.get? p.1 = some p.2) ∧ v = .bool ((b2 || b)))
      | _ => False) ?_ (fun r s' h => ?_)
  · k_dflt (refine' enterG ?k1 ?k2 ?k3 ?k4 ?k5 ?kA ?kF ?kK ?k6 ?k7 ?k8 ?k9 ?kB ?_ ?c2 ?c3 ?c4 ?c5; (case kA => exact rfl); (case kF => exact rfl); (case kK => assumption); (case k1 => k_asm); (case k2 => k_asm); (case k3 => k_asm); (case k4 => k_asm); (case k5 => k_asm); (case k6 => k_is); (case k7 => k_is); (case k8 => (simp only [recursionLimit]; omega)); (case k9 => exact BindsTo.of_eq rfl); (case c5 => decide); (case kB => exact locs rfl); (case c2 => exact rfl); (case c3 => exact rfl); (case c4 => exact rfl); k_whole)
    intro g L' h' hg F' N' B' X' T'
    dsimp only
    show wpAny _ _ _ _ _ _
    clear hg B F Tp X
    clear N
    try k_fold
    k_steps
    all_goals (rename News _ _ _ _ => nE; rename Fr _ _ _ _ => fE)
    all_goals exact ⟨_, _, fE, rfl, rfl, fun p hp => (nE p hp).1, (by first | rfl | (cases b2 <;> first | rfl | contradiction))⟩
  · split at h
    · exact ⟨⟨h.2.1, h.2.2.1, fun b o _ => kept_all N h.1 h.2.2.2.1 b o⟩, h.2.2.2.2⟩
    · exact h.elim
local macro_rules | `(tactic| walk_at "call ref") => `(tactic| (k_here; (with_reducible show wpAny _ _ (call (Value.ref 82) _) _ _ _); k_dflt (refine' told_use ?F2 ?N2 (contains_star ?B ?F ?X ?T ?hk (tags_sub ?N ?m1 ?m2 ?m3 ?m4)  ?d ?u) ?_; (case F2 => k_asm); (case N2 => k_asm); (case B => k_asm); (case F => k_asm); (case X => k_asm); (case T => k_asm); (case hk => exact rfl); (case N => k_asm); (case m1 => k_mem); (case m2 => k_mem); (case m3 => k_mem); (case m4 => k_mem);  (case d => (dsimp only [top]; omega)); (case u => (dsimp only [top]; omega))); intro h' tk' d' F' N'))
set_option maxHeartbeats 2000000 in
theorem contains_weak_star (B : Below A₀ base outer h₀) (F : Fr h₀ L s.heap m) (X : (Et.hd.heap_39 w.params).In h₀) (Tp : Top p loose mean mg mb h₀) (hk : cs.kind = .function)
    (N : News h₀ L s.heap (tagsN w.params x dx fs fw oF oW true t1 t2 t3)) (hW : SetO w oW "frozenset" kw) (lW : kw.length ≤ 7) (hb2 : decide (k ∈ kw) = b2)
    (hd : dp + 40 < 1000) (hu : un + 200 < cLine) : Told 75 w (top dp un gd cn cs L a ccd cl outer) x [.str k tk] true s := by
  unfold Told
  revert X; k_fill; intro X
  refine codeAny_mono (R := fun r s' => match r with
      | .ok (.ret v) => (∀ b o, b ∉ (tagsN w.params x dx fs fw oF oW true t1 t2 t3).map (·.1) → s.heap.get? b = some o → s'.heap.get? b = some o) ∧ (s'.gens = s.gens ∧ s'.os = s.os ∧ (∀ p ∈ tagsN w.params x dx fs fw oF oW true t1 t2 t3, s'.heap.get? p.1 = some p.2) ∧ v = .bool (true))
      | _ => False) ?_ (fun r s' h => ?_)
  · k_dflt (refine' enterG ?k1 ?k2 ?k3 ?k4 ?k5 ?kA ?kF ?kK ?k6 ?k7 ?k8 ?k9 ?kB ?_ ?c2 ?c3 ?c4 ?c5; (case kA => exact rfl); (case kF => exact rfl); (case kK => assumption); (case k1 => k_asm); (case k2 => k_asm); (case k3 => k_asm); (case k4 => k_asm); (case k5 => k_asm); (case k6 => k_is); (case k7 => k_is); (case k8 => (simp only [recursionLimit]; omega)); (case k9 => exact BindsTo.of_eq rfl); (case c5 => decide); (case kB => exact locs rfl); (case c2 => exact rfl); (case c3 => exact rfl); (case c4 => exact rfl); k_whole)
    intro g L' h' hg F' N' B' X' T'
    dsimp only
    show wpAny _ _ _ _ _ _
    clear hg B F Tp X
    clear N
    try k_fold
    k_steps
    all_goals (rename News _ _ _ _ => nE; rename Fr _ _ _ _ => fE)
    all_goals exact ⟨_, _, fE, rfl, rfl, fun p hp => (nE p hp).1, (by first | rfl | (cases b2 <;> first | rfl | contradiction))⟩
  · split at h
    · exact ⟨⟨h.2.1, h.2.2.1, fun b o _ => kept_all N h.1 h.2.2.2.1 b o⟩, h.2.2.2.2⟩
    · exact h.elim
local macro_rules | `(tactic| walk_at "call ref") => `(tactic| (k_here; (with_reducible show wpAny _ _ (call (Value.ref 82) _) _ _ _); k_dflt (refine' told_use ?F2 ?N2 (contains_c ?B ?F ?X ?T ?hk (tags_sub ?N ?m1 ?m2 ?m3 ?m4) ?hF ?lF ?hb ?d ?u) ?_; (case F2 => k_asm); (case N2 => k_asm); (case B => k_asm); (case F => k_asm); (case X => k_asm); (case T => k_asm); (case hk => exact rfl); (case N => k_asm); (case m1 => k_mem); (case m2 => k_mem); (case m3 => k_mem); (case m4 => k_mem); (case hF => assumption); (case lF => assumption); (case hb => assumption); (case d => (dsimp only [top]; omega)); (case u => (dsimp only [top]; omega))); intro h' tk' d' F' N'))
set_option maxHeartbeats 2000000 in
theorem dunder_c (B : Below A₀ base outer h₀) (F : Fr h₀ L s.heap m) (X : (Et.hd.heap_39 w.params).In h₀) (Tp : Top p loose mean mg mb h₀) (hk : cs.kind = .function)
    (N : News h₀ L s.heap (tagsN w.params x dx fs fw oF oW false t1 t2 t3)) (hF : SetO w oF "frozenset" ks) (lF : ks.length ≤ 7) (hb : decide (k ∈ ks) = b)
    (hd : dp + 40 < 1000) (hu : un + 200 < cLine) : Told 130 w (top dp un gd cn cs L a ccd cl outer) x [.str k tk] b s := by
  unfold Told
  revert X; k_fill; intro X
  refine codeAny_mono (R := fun r s' => match r with
      | .ok (.ret v) => (∀ b o, b ∉ (tagsN w.params x dx fs fw oF oW false t1 t2 t3).map (·.1) → s.heap.get? b = some o → s'.heap.get? b = some o) ∧ (s'.gens = s.gens ∧ s'.os = s.os ∧ (∀ p ∈ tagsN w.params x dx fs fw oF oW false t1 t2 t3, s'.heap.get? p.1 = some p.2) ∧ v = .bool (b))
      | _ => False) ?_ (fun r s' h => ?_)
  · k_dflt (refine' enterG ?k1 ?k2 ?k3 ?k4 ?k5 ?kA ?kF ?kK ?k6 ?k7 ?k8 ?k9 ?kB ?_ ?c2 ?c3 ?c4 ?c5; (case kA => exact rfl); (case kF => exact rfl); (case kK => assumption); (case k1 => k_asm); (case k2 => k_asm); (case k3 => k_asm); (case k4 => k_asm); (case k5 => k_asm); (case k6 => k_is); (case k7 => k_is); (case k8 => (simp only [recursionLimit]; omega)); (case k9 => exact BindsTo.of_eq rfl); (case c5 => decide); (case kB => exact locs rfl); (case c2 => exact rfl); (case c3 => exact rfl); (case c4 => exact rfl); k_whole)
    intro g L' h' hg F' N' B' X' T'
    dsimp only
    show wpAny _ _ _ _ _ _
    clear hg B F Tp X
    clear N
    try k_fold
    k_steps
    all_goals (rename News _ _ _ _ => nE; rename Fr _ _ _ _ => fE)
    all_goals exact ⟨_, _, fE, rfl, rfl, fun p hp => (nE p hp).1, (by first | rfl | (cases b2 <;> first | rfl | contradiction))⟩
  · split at h
    · exact ⟨⟨h.2.1, h.2.2.1, fun b o _ => kept_all N h.1 h.2.2.2.1 b o⟩, h.2.2.2.2⟩
    · exact h.elim
set_option maxHeartbeats 2000000 in
theorem call1_c {star : Bool} (B : Below A₀ base outer h₀) (F : Fr h₀ L s.heap m) (X : (Et.hd.heap_39 w.params).In h₀) (Tp : Top p loose mean mg mb h₀) (hk : cs.kind = .function)
    (N : News h₀ L s.heap (tagsN w.params x dx fs fw oF oW star t1 t2 t3)) (hF : SetO w oF "frozenset" ks) (lF : ks.length ≤ 7) (hb : decide (k ∈ ks) = b)
    (hd : dp + 40 < 1000) (hu : un + 200 < cLine) : Told 95 w (top dp un gd cn cs L a ccd cl outer) x [.str k tk] b s := by
  unfold Told
  revert X; k_fill; intro X
  refine codeAny_mono (R := fun r s' => match r with
      | .ok (.ret v) => (∀ b o, b ∉ (tagsN w.params x dx fs fw oF oW star t1 t2 t3).map (·.1) → s.heap.get? b = some o → s'.heap.get? b = some o) ∧ (s'.gens = s.gens ∧ s'.os = s.os ∧ (∀ p ∈ tagsN w.params x dx fs fw oF oW star t1 t2 t3, s'.heap.get? p.1 = some p.2) ∧ v = .bool (b))
      | _ => False) ?_ (fun r s' h => ?_)
  · k_dflt (refine' enterG ?k1 ?k2 ?k3 ?k4 ?k5 ?kA ?kF ?kK ?k6 ?k7 ?k8 ?k9 ?kB ?_ ?c2 ?c3 ?c4 ?c5; (case kA => exact rfl); (case kF => exact rfl); (case kK => assumption); (case k1 => k_asm); (case k2 => k_asm); (case k3 => k_asm); (case k4 => k_asm); (case k5 => k_asm); (case k6 => k_is); (case k7 => k_is); (case k8 => (simp only [recursionLimit]; omega)); (case k9 => first | exact BindsTo.of_eq rfl | exact binds_K (by k_in) rfl (by k_is) rfl rfl rfl); (case c5 => decide); (case kB => exact locs rfl); (case c2 => exact rfl); (case c3 => exact rfl); (case c4 => exact rfl); k_whole)
    intro g L' h' hg F' N' B' X' T'
    dsimp only
    show wpAny _ _ _ _ _ _
    clear hg B F Tp X
    clear N
    try k_fold
    k_steps
    all_goals (rename News _ _ _ _ => nE; rename Fr _ _ _ _ => fE)
    all_goals exact ⟨_, _, fE, rfl, rfl, fun p hp => (nE p hp).1, (by first | rfl | (cases b2 <;> first | rfl | contradiction))⟩
  · split at h
    · exact ⟨⟨h.2.1, h.2.2.1, fun b o _ => kept_all N h.1 h.2.2.2.1 b o⟩, h.2.2.2.2⟩
    · exact h.elim
set_option maxHeartbeats 2000000 in
theorem call2_c {star : Bool} (B : Below A₀ base outer h₀) (F : Fr h₀ L s.heap m) (X : (Et.hd.heap_39 w.params).In h₀) (Tp : Top p loose mean mg mb h₀) (hk : cs.kind = .function)
    (N : News h₀ L s.heap (tagsN w.params x dx fs fw oF oW star t1 t2 t3)) (hF : SetO w oF "frozenset" ks) (lF : ks.length ≤ 7) (hb : decide (k ∈ ks) = b) (hW : SetO w oW "frozenset" kw) (lW : kw.length ≤ 7) (hb2 : decide (k ∈ kw) = b2)
    (hd : dp + 40 < 1000) (hu : un + 200 < cLine) : Told 95 w (top dp un gd cn cs L a ccd cl outer) x [.str k tk, .bool true] (b2 || b) s := by
  unfold Told
  revert X; k_fill; intro X
  refine codeAny_mono (R := fun r s' => match r with
      | .ok (.ret v) => (∀ b o, b ∉ (tagsN w.params x dx fs fw oF oW star t1 t2 t3).map (·.1) → s.heap.get? b = some o → s'.heap.get? b = some o) ∧ (s'.gens = s.gens ∧ s'.os = s.os ∧ (∀ p ∈ tagsN w.params x dx fs fw oF oW star t1 t2 t3, s'.heap.get? p.1 = some p.2) ∧ v = .bool ((b2 || b)))
      | _ => False) ?_ (fun r s' h => ?_)
  · k_dflt (refine' enterG ?k1 ?k2 ?k3 ?k4 ?k5 ?kA ?kF ?kK ?k6 ?k7 ?k8 ?k9 ?kB ?_ ?c2 ?c3 ?c4 ?c5; (case kA => exact rfl); (case kF => exact rfl); (case kK => assumption); (case k1 => k_asm); (case k2 => k_asm); (case k3 => k_asm); (case k4 => k_asm); (case k5 => k_asm); (case k6 => k_is); (case k7 => k_is); (case k8 => (simp only [recursionLimit]; omega)); (case k9 => first | exact BindsTo.of_eq rfl | exact binds_K (by k_in) rfl (by k_is) rfl rfl rfl); (case c5 => decide); (case kB => exact locs rfl); (case c2 => exact rfl); (case c3 => exact rfl); (case c4 => exact rfl); k_whole)
    intro g L' h' hg F' N' B' X' T'
    dsimp only
    show wpAny _ _ _ _ _ _
    clear hg B F Tp X
    clear N
    try k_fold
    k_steps
    all_goals (rename News _ _ _ _ => nE; rename Fr _ _ _ _ => fE)
    all_goals exact ⟨_, _, fE, rfl, rfl, fun p hp => (nE p hp).1, (by first | rfl | (cases b2 <;> first | rfl | contradiction))⟩
  · split at h
    · exact ⟨⟨h.2.1, h.2.2.1, fun b o _ => kept_all N h.1 h.2.2.2.1 b o⟩, h.2.2.2.2⟩
    · exact h.elim
end
end Et
end
section
open PySem PySem.W PySem.Calls PyProof.Rows
set_option Elab.async false
theorem Et.fresh_33 {M : Model} {A : Around} {E : Value → Shared → Prop} {s : Shared} {env : Env} {Q : Flow → Shared → Prop} (h : Q .next s) : wpAny M A (execs [] env) Q E s := by
  w_top off
  first | (walk1; exact h) | exact wpAny_execs_nil h
set_option maxRecDepth 100000
namespace Et
section
variable {w : World} {dp un : Nat} {gd : Option (List Code)} {cn : Str} {cs : Scope} {L a : Addr} {ccd : Value} {cl : List (Str × Addr)} {outer : List Env}
    {A₀ : Around} {base h₀ : Heap} {m : Str → Option Value} {s : Shared} {p : Program} {loose : List Str} {mean : ExcName → Option Value} {mg mb : Str → Option Value} {tk : Tok}
def QuoTold (w : World) (A : Around) (args : List Value) (r : Str) (s : Shared) : Prop :=
  wpAny (model PySem.Challenge.rw_ez0423_01.row.prog w) A (call (.ref 152) args) (fun v s' => After [] s s' ∧ ∃ t, v = .str r t) (fun _ _ => False) s
def PairIn (h₀ h : Heap) (k : Str) (b : Bool) (v : Value) : Prop := ∃ (T : Addr) (t : Tok) (e : Nat), v = .ref T ∧ h.get? T = some ({ cls := .type "tuple", data := .seq #[.str k t, .bool b] e } : Obj) ∧ h₀.get? T = none
def UnqTold (w : World) (A : Around) (arg : Value) (k : Str) (b : Bool) (s : Shared) : Prop :=
  wpAny (model PySem.Challenge.rw_ez0423_01.row.prog w) A (call (.ref 159) [arg]) (fun v s' => After [] s s' ∧ PairIn s.heap s'.heap k b v) (fun _ _ => False) s
section
open Builtin Builtin.Str
variable {prog : Program} {w : World} {A : Around} {E : Value → Shared → Prop} {s : Shared} {x y p1 p2 : Str} {t u u1 u2 v : Tok} {i : Int} {b : Bool} {Q : Value → Shared → Prop}
theorem in_str_own (hb : (!(occurrences x y 0 x.length 1).isEmpty) = b) (h : Q (.bool b) s) : wpAny (model prog w) A (compareOp .In (.str y u) (.str x t)) Q E s := in_str (by rw [hb]; exact h)
theorem starts_own (hb : Txt.startswith3 x y i = b) (h : Q (.bool b) s) : wpAny (model prog w) A (call (.builtin "str.startswith") [.str x t, .str y u, .int i v]) Q E s := SC.startswith3 (by rw [hb]; exact h)
theorem starts_two {g : Heap} {L D : Addr} {news : List (Addr × Obj)} {en : Nat} (N : News g L s.heap news) (hm : (D, ({ cls := .type "tuple", data := .seq #[.str p1 u1, .str p2 u2] en } : Obj)) ∈ news)
    (hb : ((0 + p1.length ≤ x.length && subAt x p1 0) || (0 + p2.length ≤ x.length && subAt x p2 0)) = b) (h : Q (.bool b) s) : wpAny (model prog w) A (call (.builtin "str.startswith") [.str x t, .ref D]) Q E s := by
  have hD := (N _ hm).1
  refine wpAny_call_entry F.slot_str_startswith (typeIs_str _ _ _) F.entry_str_startswith ?_ (F.args_str_startswith_2 _ _)
  unfold Builtin.«str.startswith» affixEntry
  refine wpAny_bind (m := strSomeArgs _ _ _ _) (wpAny_pure ?_)
  dsimp only
  refine wpAny_bind (m := searchRange _ _) (wpAny_of_eq (searchRange_nil _) ?_)
  dsimp only
  refine wpAny_bind (m := asStr? (.ref D)) (KPt.asStr_ref hD rfl ?_)
  dsimp only
  refine wpAny_bind (m := isInstance _ _) (wpAny_isInstance ⟨_, hD, rfl⟩ KPt.sub_tt ?_)
  rw [if_pos rfl]
  refine wpAny_bind (wpAny_rule ?_)
  refine wpAny_bind (m := seqItems? (.ref D)) ?_
  unfold seqItems?
  refine wpAny_bind (wpAny_load hD (wpAny_pure ?_))
  dsimp only
  rw [← Array.forIn_toList]
  simp only [List.forIn_cons, List.forIn_nil]
  refine wpAny_bind (wpAny_bind ?_)
  refine wpAny_bind (m := asStr? (.str p1 u1)) (wpAny_pure ?_)
  dsimp only
  split
  · next e =>
    rw [e, Bool.true_or] at hb
    subst hb
    exact wpAny_bind (m := ret _) (wpAny_pure (wpAny_pure (wpAny_pure (wpAny_pure ⟨_, rfl, h⟩))))
  · next e =>
    rw [Bool.not_eq_true] at e
    rw [e, Bool.false_or] at hb
    refine wpAny_pure ?_
    dsimp only
    refine wpAny_bind (wpAny_bind (m := asStr? (.str p2 u2)) (wpAny_pure ?_))
    dsimp only
    split
    · next e =>
      rw [e] at hb
      subst hb
      exact wpAny_bind (m := ret _) (wpAny_pure (wpAny_pure (wpAny_pure (wpAny_pure ⟨_, rfl, h⟩))))
    · next e =>
      rw [Bool.not_eq_true] at e
      rw [e] at hb
      subst hb
      exact wpAny_pure (wpAny_pure (wpAny_pure ⟨_, rfl, h⟩))
theorem ends_own (hb : (fromIndex x.length i + y.length ≤ x.length && subAt x y (x.length - y.length)) = b) (h : Q (.bool b) s) : wpAny (model prog w) A (call (.builtin "str.endswith") [.str x t, .str y u, .int i v]) Q E s := by
  subst hb
  refine call_gives (m := .val (.bool (fromIndex x.length i + y.length ≤ x.length && subAt x y (x.length - y.length)))) F.slot_str_endswith (typeIs_str _ _ _) F.entry_str_endswith (F.args_str_endswith_3 _ _ _) ?_ h
  show Gives (ret (.bool (fromIndex x.length i + y.length ≤ min x.length x.length && subAt x y (min x.length x.length - y.length)))) _
  rw [Nat.min_self]
  exact .of_eq rfl
end
local macro_rules | `(tactic| walk_at "compareOp In str str") => `(tactic| (k_here; k_dflt (first | (refine' in_str_own (b := false) ?hb ?_; (case hb => decide +kernel)) | (refine' in_str_own (b := true) ?hb ?_; (case hb => decide +kernel)))))
local macro_rules | `(tactic| walk_at "call builtin:str.startswith") => `(tactic| (k_here; k_dflt (first
  | (refine' starts_own (b := false) ?hb ?_; (case hb => decide +kernel)) | (refine' starts_own (b := true) ?hb ?_; (case hb => decide +kernel))
  | (refine' starts_two (b := false) ?N ?m ?hb ?_; (case N => k_asm); (case m => k_mem); (case hb => decide +kernel)) | (refine' starts_two (b := true) ?N ?m ?hb ?_; (case N => k_asm); (case m => k_mem); (case hb => decide +kernel)))))
local macro_rules | `(tactic| walk_at "call builtin:str.endswith") => `(tactic| (k_here; k_dflt (first | (refine' ends_own (b := false) ?hb ?_; (case hb => decide +kernel)) | (refine' ends_own (b := true) ?hb ?_; (case hb => decide +kernel)))))
set_option maxHeartbeats 2000000 in
theorem quo_0_false (B : Below A₀ base outer h₀) (F : Fr h₀ L s.heap m) (X : (Et.hd.heap_39 w.params).In h₀) (Tp : Top p loose mean mg mb h₀) (hk : cs.kind = .function)
    (hd : dp + 40 < 1000) (hu : un + 200 < cLine) : QuoTold w (top dp un gd cn cs L a ccd cl outer) [.str (Str.ofString "a") tk] (Str.ofString "\"a\"") s := by
  have N : News h₀ L s.heap [] := News.nil
  unfold QuoTold
  revert X; k_fill; intro X
  refine wpAny_call ?_
  refine codeAny_mono (R := fun r s' => match r with
      | .ok (.ret v) => (∀ b o, b ∉ ([] : List (Addr × Obj)).map (·.1) → s.heap.get? b = some o → s'.heap.get? b = some o) ∧ (s'.gens = s.gens ∧ s'.os = s.os ∧ ∃ t, v = .str (Str.ofString "\"a\"") t)
      | _ => False) ?_ (fun r s' h => ?_)
  · k_dflt (refine' enterG ?k1 ?k2 ?k3 ?k4 ?k5 ?kA ?kF ?kK ?k6 ?k7 ?k8 ?k9 ?kB ?_ ?c2 ?c3 ?c4 ?c5; (case kA => exact rfl); (case kF => exact rfl); (case kK => assumption); (case k1 => k_asm); (case k2 => k_asm); (case k3 => k_asm); (case k4 => k_asm); (case k5 => k_asm); (case k6 => k_is); (case k7 => k_is); (case k8 => (simp only [recursionLimit]; omega)); (case k9 => first | exact BindsTo.of_eq rfl | exact binds_K (by k_in) rfl (by k_is) rfl rfl rfl); (case c5 => decide); (case kB => exact locs rfl); (case c2 => exact rfl); (case c3 => exact rfl); (case c4 => exact rfl); k_whole)
    intro g L' h' hg F' N' B' X' T'
    dsimp only
    show wpAny _ _ _ _ _ _
    clear B F Tp X
    clear N
    try k_fold
    k_steps
    all_goals (rename News _ _ _ _ => nE; rename Fr _ _ _ _ => fE)
    all_goals exact ⟨_, _, fE, rfl, rfl, _, rfl⟩
  · split at h
    · exact ⟨⟨h.2.1, h.2.2.1, fun b o _ => h.1 b o (List.not_mem_nil)⟩, h.2.2.2⟩
    · exact h.elim
set_option maxHeartbeats 2000000 in
theorem unq_0_false (B : Below A₀ base outer h₀) (F : Fr h₀ L s.heap m) (X : (Et.hd.heap_39 w.params).In h₀) (Tp : Top p loose mean mg mb h₀) (hk : cs.kind = .function)
    (hd : dp + 40 < 1000) (hu : un + 200 < cLine) : UnqTold w (top dp un gd cn cs L a ccd cl outer) (.str (Str.ofString "\"a\"") tk) (Str.ofString "a") false s := by
  have N : News h₀ L s.heap [] := News.nil
  unfold UnqTold
  revert X; k_fill; intro X
  refine wpAny_call ?_
  refine codeAny_mono (R := fun r s' => match r with
      | .ok (.ret v) => (∀ b o, b ∉ ([] : List (Addr × Obj)).map (·.1) → s.heap.get? b = some o → s'.heap.get? b = some o) ∧ (s'.gens = s.gens ∧ s'.os = s.os ∧ PairIn s.heap s'.heap (Str.ofString "a") false v)
      | _ => False) ?_ (fun r s' h => ?_)
  · k_dflt (refine' enterG ?k1 ?k2 ?k3 ?k4 ?k5 ?kA ?kF ?kK ?k6 ?k7 ?k8 ?k9 ?kB ?_ ?c2 ?c3 ?c4 ?c5; (case kA => exact rfl); (case kF => exact rfl); (case kK => assumption); (case k1 => k_asm); (case k2 => k_asm); (case k3 => k_asm); (case k4 => k_asm); (case k5 => k_asm); (case k6 => k_is); (case k7 => k_is); (case k8 => (simp only [recursionLimit]; omega)); (case k9 => first | exact BindsTo.of_eq rfl | exact binds_K (by k_in) rfl (by k_is) rfl rfl rfl); (case c5 => decide); (case kB => exact locs rfl); (case c2 => exact rfl); (case c3 => exact rfl); (case c4 => exact rfl); k_whole)
    intro g L' h' hg F' N' B' X' T'
    dsimp only
    show wpAny _ _ _ _ _ _
    clear B F Tp X
    clear N
    try k_fold
    k_steps
    all_goals (rename News _ _ _ _ => nE; rename Fr _ _ _ _ => fE)
    all_goals (subst hg; exact ⟨_, _, fE, rfl, rfl, _, _, _, rfl, (nE _ (.head _)).1, hide_nil (nE _ (.head _)).2.2⟩)
  · split at h
    · exact ⟨⟨h.2.1, h.2.2.1, fun b o _ => h.1 b o (List.not_mem_nil)⟩, h.2.2.2⟩
    · exact h.elim
set_option maxHeartbeats 2000000 in
theorem quo_0_true (B : Below A₀ base outer h₀) (F : Fr h₀ L s.heap m) (X : (Et.hd.heap_39 w.params).In h₀) (Tp : Top p loose mean mg mb h₀) (hk : cs.kind = .function)
    (hd : dp + 40 < 1000) (hu : un + 200 < cLine) : QuoTold w (top dp un gd cn cs L a ccd cl outer) [.str (Str.ofString "a") tk, .bool true] (Str.ofString "W/\"a\"") s := by
  have N : News h₀ L s.heap [] := News.nil
  unfold QuoTold
  revert X; k_fill; intro X
  refine wpAny_call ?_
  refine codeAny_mono (R := fun r s' => match r with
      | .ok (.ret v) => (∀ b o, b ∉ ([] : List (Addr × Obj)).map (·.1) → s.heap.get? b = some o → s'.heap.get? b = some o) ∧ (s'.gens = s.gens ∧ s'.os = s.os ∧ ∃ t, v = .str (Str.ofString "W/\"a\"") t)
      | _ => False) ?_ (fun r s' h => ?_)
  · k_dflt (refine' enterG ?k1 ?k2 ?k3 ?k4 ?k5 ?kA ?kF ?kK ?k6 ?k7 ?k8 ?k9 ?kB ?_ ?c2 ?c3 ?c4 ?c5; (case kA => exact rfl); (case kF => exact rfl); (case kK => assumption); (case k1 => k_asm); (case k2 => k_asm); (case k3 => k_asm); (case k4 => k_asm); (case k5 => k_asm); (case k6 => k_is); (case k7 => k_is); (case k8 => (simp only [recursionLimit]; omega)); (case k9 => first | exact BindsTo.of_eq rfl | exact binds_K (by k_in) rfl (by k_is) rfl rfl rfl); (case c5 => decide); (case kB => exact locs rfl); (case c2 => exact rfl); (case c3 => exact rfl); (case c4 => exact rfl); k_whole)
    intro g L' h' hg F' N' B' X' T'
    dsimp only
    show wpAny _ _ _ _ _ _
    clear B F Tp X
    clear N
    try k_fold
    k_steps
    all_goals (rename News _ _ _ _ => nE; rename Fr _ _ _ _ => fE)
    all_goals exact ⟨_, _, fE, rfl, rfl, _, rfl⟩
  · split at h
    · exact ⟨⟨h.2.1, h.2.2.1, fun b o _ => h.1 b o (List.not_mem_nil)⟩, h.2.2.2⟩
    · exact h.elim
set_option maxHeartbeats 2000000 in
theorem unq_0_true (B : Below A₀ base outer h₀) (F : Fr h₀ L s.heap m) (X : (Et.hd.heap_39 w.params).In h₀) (Tp : Top p loose mean mg mb h₀) (hk : cs.kind = .function)
    (hd : dp + 40 < 1000) (hu : un + 200 < cLine) : UnqTold w (top dp un gd cn cs L a ccd cl outer) (.str (Str.ofString "W/\"a\"") tk) (Str.ofString "a") true s := by
  have N : News h₀ L s.heap [] := News.nil
  unfold UnqTold
  revert X; k_fill; intro X
  refine wpAny_call ?_
  refine codeAny_mono (R := fun r s' => match r with
      | .ok (.ret v) => (∀ b o, b ∉ ([] : List (Addr × Obj)).map (·.1) → s.heap.get? b = some o → s'.heap.get? b = some o) ∧ (s'.gens = s.gens ∧ s'.os = s.os ∧ PairIn s.heap s'.heap (Str.ofString "a") true v)
      | _ => False) ?_ (fun r s' h => ?_)
  · k_dflt (refine' enterG ?k1 ?k2 ?k3 ?k4 ?k5 ?kA ?kF ?kK ?k6 ?k7 ?k8 ?k9 ?kB ?_ ?c2 ?c3 ?c4 ?c5; (case kA => exact rfl); (case kF => exact rfl); (case kK => assumption); (case k1 => k_asm); (case k2 => k_asm); (case k3 => k_asm); (case k4 => k_asm); (case k5 => k_asm); (case k6 => k_is); (case k7 => k_is); (case k8 => (simp only [recursionLimit]; omega)); (case k9 => first | exact BindsTo.of_eq rfl | exact binds_K (by k_in) rfl (by k_is) rfl rfl rfl); (case c5 => decide); (case kB => exact locs rfl); (case c2 => exact rfl); (case c3 => exact rfl); (case c4 => exact rfl); k_whole)
    intro g L' h' hg F' N' B' X' T'
    dsimp only
    show wpAny _ _ _ _ _ _
    clear B F Tp X
    clear N
    try k_fold
    k_steps
    all_goals (rename News _ _ _ _ => nE; rename Fr _ _ _ _ => fE)
    all_goals (subst hg; exact ⟨_, _, fE, rfl, rfl, _, _, _, rfl, (nE _ (.head _)).1, hide_nil (nE _ (.head _)).2.2⟩)
  · split at h
    · exact ⟨⟨h.2.1, h.2.2.1, fun b o _ => h.1 b o (List.not_mem_nil)⟩, h.2.2.2⟩
    · exact h.elim
set_option maxHeartbeats 2000000 in
theorem quo_1_false (B : Below A₀ base outer h₀) (F : Fr h₀ L s.heap m) (X : (Et.hd.heap_39 w.params).In h₀) (Tp : Top p loose mean mg mb h₀) (hk : cs.kind = .function)
    (hd : dp + 40 < 1000) (hu : un + 200 < cLine) : QuoTold w (top dp un gd cn cs L a ccd cl outer) [.str (Str.ofString "b") tk] (Str.ofString "\"b\"") s := by
  have N : News h₀ L s.heap [] := News.nil
  unfold QuoTold
  revert X; k_fill; intro X
  refine wpAny_call ?_
  refine codeAny_mono (R := fun r s' => match r with
      | .ok (.ret v) => (∀ b o, b ∉ ([] : List (Addr × Obj)).map (·.1) → s.heap.get? b = some o → s'.heap.get? b = some o) ∧ (s'.gens = s.gens ∧ s'.os = s.os ∧ ∃ t, v = .str (Str.ofString "\"b\"") t)
      | _ => False) ?_ (fun r s' h => ?_)
  · k_dflt (refine' enterG ?k1 ?k2 ?k3 ?k4 ?k5 ?kA ?kF ?kK ?k6 ?k7 ?k8 ?k9 ?kB ?_ ?c2 ?c3 ?c4 ?c5; (case kA => exact rfl); (case kF => exact rfl); (case kK => assumption); (case k1 => k_asm); (case k2 => k_asm); (case k3 => k_asm); (case k4 => k_asm); (case k5 => k_asm); (case k6 => k_is); (case k7 => k_is); (case k8 => (simp only [recursionLimit]; omega)); (case k9 => first | exact BindsTo.of_eq rfl | exact binds_K (by k_in) rfl (by k_is) rfl rfl rfl); (case c5 => decide); (case kB => exact locs rfl); (case c2 => exact rfl); (case c3 => exact rfl); (case c4 => exact rfl); k_whole)
    intro g L' h' hg F' N' B' X' T'
    dsimp only
    show wpAny _ _ _ _ _ _
    clear B F Tp X
    clear N
    try k_fold
    k_steps
    all_goals (rename News _ _ _ _ => nE; rename Fr _ _ _ _ => fE)
    all_goals exact ⟨_, _, fE, rfl, rfl, _, rfl⟩
  · split at h
    · exact ⟨⟨h.2.1, h.2.2.1, fun b o _ => h.1 b o (List.not_mem_nil)⟩, h.2.2.2⟩
    · exact h.elim
set_option maxHeartbeats 2000000 in
theorem unq_1_false (B : Below A₀ base outer h₀) (F : Fr h₀ L s.heap m) (X : (Et.hd.heap_39 w.params).In h₀) (Tp : Top p loose mean mg mb h₀) (hk : cs.kind = .function)
    (hd : dp + 40 < 1000) (hu : un + 200 < cLine) : UnqTold w (top dp un gd cn cs L a ccd cl outer) (.str (Str.ofString "\"b\"") tk) (Str.ofString "b") false s := by
  have N : News h₀ L s.heap [] := News.nil
  unfold UnqTold
  revert X; k_fill; intro X
  refine wpAny_call ?_
  refine codeAny_mono (R := fun r s' => match r with
      | .ok (.ret v) => (∀ b o, b ∉ ([] : List (Addr × Obj)).map (·.1) → s.heap.get? b = some o → s'.heap.get? b = some o) ∧ (s'.gens = s.gens ∧ s'.os = s.os ∧ PairIn s.heap s'.heap (Str.ofString "b") false v)
      | _ => False) ?_ (fun r s' h => ?_)
  · k_dflt (refine' enterG ?k1 ?k2 ?k3 ?k4 ?k5 ?kA ?kF ?kK ?k6 ?k7 ?k8 ?k9 ?kB ?_ ?c2 ?c3 ?c4 ?c5; (case kA => exact rfl); (case kF => exact rfl); (case kK => assumption); (case k1 => k_asm); (case k2 => k_asm); (case k3 => k_asm); (case k4 => k_asm); (case k5 => k_asm); (case k6 => k_is); (case k7 => k_is); (case k8 => (simp only [recursionLimit]; omega)); (case k9 => first | exact BindsTo.of_eq rfl | exact binds_K (by k_in) rfl (by k_is) rfl rfl rfl); (case c5 => decide); (case kB => exact locs rfl); (case c2 => exact rfl); (case c3 => exact rfl); (case c4 => exact rfl); k_whole)
    intro g L' h' hg F' N' B' X' T'
    dsimp only
    show wpAny _ _ _ _ _ _
    clear B F Tp X
    clear N
    try k_fold
    k_steps
    all_goals (rename News _ _ _ _ => nE; rename Fr _ _ _ _ => fE)
    all_goals (subst hg; exact ⟨_, _, fE, rfl, rfl, _, _, _, rfl, (nE _ (.head _)).1, hide_nil (nE _ (.head _)).2.2⟩)
  · split at h
    · exact ⟨⟨h.2.1, h.2.2.1, fun b o _ => h.1 b o (List.not_mem_nil)⟩, h.2.2.2⟩
    · exact h.elim
set_option maxHeartbeats 2000000 in
theorem quo_1_true (B : Below A₀ base outer h₀) (F : Fr h₀ L s.heap m) (X : (Et.hd.heap_39 w.params).In h₀) (Tp : Top p loose mean mg mb h₀) (hk : cs.kind = .function)
    (hd : dp + 40 < 1000) (hu : un + 200 < cLine) : QuoTold w (top dp un gd cn cs L a ccd cl outer) [.str (Str.ofString "b") tk, .bool true] (Str.ofString "W/\"b\"") s := by
  have N : News h₀ L s.heap [] := News.nil
  unfold QuoTold
  revert X; k_fill; intro X
  refine wpAny_call ?_
  refine codeAny_mono (R := fun r s' => match r with
      | .ok (.ret v) => (∀ b o, b ∉ ([] : List (Addr × Obj)).map (·.1) → s.heap.get? b = some o → s'.heap.get? b = some o) ∧ (s'.gens = s.gens ∧ s'.os = s.os ∧ ∃ t, v = .str (Str.ofString "W/\"b\"") t)
      | _ => False) ?_ (fun r s' h => ?_)
  · k_dflt (refine' enterG ?k1 ?k2 ?k3 ?k4 ?k5 ?kA ?kF ?kK ?k6 ?k7 ?k8 ?k9 ?kB ?_ ?c2 ?c3 ?c4 ?c5; (case kA => exact rfl); (case kF => exact rfl); (case kK => assumption); (case k1 => k_asm); (case k2 => k_asm); (case k3 => k_asm); (case k4 => k_asm); (case k5 => k_asm); (case k6 => k_is); (case k7 => k_is); (case k8 => (simp only [recursionLimit]; omega)); (case k9 => first | exact BindsTo.of_eq rfl | exact binds_K (by k_in) rfl (by k_is) rfl rfl rfl); (case c5 => decide); (case kB => exact locs rfl); (case c2 => exact rfl); (case c3 => exact rfl); (case c4 => exact rfl); k_whole)
    intro g L' h' hg F' N' B' X' T'
    dsimp only
    show wpAny _ _ _ _ _ _
    clear B F Tp X
    clear N
    try k_fold
    k_steps
    all_goals (rename News _ _ _ _ => nE; rename Fr _ _ _ _ => fE)
    all_goals exact ⟨_, _, fE, rfl, rfl, _, rfl⟩
  · split at h
    · exact ⟨⟨h.2.1, h.2.2.1, fun b o _ => h.1 b o (List.not_mem_nil)⟩, h.2.2.2⟩
    · exact h.elim
set_option maxHeartbeats 2000000 in
theorem unq_1_true (B : Below A₀ base outer h₀) (F : Fr h₀ L s.heap m) (X : (Et.hd.heap_39 w.params).In h₀) (Tp : Top p loose mean mg mb h₀) (hk : cs.kind = .function)
    (hd : dp + 40 < 1000) (hu : un + 200 < cLine) : UnqTold w (top dp un gd cn cs L a ccd cl outer) (.str (Str.ofString "W/\"b\"") tk) (Str.ofString "b") true s := by
  have N : News h₀ L s.heap [] := News.nil
  unfold UnqTold
  revert X; k_fill; intro X
  refine wpAny_call ?_
  refine codeAny_mono (R := fun r s' => match r with
      | .ok (.ret v) => (∀ b o, b ∉ ([] : List (Addr × Obj)).map (·.1) → s.heap.get? b = some o → s'.heap.get? b = some o) ∧ (s'.gens = s.gens ∧ s'.os = s.os ∧ PairIn s.heap s'.heap (Str.ofString "b") true v)
      | _ => False) ?_ (fun r s' h => ?_)
  · k_dflt (refine' enterG ?k1 ?k2 ?k3 ?k4 ?k5 ?kA ?kF ?kK ?k6 ?k7 ?k8 ?k9 ?kB ?_ ?c2 ?c3 ?c4 ?c5; (case kA => exact rfl); (case kF => exact rfl); (case kK => assumption); (case k1 => k_asm); (case k2 => k_asm); (case k3 => k_asm); (case k4 => k_asm); (case k5 => k_asm); (case k6 => k_is); (case k7 => k_is); (case k8 => (simp only [recursionLimit]; omega)); (case k9 => first | exact BindsTo.of_eq rfl | exact binds_K (by k_in) rfl (by k_is) rfl rfl rfl); (case c5 => decide); (case kB => exact locs rfl); (case c2 => exact rfl); (case c3 => exact rfl); (case c4 => exact rfl); k_whole)
    intro g L' h' hg F' N' B' X' T'
    dsimp only
    show wpAny _ _ _ _ _ _
    clear B F Tp X
    clear N
    try k_fold
    k_steps
    all_goals (rename News _ _ _ _ => nE; rename Fr _ _ _ _ => fE)
    all_goals (subst hg; exact ⟨_, _, fE, rfl, rfl, _, _, _, rfl, (nE _ (.head _)).1, hide_nil (nE _ (.head _)).2.2⟩)
  · split at h
    · exact ⟨⟨h.2.1, h.2.2.1, fun b o _ => h.1 b o (List.not_mem_nil)⟩, h.2.2.2⟩
    · exact h.elim
set_option maxHeartbeats 2000000 in
theorem quo_2_false (B : Below A₀ base outer h₀) (F : Fr h₀ L s.heap m) (X : (Et.hd.heap_39 w.params).In h₀) (Tp : Top p loose mean mg mb h₀) (hk : cs.kind = .function)
    (hd : dp + 40 < 1000) (hu : un + 200 < cLine) : QuoTold w (top dp un gd cn cs L a ccd cl outer) [.str (Str.ofString "c d") tk] (Str.ofString "\"c d\"") s := by
  have N : News h₀ L s.heap [] := News.nil
  unfold QuoTold
  revert X; k_fill; intro X
  refine wpAny_call ?_
  refine codeAny_mono (R := fun r s' => match r with
      | .ok (.ret v) => (∀ b o, b ∉ ([] : List (Addr × Obj)).map (·.1) → s.heap.get? b = some o → s'.heap.get? b = some o) ∧ (s'.gens = s.gens ∧ s'.os = s.os ∧ ∃ t, v = .str (Str.ofString "\"c d\"") t)
      | _ => False) ?_ (fun r s' h => ?_)
  · k_dflt (refine' enterG ?k1 ?k2 ?k3 ?k4 ?k5 ?kA ?kF ?kK ?k6 ?k7 ?k8 ?k9 ?kB ?_ ?c2 ?c3 ?c4 ?c5; (case kA => exact rfl); (case kF => exact rfl); (case kK => assumption); (case k1 => k_asm); (case k2 => k_asm); (case k3 => k_asm); (case k4 => k_asm); (case k5 => k_asm); (case k6 => k_is); (case k7 => k_is); (case k8 => (simp only [recursionLimit]; omega)); (case k9 => first | exact BindsTo.of_eq rfl | exact binds_K (by k_in) rfl (by k_is) rfl rfl rfl); (case c5 => decide); (case kB => exact locs rfl); (case c2 => exact rfl); (case c3 => exact rfl); (case c4 => exact rfl); k_whole)
    intro g L' h' hg F' N' B' X' T'
    dsimp only
    show wpAny _ _ _ _ _ _
    clear B F Tp X
    clear N
    try k_fold
    k_steps
    all_goals (rename News _ _ _ _ => nE; rename Fr _ _ _ _ => fE)
    all_goals exact ⟨_, _, fE, rfl, rfl, _, rfl⟩
  · split at h
    · exact ⟨⟨h.2.1, h.2.2.1, fun b o _ => h.1 b o (List.not_mem_nil)⟩, h.2.2.2⟩
    · exact h.elim
set_option maxHeartbeats 2000000 in
theorem unq_2_false (B : Below A₀ base outer h₀) (F : Fr h₀ L s.heap m) (X : (Et.hd.heap_39 w.params).In h₀) (Tp : Top p loose mean mg mb h₀) (hk : cs.kind = .function)
    (hd : dp + 40 < 1000) (hu : un + 200 < cLine) : UnqTold w (top dp un gd cn cs L a ccd cl outer) (.str (Str.ofString "\"c d\"") tk) (Str.ofString "c d") false s := by
  have N : News h₀ L s.heap [] := News.nil
  unfold UnqTold
  revert X; k_fill; intro X
  refine wpAny_call ?_
  refine codeAny_mono (R := fun r s' => match r with
      | .ok (.ret v) => (∀ b o, b ∉ ([] : List (Addr × Obj)).map (·.1) → s.heap.get? b = some o → s'.heap.get? b = some o) ∧ (s'.gens = s.gens ∧ s'.os = s.os ∧ PairIn s.heap s'.heap (Str.ofString "c d") false v)
      | _ => False) ?_ (fun r s' h => ?_)
  · k_dflt (refine' enterG ?k1 ?k2 ?k3 ?k4 ?k5 ?kA ?kF ?kK ?k6 ?k7 ?k8 ?k9 ?kB ?_ ?c2 ?c3 ?c4 ?c5; (case kA => exact rfl); (case kF => exact rfl); (case kK => assumption); (case k1 => k_asm); (case k2 => k_asm); (case k3 => k_asm); (case k4 => k_asm); (case k5 => k_asm); (case k6 => k_is); (case k7 => k_is); (case k8 => (simp only [recursionLimit]; omega)); (case k9 => first | exact BindsTo.of_eq rfl | exact binds_K (by k_in) rfl (by k_is) rfl rfl rfl); (case c5 => decide); (case kB => exact locs rfl); (case c2 => exact rfl); (case c3 => exact rfl); (case c4 => exact rfl); k_whole)
    intro g L' h' hg F' N' B' X' T'
    dsimp only
    show wpAny _ _ _ _ _ _
    clear B F Tp X
    clear N
    try k_fold
    k_steps
    all_goals (rename News _ _ _ _ => nE; rename Fr _ _ _ _ => fE)
    all_goals (subst hg; exact ⟨_, _, fE, rfl, rfl, _, _, _, rfl, (nE _ (.head _)).1, hide_nil (nE _ (.head _)).2.2⟩)
  · split at h
    · exact ⟨⟨h.2.1, h.2.2.1, fun b o _ => h.1 b o (List.not_mem_nil)⟩, h.2.2.2⟩
    · exact h.elim
set_option maxHeartbeats 2000000 in
theorem quo_2_true (B : Below A₀ base outer h₀) (F : Fr h₀ L s.heap m) (X : (Et.hd.heap_39 w.params).In h₀) (Tp : Top p loose mean mg mb h₀) (hk : cs.kind = .function)
    (hd : dp + 40 < 1000) (hu : un + 200 < cLine) : QuoTold w (top dp un gd cn cs L a ccd cl outer) [.str (Str.ofString "c d") tk, .bool true] (Str.ofString "W/\"c d\"") s := by
  have N : News h₀ L s.heap [] := News.nil
  unfold QuoTold
  revert X; k_fill; intro X
  refine wpAny_call ?_
  refine codeAny_mono (R := fun r s' => match r with
      | .ok (.ret v) => (∀ b o, b ∉ ([] : List (Addr × Obj)).map (·.1) → s.heap.get? b = some o → s'.heap.get? b = some o) ∧ (s'.gens = s.gens ∧ s'.os = s.os ∧ ∃ t, v = .str (Str.ofString "W/\"c d\"") t)
      | _ => False) ?_ (fun r s' h => ?_)
  · k_dflt (refine' enterG ?k1 ?k2 ?k3 ?k4 ?k5 ?kA ?kF ?kK ?k6 ?k7 ?k8 ?k9 ?kB ?_ ?c2 ?c3 ?c4 ?c5; (case kA => exact rfl); (case kF => exact rfl); (case kK => assumption); (case k1 => k_asm); (case k2 => k_asm); (case k3 => k_asm); (case k4 => k_asm); (case k5 => k_asm); (case k6 => k_is); (case k7 => k_is); (case k8 => (simp only [recursionLimit]; omega)); (case k9 => first | exact BindsTo.of_eq rfl | exact binds_K (by k_in) rfl (by k_is) rfl rfl rfl); (case c5 => decide); (case kB => exact locs rfl); (case c2 => exact rfl); (case c3 => exact rfl); (case c4 => exact rfl); k_whole)
    intro g L' h' hg F' N' B' X' T'
    dsimp only
    show wpAny _ _ _ _ _ _
    clear B F Tp X
    clear N
    try k_fold
    k_steps
    all_goals (rename News _ _ _ _ => nE; rename Fr _ _ _ _ => fE)
    all_goals exact ⟨_, _, fE, rfl, rfl, _, rfl⟩
  · split at h
    · exact ⟨⟨h.2.1, h.2.2.1, fun b o _ => h.1 b o (List.not_mem_nil)⟩, h.2.2.2⟩
    · exact h.elim
set_option maxHeartbeats 2000000 in
theorem unq_2_true (B : Below A₀ base outer h₀) (F : Fr h₀ L s.heap m) (X : (Et.hd.heap_39 w.params).In h₀) (Tp : Top p loose mean mg mb h₀) (hk : cs.kind = .function)
    (hd : dp + 40 < 1000) (hu : un + 200 < cLine) : UnqTold w (top dp un gd cn cs L a ccd cl outer) (.str (Str.ofString "W/\"c d\"") tk) (Str.ofString "c d") true s := by
  have N : News h₀ L s.heap [] := News.nil
  unfold UnqTold
  revert X; k_fill; intro X
  refine wpAny_call ?_
  refine codeAny_mono (R := fun r s' => match r with
      | .ok (.ret v) => (∀ b o, b ∉ ([] : List (Addr × Obj)).map (·.1) → s.heap.get? b = some o → s'.heap.get? b = some o) ∧ (s'.gens = s.gens ∧ s'.os = s.os ∧ PairIn s.heap s'.heap (Str.ofString "c d") true v)
      | _ => False) ?_ (fun r s' h => ?_)
  · k_dflt (refine' enterG ?k1 ?k2 ?k3 ?k4 ?k5 ?kA ?kF ?kK ?k6 ?k7 ?k8 ?k9 ?kB ?_ ?c2 ?c3 ?c4 ?c5; (case kA => exact rfl); (case kF => exact rfl); (case kK => assumption); (case k1 => k_asm); (case k2 => k_asm); (case k3 => k_asm); (case k4 => k_asm); (case k5 => k_asm); (case k6 => k_is); (case k7 => k_is); (case k8 => (simp only [recursionLimit]; omega)); (case k9 => first | exact BindsTo.of_eq rfl | exact binds_K (by k_in) rfl (by k_is) rfl rfl rfl); (case c5 => decide); (case kB => exact locs rfl); (case c2 => exact rfl); (case c3 => exact rfl); (case c4 => exact rfl); k_whole)
    intro g L' h' hg F' N' B' X' T'
    dsimp only
    show wpAny _ _ _ _ _ _
    clear B F Tp X
    clear N
    try k_fold
    k_steps
    all_goals (rename News _ _ _ _ => nE; rename Fr _ _ _ _ => fE)
    all_goals (subst hg; exact ⟨_, _, fE, rfl, rfl, _, _, _, rfl, (nE _ (.head _)).1, hide_nil (nE _ (.head _)).2.2⟩)
  · split at h
    · exact ⟨⟨h.2.1, h.2.2.1, fun b o _ => h.1 b o (List.not_mem_nil)⟩, h.2.2.2⟩
    · exact h.elim
set_option maxHeartbeats 2000000 in
theorem quo_3_false (B : Below A₀ base outer h₀) (F : Fr h₀ L s.heap m) (X : (Et.hd.heap_39 w.params).In h₀) (Tp : Top p loose mean mg mb h₀) (hk : cs.kind = .function)
    (hd : dp + 40 < 1000) (hu : un + 200 < cLine) : QuoTold w (top dp un gd cn cs L a ccd cl outer) [.str (Str.ofString "e,f") tk] (Str.ofString "\"e,f\"") s := by
  have N : News h₀ L s.heap [] := News.nil
  unfold QuoTold
  revert X; k_fill; intro X
  refine wpAny_call ?_
  refine codeAny_mono (R := fun r s' => match r with
      | .ok (.ret v) => (∀ b o, b ∉ ([] : List (Addr × Obj)).map (·.1) → s.heap.get? b = some o → s'.heap.get? b = some o) ∧ (s'.gens = s.gens ∧ s'.os = s.os ∧ ∃ t, v = .str (Str.ofString "\"e,f\"") t)
      | _ => False) ?_ (fun r s' h => ?_)
  · k_dflt (refine' enterG ?k1 ?k2 ?k3 ?k4 ?k5 ?kA ?kF ?kK ?k6 ?k7 ?k8 ?k9 ?kB ?_ ?c2 ?c3 ?c4 ?c5; (case kA => exact rfl); (case kF => exact rfl); (case kK => assumption); (case k1 => k_asm); (case k2 => k_asm); (case k3 => k_asm); (case k4 => k_asm); (case k5 => k_asm); (case k6 => k_is); (case k7 => k_is); (case k8 => (simp only [recursionLimit]; omega)); (case k9 => first | exact BindsTo.of_eq rfl | exact binds_K (by k_in) rfl (by k_is) rfl rfl rfl); (case c5 => decide); (case kB => exact locs rfl); (case c2 => exact rfl); (case c3 => exact rfl); (case c4 => exact rfl); k_whole)
    intro g L' h' hg F' N' B' X' T'
    dsimp only
    show wpAny _ _ _ _ _ _
    clear B F Tp X
    clear N
    try k_fold
    k_steps
    all_goals (rename News _ _ _ _ => nE; rename Fr _ _ _ _ => fE)
    all_goals exact ⟨_, _, fE, rfl, rfl, _, rfl⟩
  · split at h
    · exact ⟨⟨h.2.1, h.2.2.1, fun b o _ => h.1 b o (List.not_mem_nil)⟩, h.2.2.2⟩
    · exact h.elim
set_option maxHeartbeats 2000000 in
theorem unq_3_false (B : Below A₀ base outer h₀) (F : Fr h₀ L s.heap m) (X : (Et.hd.heap_39 w.params).In h₀) (Tp : Top p loose mean mg mb h₀) (hk : cs.kind = .function)
    (hd : dp + 40 < 1000) (hu : un + 200 < cLine) : UnqTold w (top dp un gd cn cs L a ccd cl outer) (.str (Str.ofString "\"e,f\"") tk) (Str.ofString "e,f") false s := by
  have N : News h₀ L s.heap [] := News.nil
  unfold UnqTold
  revert X; k_fill; intro X
  refine wpAny_call ?_
  refine codeAny_mono (R := fun r s' => match r with
      | .ok (.ret v) => (∀ b o, b ∉ ([] : List (Addr × Obj)).map (·.1) → s.heap.get? b = some o → s'.heap.get? b = some o) ∧ (s'.gens = s.gens ∧ s'.os = s.os ∧ PairIn s.heap s'.heap (Str.ofString "e,f") false v)
      | _ => False) ?_ (fun r s' h => ?_)
  · k_dflt (refine' enterG ?k1 ?k2 ?k3 ?k4 ?k5 ?kA ?kF ?kK ?k6 ?k7 ?k8 ?k9 ?kB ?_ ?c2 ?c3 ?c4 ?c5; (case kA => exact rfl); (case kF => exact rfl); (case kK => assumption); (case k1 => k_asm); (case k2 => k_asm); (case k3 => k_asm); (case k4 => k_asm); (case k5 => k_asm); (case k6 => k_is); (case k7 => k_is); (case k8 => (simp only [recursionLimit]; omega)); (case k9 => first | exact BindsTo.of_eq rfl | exact binds_K (by k_in) rfl (by k_is) rfl rfl rfl); (case c5 => decide); (case kB => exact locs rfl); (case c2 => exact rfl); (case c3 => exact rfl); (case c4 => exact rfl); k_whole)
    intro g L' h' hg F' N' B' X' T'
    dsimp only
    show wpAny _ _ _ _ _ _
    clear B F Tp X
    clear N
    try k_fold
    k_steps
    all_goals (rename News _ _ _ _ => nE; rename Fr _ _ _ _ => fE)
    all_goals (subst hg; exact ⟨_, _, fE, rfl, rfl, _, _, _, rfl, (nE _ (.head _)).1, hide_nil (nE _ (.head _)).2.2⟩)
  · split at h
    · exact ⟨⟨h.2.1, h.2.2.1, fun b o _ => h.1 b o (List.not_mem_nil)⟩, h.2.2.2⟩
    · exact h.elim
set_option maxHeartbeats 2000000 in
theorem quo_3_true (B : Below A₀ base outer h₀) (F : Fr h₀ L s.heap m) (X : (Et.hd.heap_39 w.params).In h₀) (Tp : Top p loose mean mg mb h₀) (hk : cs.kind = .function)
    (hd : dp + 40 < 1000) (hu : un + 200 < cLine) : QuoTold w (top dp un gd cn cs L a ccd cl outer) [.str (Str.ofString "e,f") tk, .bool true] (Str.ofString "W/\"e,f\"") s := by
  have N : News h₀ L s.heap [] := News.nil
  unfold QuoTold
  revert X; k_fill; intro X
  refine wpAny_call ?_
  refine codeAny_mono (R := fun r s' => match r with
      | .ok (.ret v) => (∀ b o, b ∉ ([] : List (Addr × Obj)).map (·.1) → s.heap.get? b = some o → s'.heap.get? b = some o) ∧ (s'.gens = s.gens ∧ s'.os = s.os ∧ ∃ t, v = .str (Str.ofString "W/\"e,f\"") t)
      | _ => False) ?_ (fun r s' h => ?_)
  · k_dflt (refine' enterG ?k1 ?k2 ?k3 ?k4 ?k5 ?kA ?kF ?kK ?k6 ?k7 ?k8 ?k9 ?kB ?_ ?c2 ?c3 ?c4 ?c5; (case kA => exact rfl); (case kF => exact rfl); (case kK => assumption); (case k1 => k_asm); (case k2 => k_asm); (case k3 => k_asm); (case k4 => k_asm); (case k5 => k_asm); (case k6 => k_is); (case k7 => k_is); (case k8 => (simp only [recursionLimit]; omega)); (case k9 => first | exact BindsTo.of_eq rfl | exact binds_K (by k_in) rfl (by k_is) rfl rfl rfl); (case c5 => decide); (case kB => exact locs rfl); (case c2 => exact rfl); (case c3 => exact rfl); (case c4 => exact rfl); k_whole)
    intro g L' h' hg F' N' B' X' T'
    dsimp only
    show wpAny _ _ _ _ _ _
    clear B F Tp X
    clear N
    try k_fold
    k_steps
    all_goals (rename News _ _ _ _ => nE; rename Fr _ _ _ _ => fE)
    all_goals exact ⟨_, _, fE, rfl, rfl, _, rfl⟩
  · split at h
    · exact ⟨⟨h.2.1, h.2.2.1, fun b o _ => h.1 b o (List.not_mem_nil)⟩, h.2.2.2⟩
    · exact h.elim
set_option maxHeartbeats 2000000 in
theorem unq_3_true (B : Below A₀ base outer h₀) (F : Fr h₀ L s.heap m) (X : (Et.hd.heap_39 w.params).In h₀) (Tp : Top p loose mean mg mb h₀) (hk : cs.kind = .function)
    (hd : dp + 40 < 1000) (hu : un + 200 < cLine) : UnqTold w (top dp un gd cn cs L a ccd cl outer) (.str (Str.ofString "W/\"e,f\"") tk) (Str.ofString "e,f") true s := by
  have N : News h₀ L s.heap [] := News.nil
  unfold UnqTold
  revert X; k_fill; intro X
  refine wpAny_call ?_
  refine codeAny_mono (R := fun r s' => match r with
      | .ok (.ret v) => (∀ b o, b ∉ ([] : List (Addr × Obj)).map (·.1) → s.heap.get? b = some o → s'.heap.get? b = some o) ∧ (s'.gens = s.gens ∧ s'.os = s.os ∧ PairIn s.heap s'.heap (Str.ofString "e,f") true v)
      | _ => False) ?_ (fun r s' h => ?_)
  · k_dflt (refine' enterG ?k1 ?k2 ?k3 ?k4 ?k5 ?kA ?kF ?kK ?k6 ?k7 ?k8 ?k9 ?kB ?_ ?c2 ?c3 ?c4 ?c5; (case kA => exact rfl); (case kF => exact rfl); (case kK => assumption); (case k1 => k_asm); (case k2 => k_asm); (case k3 => k_asm); (case k4 => k_asm); (case k5 => k_asm); (case k6 => k_is); (case k7 => k_is); (case k8 => (simp only [recursionLimit]; omega)); (case k9 => first | exact BindsTo.of_eq rfl | exact binds_K (by k_in) rfl (by k_is) rfl rfl rfl); (case c5 => decide); (case kB => exact locs rfl); (case c2 => exact rfl); (case c3 => exact rfl); (case c4 => exact rfl); k_whole)
    intro g L' h' hg F' N' B' X' T'
    dsimp only
    show wpAny _ _ _ _ _ _
    clear B F Tp X
    clear N
    try k_fold
    k_steps
    all_goals (rename News _ _ _ _ => nE; rename Fr _ _ _ _ => fE)
    all_goals (subst hg; exact ⟨_, _, fE, rfl, rfl, _, _, _, rfl, (nE _ (.head _)).1, hide_nil (nE _ (.head _)).2.2⟩)
  · split at h
    · exact ⟨⟨h.2.1, h.2.2.1, fun b o _ => h.1 b o (List.not_mem_nil)⟩, h.2.2.2⟩
    · exact h.elim
set_option maxHeartbeats 2000000 in
theorem quo_4_false (B : Below A₀ base outer h₀) (F : Fr h₀ L s.heap m) (X : (Et.hd.heap_39 w.params).In h₀) (Tp : Top p loose mean mg mb h₀) (hk : cs.kind = .function)
    (hd : dp + 40 < 1000) (hu : un + 200 < cLine) : QuoTold w (top dp un gd cn cs L a ccd cl outer) [.str (Str.ofString "x-1") tk] (Str.ofString "\"x-1\"") s := by
  have N : News h₀ L s.heap [] := News.nil
  unfold QuoTold
  revert X; k_fill; intro X
  refine wpAny_call ?_
  refine codeAny_mono (R := fun r s' => match r with
      | .ok (.ret v) => (∀ b o, b ∉ ([] : List (Addr × Obj)).map (·.1) → s.heap.get? b = some o → s'.heap.get? b = some o) ∧ (s'.gens = s.gens ∧ s'.os = s.os ∧ ∃ t, v = .str (Str.ofString "\"x-1\"") t)
      | _ => False) ?_ (fun r s' h => ?_)
  · k_dflt (refine' enterG ?k1 ?k2 ?k3 ?k4 ?k5 ?kA ?kF ?kK ?k6 ?k7 ?k8 ?k9 ?kB ?_ ?c2 ?c3 ?c4 ?c5; (case kA => exact rfl); (case kF => exact rfl); (case kK => assumption); (case k1 => k_asm); (case k2 => k_asm); (case k3 => k_asm); (case k4 => k_asm); (case k5 => k_asm); (case k6 => k_is); (case k7 => k_is); (case k8 => (simp only [recursionLimit]; omega)); (case k9 => first | exact BindsTo.of_eq rfl | exact binds_K (by k_in) rfl (by k_is) rfl rfl rfl); (case c5 => decide); (case kB => exact locs rfl); (case c2 => exact rfl); (case c3 => exact rfl); (case c4 => exact rfl); k_whole)
    intro g L' h' hg F' N' B' X' T'
    dsimp only
    show wpAny _ _ _ _ _ _
    clear B F Tp X
    clear N
    try k_fold
    k_steps
    all_goals (rename News _ _ _ _ => nE; rename Fr _ _ _ _ => fE)
    all_goals exact ⟨_, _, fE, rfl, rfl, _, rfl⟩
  · split at h
    · exact ⟨⟨h.2.1, h.2.2.1, fun b o _ => h.1 b o (List.not_mem_nil)⟩, h.2.2.2⟩
    · exact h.elim
set_option maxHeartbeats 2000000 in
theorem unq_4_false (B : Below A₀ base outer h₀) (F : Fr h₀ L s.heap m) (X : (Et.hd.heap_39 w.params).In h₀) (Tp : Top p loose mean mg mb h₀) (hk : cs.kind = .function)
    (hd : dp + 40 < 1000) (hu : un + 200 < cLine) : UnqTold w (top dp un gd cn cs L a ccd cl outer) (.str (Str.ofString "\"x-1\"") tk) (Str.ofString "x-1") false s := by
  have N : News h₀ L s.heap [] := News.nil
  unfold UnqTold
  revert X; k_fill; intro X
  refine wpAny_call ?_
  refine codeAny_mono (R := fun r s' => match r with
      | .ok (.ret v) => (∀ b o, b ∉ ([] : List (Addr × Obj)).map (·.1) → s.heap.get? b = some o → s'.heap.get? b = some o) ∧ (s'.gens = s.gens ∧ s'.os = s.os ∧ PairIn s.heap s'.heap (Str.ofString "x-1") false v)
      | _ => False) ?_ (fun r s' h => ?_)
  · k_dflt (refine' enterG ?k1 ?k2 ?k3 ?k4 ?k5 ?kA ?kF ?kK ?k6 ?k7 ?k8 ?k9 ?kB ?_ ?c2 ?c3 ?c4 ?c5; (case kA => exact rfl); (case kF => exact rfl); (case kK => assumption); (case k1 => k_asm); (case k2 => k_asm); (case k3 => k_asm); (case k4 => k_asm); (case k5 => k_asm); (case k6 => k_is); (case k7 => k_is); (case k8 => (simp only [recursionLimit]; omega)); (case k9 => first | exact BindsTo.of_eq rfl | exact binds_K (by k_in) rfl (by k_is) rfl rfl rfl); (case c5 => decide); (case kB => exact locs rfl); (case c2 => exact rfl); (case c3 => exact rfl); (case c4 => exact rfl); k_whole)
    intro g L' h' hg F' N' B' X' T'
    dsimp only
    show wpAny _ _ _ _ _ _
    clear B F Tp X
    clear N
    try k_fold
    k_steps
    all_goals (rename News _ _ _ _ => nE; rename Fr _ _ _ _ => fE)
    all_goals (subst hg; exact ⟨_, _, fE, rfl, rfl, _, _, _, rfl, (nE _ (.head _)).1, hide_nil (nE _ (.head _)).2.2⟩)
  · split at h
    · exact ⟨⟨h.2.1, h.2.2.1, fun b o _ => h.1 b o (List.not_mem_nil)⟩, h.2.2.2⟩
    · exact h.elim
set_option maxHeartbeats 2000000 in
theorem quo_4_true (B : Below A₀ base outer h₀) (F : Fr h₀ L s.heap m) (X : (Et.hd.heap_39 w.params).In h₀) (Tp : Top p loose mean mg mb h₀) (hk : cs.kind = .function)
    (hd : dp + 40 < 1000) (hu : un + 200 < cLine) : QuoTold w (top dp un gd cn cs L a ccd cl outer) [.str (Str.ofString "x-1") tk, .bool true] (Str.ofString "W/\"x-1\"") s := by
  have N : News h₀ L s.heap [] := News.nil
  unfold QuoTold
  revert X; k_fill; intro X
  refine wpAny_call ?_
  refine codeAny_mono (R := fun r s' => match r with
      | .ok (.ret v) => (∀ b o, b ∉ ([] : List (Addr × Obj)).map (·.1) → s.heap.get? b = some o → s'.heap.get? b = some o) ∧ (s'.gens = s.gens ∧ s'.os = s.os ∧ ∃ t, v = .str (Str.ofString "W/\"x-1\"") t)
      | _ => False) ?_ (fun r s' h => ?_)
  · k_dflt (refine' enterG ?k1 ?k2 ?k3 ?k4 ?k5 ?kA ?kF ?kK ?k6 ?k7 ?k8 ?k9 ?kB ?_ ?c2 ?c3 ?c4 ?c5; (case kA => exact rfl); (case kF => exact rfl); (case kK => assumption); (case k1 => k_asm); (case k2 => k_asm); (case k3 => k_asm); (case k4 => k_asm); (case k5 => k_asm); (case k6 => k_is); (case k7 => k_is); (case k8 => (simp only [recursionLimit]; omega)); (case k9 => first | exact BindsTo.of_eq rfl | exact binds_K (by k_in) rfl (by k_is) rfl rfl rfl); (case c5 => decide); (case kB => exact locs rfl); (case c2 => exact rfl); (case c3 => exact rfl); (case c4 => exact rfl); k_whole)
    intro g L' h' hg F' N' B' X' T'
    dsimp only
    show wpAny _ _ _ _ _ _
    clear B F Tp X
    clear N
    try k_fold
    k_steps
    all_goals (rename News _ _ _ _ => nE; rename Fr _ _ _ _ => fE)
    all_goals exact ⟨_, _, fE, rfl, rfl, _, rfl⟩
  · split at h
    · exact ⟨⟨h.2.1, h.2.2.1, fun b o _ => h.1 b o (List.not_mem_nil)⟩, h.2.2.2⟩
    · exact h.elim
set_option maxHeartbeats 2000000 in
theorem unq_4_true (B : Below A₀ base outer h₀) (F : Fr h₀ L s.heap m) (X : (Et.hd.heap_39 w.params).In h₀) (Tp : Top p loose mean mg mb h₀) (hk : cs.kind = .function)
    (hd : dp + 40 < 1000) (hu : un + 200 < cLine) : UnqTold w (top dp un gd cn cs L a ccd cl outer) (.str (Str.ofString "W/\"x-1\"") tk) (Str.ofString "x-1") true s := by
  have N : News h₀ L s.heap [] := News.nil
  unfold UnqTold
  revert X; k_fill; intro X
  refine wpAny_call ?_
  refine codeAny_mono (R := fun r s' => match r with
      | .ok (.ret v) => (∀ b o, b ∉ ([] : List (Addr × Obj)).map (·.1) → s.heap.get? b = some o → s'.heap.get? b = some o) ∧ (s'.gens = s.gens ∧ s'.os = s.os ∧ PairIn s.heap s'.heap (Str.ofString "x-1") true v)
      | _ => False) ?_ (fun r s' h => ?_)
  · k_dflt (refine' enterG ?k1 ?k2 ?k3 ?k4 ?k5 ?kA ?kF ?kK ?k6 ?k7 ?k8 ?k9 ?kB ?_ ?c2 ?c3 ?c4 ?c5; (case kA => exact rfl); (case kF => exact rfl); (case kK => assumption); (case k1 => k_asm); (case k2 => k_asm); (case k3 => k_asm); (case k4 => k_asm); (case k5 => k_asm); (case k6 => k_is); (case k7 => k_is); (case k8 => (simp only [recursionLimit]; omega)); (case k9 => first | exact BindsTo.of_eq rfl | exact binds_K (by k_in) rfl (by k_is) rfl rfl rfl); (case c5 => decide); (case kB => exact locs rfl); (case c2 => exact rfl); (case c3 => exact rfl); (case c4 => exact rfl); k_whole)
    intro g L' h' hg F' N' B' X' T'
    dsimp only
    show wpAny _ _ _ _ _ _
    clear B F Tp X
    clear N
    try k_fold
    k_steps
    all_goals (rename News _ _ _ _ => nE; rename Fr _ _ _ _ => fE)
    all_goals (subst hg; exact ⟨_, _, fE, rfl, rfl, _, _, _, rfl, (nE _ (.head _)).1, hide_nil (nE _ (.head _)).2.2⟩)
  · split at h
    · exact ⟨⟨h.2.1, h.2.2.1, fun b o _ => h.1 b o (List.not_mem_nil)⟩, h.2.2.2⟩
    · exact h.elim
set_option maxHeartbeats 2000000 in
theorem quo_5_false (B : Below A₀ base outer h₀) (F : Fr h₀ L s.heap m) (X : (Et.hd.heap_39 w.params).In h₀) (Tp : Top p loose mean mg mb h₀) (hk : cs.kind = .function)
    (hd : dp + 40 < 1000) (hu : un + 200 < cLine) : QuoTold w (top dp un gd cn cs L a ccd cl outer) [.str (Str.ofString "z") tk] (Str.ofString "\"z\"") s := by
  have N : News h₀ L s.heap [] := News.nil
  unfold QuoTold
  revert X; k_fill; intro X
  refine wpAny_call ?_
  refine codeAny_mono (R := fun r s' => match r with
      | .ok (.ret v) => (∀ b o, b ∉ ([] : List (Addr × Obj)).map (·.1) → s.heap.get? b = some o → s'.heap.get? b = some o) ∧ (s'.gens = s.gens ∧ s'.os = s.os ∧ ∃ t, v = .str (Str.ofString "\"z\"") t)
      | _ => False) ?_ (fun r s' h => ?_)
  · k_dflt (refine' enterG ?k1 ?k2 ?k3 ?k4 ?k5 ?kA ?kF ?kK ?k6 ?k7 ?k8 ?k9 ?kB ?_ ?c2 ?c3 ?c4 ?c5; (case kA => exact rfl); (case kF => exact rfl); (case kK => assumption); (case k1 => k_asm); (case k2 => k_asm); (case k3 => k_asm); (case k4 => k_asm); (case k5 => k_asm); (case k6 => k_is); (case k7 => k_is); (case k8 => (simp only [recursionLimit]; omega)); (case k9 => first | exact BindsTo.of_eq rfl | exact binds_K (by k_in) rfl (by k_is) rfl rfl rfl); (case c5 => decide); (case kB => exact locs rfl); (case c2 => exact rfl); (case c3 => exact rfl); (case c4 => exact rfl); k_whole)
    intro g L' h' hg F' N' B' X' T'
    dsimp only
    show wpAny _ _ _ _ _ _
    clear B F Tp X
    clear N
    try k_fold
    k_steps
    all_goals (rename News _ _ _ _ => nE; rename Fr _ _ _ _ => fE)
    all_goals exact ⟨_, _, fE, rfl, rfl, _, rfl⟩
  · split at h
    · exact ⟨⟨h.2.1, h.2.2.1, fun b o _ => h.1 b o (List.not_mem_nil)⟩, h.2.2.2⟩
    · exact h.elim
set_option maxHeartbeats 2000000 in
theorem unq_5_false (B : Below A₀ base outer h₀) (F : Fr h₀ L s.heap m) (X : (Et.hd.heap_39 w.params).In h₀) (Tp : Top p loose mean mg mb h₀) (hk : cs.kind = .function)
    (hd : dp + 40 < 1000) (hu : un + 200 < cLine) : UnqTold w (top dp un gd cn cs L a ccd cl outer) (.str (Str.ofString "\"z\"") tk) (Str.ofString "z") false s := by
  have N : News h₀ L s.heap [] := News.nil
  unfold UnqTold
  revert X; k_fill; intro X
  refine wpAny_call ?_
  refine codeAny_mono (R := fun r s' => match r with
      | .ok (.ret v) => (∀ b o, b ∉ ([] : List (Addr × Obj)).map (·.1) → s.heap.get? b = some o → s'.heap.get? b = some o) ∧ (s'.gens = s.gens ∧ s'.os = s.os ∧ PairIn s.heap s'.heap (Str.ofString "z") false v)
      | _ => False) ?_ (fun r s' h => ?_)
  · k_dflt (refine' enterG ?k1 ?k2 ?k3 ?k4 ?k5 ?kA ?kF ?kK ?k6 ?k7 ?k8 ?k9 ?kB ?_ ?c2 ?c3 ?c4 ?c5; (case kA => exact rfl); (case kF => exact rfl); (case kK => assumption); (case k1 => k_asm); (case k2 => k_asm); (case k3 => k_asm); (case k4 => k_asm); (case k5 => k_asm); (case k6 => k_is); (case k7 => k_is); (case k8 => (simp only [recursionLimit]; omega)); (case k9 => first | exact BindsTo.of_eq rfl | exact binds_K (by k_in) rfl (by k_is) rfl rfl rfl); (case c5 => decide); (case kB => exact locs rfl); (case c2 => exact rfl); (case c3 => exact rfl); (case c4 => exact rfl); k_whole)
    intro g L' h' hg F' N' B' X' T'
    dsimp only
    show wpAny _ _ _ _ _ _
    clear B F Tp X
    clear N
    try k_fold
    k_steps
    all_goals (rename News _ _ _ _ => nE; rename Fr _ _ _ _ => fE)
    all_goals (subst hg; exact ⟨_, _, fE, rfl, rfl, _, _, _, rfl, (nE _ (.head _)).1, hide_nil (nE _ (.head _)).2.2⟩)
  · split at h
    · exact ⟨⟨h.2.1, h.2.2.1, fun b o _ => h.1 b o (List.not_mem_nil)⟩, h.2.2.2⟩
    · exact h.elim
set_option maxHeartbeats 2000000 in
theorem quo_5_true (B : Below A₀ base outer h₀) (F : Fr h₀ L s.heap m) (X : (Et.hd.heap_39 w.params).In h₀) (Tp : Top p loose mean mg mb h₀) (hk : cs.kind = .function)
    (hd : dp + 40 < 1000) (hu : un + 200 < cLine) : QuoTold w (top dp un gd cn cs L a ccd cl outer) [.str (Str.ofString "z") tk, .bool true] (Str.ofString "W/\"z\"") s := by
  have N : News h₀ L s.heap [] := News.nil
  unfold QuoTold
  revert X; k_fill; intro X
  refine wpAny_call ?_
  refine codeAny_mono (R := fun r s' => match r with
      | .ok (.ret v) => (∀ b o, b ∉ ([] : List (Addr × Obj)).map (·.1) → s.heap.get? b = some o → s'.heap.get? b = some o) ∧ (s'.gens = s.gens ∧ s'.os = s.os ∧ ∃ t, v = .str (Str.ofString "W/\"z\"") t)
      | _ => False) ?_ (fun r s' h => ?_)
  · k_dflt (refine' enterG ?k1 ?k2 ?k3 ?k4 ?k5 ?kA ?kF ?kK ?k6 ?k7 ?k8 ?k9 ?kB ?_ ?c2 ?c3 ?c4 ?c5; (case kA => exact rfl); (case kF => exact rfl); (case kK => assumption); (case k1 => k_asm); (case k2 => k_asm); (case k3 => k_asm); (case k4 => k_asm); (case k5 => k_asm); (case k6 => k_is); (case k7 => k_is); (case k8 => (simp only [recursionLimit]; omega)); (case k9 => first | exact BindsTo.of_eq rfl | exact binds_K (by k_in) rfl (by k_is) rfl rfl rfl); (case c5 => decide); (case kB => exact locs rfl); (case c2 => exact rfl); (case c3 => exact rfl); (case c4 => exact rfl); k_whole)
    intro g L' h' hg F' N' B' X' T'
    dsimp only
    show wpAny _ _ _ _ _ _
    clear B F Tp X
    clear N
    try k_fold
    k_steps
    all_goals (rename News _ _ _ _ => nE; rename Fr _ _ _ _ => fE)
    all_goals exact ⟨_, _, fE, rfl, rfl, _, rfl⟩
  · split at h
    · exact ⟨⟨h.2.1, h.2.2.1, fun b o _ => h.1 b o (List.not_mem_nil)⟩, h.2.2.2⟩
    · exact h.elim
set_option maxHeartbeats 2000000 in
theorem unq_5_true (B : Below A₀ base outer h₀) (F : Fr h₀ L s.heap m) (X : (Et.hd.heap_39 w.params).In h₀) (Tp : Top p loose mean mg mb h₀) (hk : cs.kind = .function)
    (hd : dp + 40 < 1000) (hu : un + 200 < cLine) : UnqTold w (top dp un gd cn cs L a ccd cl outer) (.str (Str.ofString "W/\"z\"") tk) (Str.ofString "z") true s := by
  have N : News h₀ L s.heap [] := News.nil
  unfold UnqTold
  revert X; k_fill; intro X
  refine wpAny_call ?_
  refine codeAny_mono (R := fun r s' => match r with
      | .ok (.ret v) => (∀ b o, b ∉ ([] : List (Addr × Obj)).map (·.1) → s.heap.get? b = some o → s'.heap.get? b = some o) ∧ (s'.gens = s.gens ∧ s'.os = s.os ∧ PairIn s.heap s'.heap (Str.ofString "z") true v)
      | _ => False) ?_ (fun r s' h => ?_)
  · k_dflt (refine' enterG ?k1 ?k2 ?k3 ?k4 ?k5 ?kA ?kF ?kK ?k6 ?k7 ?k8 ?k9 ?kB ?_ ?c2 ?c3 ?c4 ?c5; (case kA => exact rfl); (case kF => exact rfl); (case kK => assumption); (case k1 => k_asm); (case k2 => k_asm); (case k3 => k_asm); (case k4 => k_asm); (case k5 => k_asm); (case k6 => k_is); (case k7 => k_is); (case k8 => (simp only [recursionLimit]; omega)); (case k9 => first | exact BindsTo.of_eq rfl | exact binds_K (by k_in) rfl (by k_is) rfl rfl rfl); (case c5 => decide); (case kB => exact locs rfl); (case c2 => exact rfl); (case c3 => exact rfl); (case c4 => exact rfl); k_whole)
    intro g L' h' hg F' N' B' X' T'
    dsimp only
    show wpAny _ _ _ _ _ _
    clear B F Tp X
    clear N
    try k_fold
    k_steps
    all_goals (rename News _ _ _ _ => nE; rename Fr _ _ _ _ => fE)
    all_goals (subst hg; exact ⟨_, _, fE, rfl, rfl, _, _, _, rfl, (nE _ (.head _)).1, hide_nil (nE _ (.head _)).2.2⟩)
  · split at h
    · exact ⟨⟨h.2.1, h.2.2.1, fun b o _ => h.1 b o (List.not_mem_nil)⟩, h.2.2.2⟩
    · exact h.elim
end
end Et
end
section
open PySem PySem.W PySem.Calls PyProof.Rows
set_option Elab.async false
set_option maxRecDepth 100000
namespace Et
theorem name_names {w : World} {g : Heap} {L st nums I : Addr} {oI : Obj} {ws : List Value} {en i : Nat} {h : Heap} {m : Str → Option Value} {x dx fs fw rl lS lE : Addr} {t1 t2 t3 : Tok} {oF oW : Obj} {ks kw : List Str} {vr : List Value} {er : Nat} {vS : List Value} {eS : Nat} {vE : List Value} {eE : Nat} {SS EE : List Str} {tl : List (Addr × Obj)} {its : List Item} {at' : Int} {t' : Tok} {e' : Nat} (P : InvB w g L st nums I oI ws en i h m x dx fs fw rl lS lE t1 t2 t3 oF oW ks kw vr er vS eS vE eE SS EE tl its at' t' e') {m' : Str → Option Value} (hw : P.want m') {k : Str} {t : Tok} (hn : m' (Str.ofString "name") = some (.str k t)) :
    m' = fun y => if y = Str.ofString "name" then some (.str k t) else if y = Str.ofString "every" then some (.ref lE) else if y = Str.ofString "strong" then some (.ref lS) else if y = Str.ofString "told" then some (.ref x) else if y = Str.ofString "rows" then some (.ref rl) else if y = Str.ofString "state" then some (.ref st) else m' y := by
  funext y
  split
  · next e => rw [e, hn]
  · exact congrFun (P.want_names hw) y
section
variable {w : World} {dp un : Nat} {gd : Option (List Code)} {cn : Str} {cs : Scope} {L a : Addr} {ccd : Value} {cl : List (Str × Addr)} {outer : List Env}
    {A₀ : Around} {base h₀ : Heap} {m : Str → Option Value} {s : Shared} {p : Program} {loose : List Str} {mean : ExcName → Option Value} {mg mb : Str → Option Value} {tk : Tok} {k : Str} {news : List (Addr × Obj)}
theorem quo_law_s (B : Below A₀ base outer h₀) (F : Fr h₀ L s.heap m) (X : (Et.hd.heap_39 w.params).In h₀) (Tp : Top p loose mean mg mb h₀) (hk : cs.kind = .function) (hd : dp + 40 < 1000) (hu : un + 200 < cLine) (h6 : k ∈ six) :
    QuoTold w (top dp un gd cn cs L a ccd cl outer) [.str k tk] (quoS k) s := by
  simp only [six, List.mem_cons, List.not_mem_nil, or_false] at h6
  rcases h6 with rfl | rfl | rfl | rfl | rfl | rfl
  · exact (by decide +kernel : Str.ofString "\"a\"" = quoS (Str.ofString "a")) ▸ quo_0_false B F X Tp hk hd hu
  · exact (by decide +kernel : Str.ofString "\"b\"" = quoS (Str.ofString "b")) ▸ quo_1_false B F X Tp hk hd hu
  · exact (by decide +kernel : Str.ofString "\"c d\"" = quoS (Str.ofString "c d")) ▸ quo_2_false B F X Tp hk hd hu
  · exact (by decide +kernel : Str.ofString "\"e,f\"" = quoS (Str.ofString "e,f")) ▸ quo_3_false B F X Tp hk hd hu
  · exact (by decide +kernel : Str.ofString "\"x-1\"" = quoS (Str.ofString "x-1")) ▸ quo_4_false B F X Tp hk hd hu
  · exact (by decide +kernel : Str.ofString "\"z\"" = quoS (Str.ofString "z")) ▸ quo_5_false B F X Tp hk hd hu
theorem quo_law_w (B : Below A₀ base outer h₀) (F : Fr h₀ L s.heap m) (X : (Et.hd.heap_39 w.params).In h₀) (Tp : Top p loose mean mg mb h₀) (hk : cs.kind = .function) (hd : dp + 40 < 1000) (hu : un + 200 < cLine) (h6 : k ∈ six) :
    QuoTold w (top dp un gd cn cs L a ccd cl outer) [.str k tk, .bool true] (quoW k) s := by
  simp only [six, List.mem_cons, List.not_mem_nil, or_false] at h6
  rcases h6 with rfl | rfl | rfl | rfl | rfl | rfl
  · exact (by decide +kernel : Str.ofString "W/\"a\"" = quoW (Str.ofString "a")) ▸ quo_0_true B F X Tp hk hd hu
  · exact (by decide +kernel : Str.ofString "W/\"b\"" = quoW (Str.ofString "b")) ▸ quo_1_true B F X Tp hk hd hu
  · exact (by decide +kernel : Str.ofString "W/\"c d\"" = quoW (Str.ofString "c d")) ▸ quo_2_true B F X Tp hk hd hu
  · exact (by decide +kernel : Str.ofString "W/\"e,f\"" = quoW (Str.ofString "e,f")) ▸ quo_3_true B F X Tp hk hd hu
  · exact (by decide +kernel : Str.ofString "W/\"x-1\"" = quoW (Str.ofString "x-1")) ▸ quo_4_true B F X Tp hk hd hu
  · exact (by decide +kernel : Str.ofString "W/\"z\"" = quoW (Str.ofString "z")) ▸ quo_5_true B F X Tp hk hd hu
theorem unq_law_s (B : Below A₀ base outer h₀) (F : Fr h₀ L s.heap m) (X : (Et.hd.heap_39 w.params).In h₀) (Tp : Top p loose mean mg mb h₀) (hk : cs.kind = .function) (hd : dp + 40 < 1000) (hu : un + 200 < cLine) (h6 : k ∈ six) :
    UnqTold w (top dp un gd cn cs L a ccd cl outer) (.str (quoS k) tk) k false s := by
  simp only [six, List.mem_cons, List.not_mem_nil, or_false] at h6
  rcases h6 with rfl | rfl | rfl | rfl | rfl | rfl
  · exact (by decide +kernel : Str.ofString "\"a\"" = quoS (Str.ofString "a")) ▸ unq_0_false B F X Tp hk hd hu
  · exact (by decide +kernel : Str.ofString "\"b\"" = quoS (Str.ofString "b")) ▸ unq_1_false B F X Tp hk hd hu
  · exact (by decide +kernel : Str.ofString "\"c d\"" = quoS (Str.ofString "c d")) ▸ unq_2_false B F X Tp hk hd hu
  · exact (by decide +kernel : Str.ofString "\"e,f\"" = quoS (Str.ofString "e,f")) ▸ unq_3_false B F X Tp hk hd hu
  · exact (by decide +kernel : Str.ofString "\"x-1\"" = quoS (Str.ofString "x-1")) ▸ unq_4_false B F X Tp hk hd hu
  · exact (by decide +kernel : Str.ofString "\"z\"" = quoS (Str.ofString "z")) ▸ unq_5_false B F X Tp hk hd hu
theorem unq_law_w (B : Below A₀ base outer h₀) (F : Fr h₀ L s.heap m) (X : (Et.hd.heap_39 w.params).In h₀) (Tp : Top p loose mean mg mb h₀) (hk : cs.kind = .function) (hd : dp + 40 < 1000) (hu : un + 200 < cLine) (h6 : k ∈ six) :
    UnqTold w (top dp un gd cn cs L a ccd cl outer) (.str (quoW k) tk) k true s := by
  simp only [six, List.mem_cons, List.not_mem_nil, or_false] at h6
  rcases h6 with rfl | rfl | rfl | rfl | rfl | rfl
  · exact (by decide +kernel : Str.ofString "W/\"a\"" = quoW (Str.ofString "a")) ▸ unq_0_true B F X Tp hk hd hu
  · exact (by decide +kernel : Str.ofString "W/\"b\"" = quoW (Str.ofString "b")) ▸ unq_1_true B F X Tp hk hd hu
  · exact (by decide +kernel : Str.ofString "W/\"c d\"" = quoW (Str.ofString "c d")) ▸ unq_2_true B F X Tp hk hd hu
  · exact (by decide +kernel : Str.ofString "W/\"e,f\"" = quoW (Str.ofString "e,f")) ▸ unq_3_true B F X Tp hk hd hu
  · exact (by decide +kernel : Str.ofString "W/\"x-1\"" = quoW (Str.ofString "x-1")) ▸ unq_4_true B F X Tp hk hd hu
  · exact (by decide +kernel : Str.ofString "W/\"z\"" = quoW (Str.ofString "z")) ▸ unq_5_true B F X Tp hk hd hu
variable {A : Around} {args : List Value} {r : Str} {v : Value} {b : Bool} {Q E : Value → Shared → Prop}
theorem quo_use (F : Fr h₀ L s.heap m) (N : News h₀ L s.heap news) (T : QuoTold w A args r s)
    (h : ∀ h' tk d t, Fr h₀ L h' m → News h₀ L h' news → Q (.str r t) { s with heap := h', toks := tk, drawn := d }) : wpAny (model PySem.Challenge.rw_ez0423_01.row.prog w) A (call (.ref 152) args) Q E s := by
  refine wpAny_mono T (fun r s' hr => ?_) fun _ _ e => e.elim
  obtain ⟨aft, t, rfl⟩ := hr
  rw [split_after aft]
  exact h _ _ _ t (Fr.same F aft.same) (News.same N aft.same)
theorem unq_use (F : Fr h₀ L s.heap m) (N : News h₀ L s.heap news) (T : UnqTold w A v k b s)
    (h : ∀ P t e h' tk d, Fr h₀ L h' m → News h₀ L h' ((P, ({ cls := .type "tuple", data := .seq #[.str k t, .bool b] e } : Obj)) :: news) → Q (.ref P) { s with heap := h', toks := tk, drawn := d }) : wpAny (model PySem.Challenge.rw_ez0423_01.row.prog w) A (call (.ref 159) [v]) Q E s := by
  refine wpAny_mono T (fun r s' hr => ?_) fun _ _ e => e.elim
  obtain ⟨aft, P, t, e, rfl, b1, b2⟩ := hr
  rw [split_after aft]
  exact h P t e _ _ _ (Fr.same F aft.same) (News.put F (News.same N aft.same) b1 b2)
theorem star_law_use {tT : Tok} (B : Below A₀ base outer h₀) (F : Fr h₀ L s.heap m) (X : (Et.hd.heap_39 w.params).In h₀) (Tp : Top p loose mean mg mb h₀) (hk : cs.kind = .function) (N : News h₀ L s.heap news)
    (hd : dp + 40 < 1000) (hu : un + 200 < cLine)
    (h : ∀ x dx fs fw t1 t2 t3 oF oW ks kw h' tk, Fr h₀ L h' m → News h₀ L h' ((x, instObj 140 dx) :: (dx, tagsD w.params fs fw true t1 t2 t3) :: (fs, oF) :: (fw, oW) :: news) → SetO w oF "frozenset" ks → SetO w oW "frozenset" kw →
      decide (Str.ofString "z" ∈ kw) = false → kw.length ≤ 7 → Q (.ref x) { s with heap := h', toks := tk }) :
    wpAny (model PySem.Challenge.rw_ez0423_01.row.prog w) (top dp un gd cn cs L a ccd cl outer) (call (.ref 171) [.str (Str.ofString "*") tT]) Q (fun _ _ => False) s :=
  star_use B F X Tp hk N hd hu fun x dx fs fw t1 t2 t3 oF oW ks kw h' tk F' N' hF mF hW mW lF lW => by
    have e : kw = [] := List.eq_nil_of_length_eq_zero (Nat.le_zero.mp lW)
    subst e
    exact h x dx fs fw t1 t2 t3 oF oW ks _ h' tk F' N' hF hW rfl (by simp)
theorem weak_law_use {tT : Tok} (B : Below A₀ base outer h₀) (F : Fr h₀ L s.heap m) (X : (Et.hd.heap_39 w.params).In h₀) (Tp : Top p loose mean mg mb h₀) (hk : cs.kind = .function) (N : News h₀ L s.heap news)
    (hd : dp + 40 < 1000) (hu : un + 200 < cLine)
    (h : ∀ x dx fs fw t1 t2 t3 oF oW ks kw h' tk, Fr h₀ L h' m → News h₀ L h' ((x, instObj 140 dx) :: (dx, tagsD w.params fs fw false t1 t2 t3) :: (fs, oF) :: (fw, oW) :: news) → SetO w oF "frozenset" ks → SetO w oW "frozenset" kw →
      decide (Str.ofString "a" ∈ ks) = false → decide (Str.ofString "a" ∈ kw) = true → ks.length ≤ 7 → kw.length ≤ 7 → Q (.ref x) { s with heap := h', toks := tk }) :
    wpAny (model PySem.Challenge.rw_ez0423_01.row.prog w) (top dp un gd cn cs L a ccd cl outer) (call (.ref 171) [.str (Str.ofString "W/\"a\"") tT]) Q (fun _ _ => False) s :=
  parse_use (its := [quoted (Str.ofString "") (Str.ofString "W/") (Str.ofString "a") (Str.ofString "")]) B F X Tp hk N (by decide +kernel)
    (fun it hit => by rw [List.mem_singleton] at hit; subst hit; exact good_quoted (by decide +kernel) (by decide +kernel) (by decide +kernel) (by decide +kernel)) (by decide) hd hu
    fun x dx fs fw t1 t2 t3 oF oW ks kw h' tk F' N' hF mF hW mW lF lW => by
      have e1 : strongs [quoted (Str.ofString "") (Str.ofString "W/") (Str.ofString "a") (Str.ofString "")] = [] := by decide +kernel
      have e2 : weaks [quoted (Str.ofString "") (Str.ofString "W/") (Str.ofString "a") (Str.ofString "")] = [Str.ofString "a"] := by decide +kernel
      rw [e1] at mF lF
      rw [e2] at mW lW
      refine h x dx fs fw t1 t2 t3 oF oW ks kw h' tk F' N' hF hW ?_ ?_ (Nat.le_trans lF (by decide)) (Nat.le_trans lW (by decide))
      · rw [decide_eq_false_iff_not, mF]; exact List.not_mem_nil
      · rw [decide_eq_true_eq, mW]; exact List.mem_singleton.mpr rfl
theorem News.mid3 {g h : Heap} {L : Addr} {a1 a2 a3 a4 a5 a6 a7 b c d : Addr × Obj} {r : List (Addr × Obj)} (N : News g L h (a1 :: a2 :: a3 :: a4 :: a5 :: a6 :: a7 :: b :: c :: d :: r)) : News g L h [b, c, d] := fun p hp => by
  refine N p (.tail _ (.tail _ (.tail _ (.tail _ (.tail _ (.tail _ (.tail _ ?_)))))))
  rcases List.mem_cons.mp hp with rfl | hp
  · exact .head _
  rcases List.mem_cons.mp hp with rfl | hp
  · exact .tail _ (.head _)
  rw [List.mem_singleton] at hp
  subst hp; exact .tail _ (.tail _ (.head _))
end
end Et
end
open PySem PySem.W PySem.Calls PyProof.Rows
set_option Elab.async false
theorem Et.fresh_35 {M : Model} {A : Around} {E : Value → Shared → Prop} {s : Shared} {env : Env} {Q : Flow → Shared → Prop} (h : Q .next s) : wpAny M A (execs [] env) Q E s := by
  w_top off
  first | (walk1; exact h) | exact wpAny_execs_nil h
set_option maxRecDepth 100000
open Et
local macro_rules | `(tactic| k_room) => `(tactic| ((try simp only [depth_under_make, depth_under_kw, depth_in1, depth_deeper, depth_caller]); decide))
local macro_rules | `(tactic| k_in) => `(tactic| exact Frag.In.keeps (by k_asm) (Fr.keep (by k_asm)))
local macro_rules | `(tactic| walk_at "exec For Name Call cons nil") => `(tactic| (k_here; k_dflt (refine for_own ?_)))
local macro_rules | `(tactic| walk_at "exec For Name List cons nil") => `(tactic| (k_here; k_dflt (refine for_own ?_)))
local macro_rules | `(tactic| walk_at "pyIter ref") => `(tactic| (k_here; (with_reducible show wpAny _ _ (pyIter (Value.ref _)) (fun it s₂ => Loop _ _ _ _ _ _ _ it s₂) _ _); refine stop ?_))
local macro_rules | `(tactic| walk_at "eval Name") => `(tactic| (k_here; k_dflt (first | (refine' nameX_L ?F ?v ?_ ?a ?b; (case F => k_asm); (case a => rfl); (case b => rfl); (case v => rfl); k_whole) | (refine' nameX_K ?F ?X ?T ?e ?_ ?a ?b; (case F => k_asm); (case X => k_asm); (case T => k_asm); (case a => rfl); (case b => rfl); (case e => k_is); k_whole))))
local macro_rules | `(tactic| walk_at "storeName") => `(tactic| (k_here; k_dflt (refine' storeX_L ?F ?N ?_ ?a ?b; (case F => k_asm); (case N => k_asm); (case a => rfl); (case b => rfl); k_whole; intro h' F' N'; (try k_sweep))))
local macro_rules | `(tactic| walk_at "And") => `(tactic| ((with_reducible show Still _ _ _ _ ∧ _); k_dflt (refine' ⟨Still.of ?N ?m1 ?m2, ?_⟩; (case N => k_asm); (case m1 => k_mem); (case m2 => k_mem)); (try dsimp only [List.nil_append, List.cons_append])))
local macro_rules | `(tactic| walk_at "callWith ref") => `(tactic| (k_here; k_dflt (refine' tags_callWith ?N ?m1 ?m2 ?_ ?he ?hp; (case N => k_asm); (case m1 => k_mem); (case m2 => k_mem); (case he => rfl); (case hp => rfl))))
local macro_rules | `(tactic| walk_at "call ref") => `(tactic| (k_here; (with_reducible show wpAny _ _ (call (Value.ref _) [Value.str _ _]) _ _ _); k_dflt (refine' tags_call ?F2 ?X2 ?N2 ?m5 ?m6 (call1_c ?B ?F ?X ?T ?hk (tags_sub ?N ?m1 ?m2 ?m3 ?m4) ?hF ?lF ?hb ?d ?u) ?_; (case F2 => k_asm); (case X2 => k_asm); (case N2 => k_asm); (case m5 => k_mem); (case m6 => k_mem); (case B => k_asm); (case F => k_asm); (case X => k_asm); (case T => k_asm); (case hk => exact rfl); (case N => k_asm); (case m1 => k_mem); (case m2 => k_mem); (case m3 => k_mem); (case m4 => k_mem); (case hF => assumption); (case lF => assumption); (case hb => assumption); (case d => decide); (case u => decide)); intro h' tk' d' F' N'))
local macro_rules | `(tactic| walk_at "call ref") => `(tactic| (k_here; (with_reducible show wpAny _ _ (call (Value.ref _) [Value.str _ _, Value.bool _]) _ _ _); k_dflt (refine' tags_call ?F2 ?X2 ?N2 ?m5 ?m6 (call2_c ?B ?F ?X ?T ?hk (tags_sub ?N ?m1 ?m2 ?m3 ?m4) ?hF ?lF ?hb ?hW ?lW ?hb2 ?d ?u) ?_; (case F2 => k_asm); (case X2 => k_asm); (case N2 => k_asm); (case m5 => k_mem); (case m6 => k_mem); (case B => k_asm); (case F => k_asm); (case X => k_asm); (case T => k_asm); (case hk => exact rfl); (case N => k_asm); (case m1 => k_mem); (case m2 => k_mem); (case m3 => k_mem); (case m4 => k_mem); (case hF => assumption); (case lF => assumption); (case hb => assumption); (case hW => assumption); (case lW => assumption); (case hb2 => assumption); (case d => decide); (case u => decide)); intro h' tk' d' F' N'))
local macro_rules | `(tactic| walk_at "call ref") => `(tactic| (k_here; (with_reducible show wpAny _ _ (call (Value.ref 68) _) _ _ _); k_dflt (refine' told_use ?F2 ?N2 (is_strong_c ?B ?F ?X ?T ?hk (tags_sub ?N ?m1 ?m2 ?m3 ?m4) ?hF ?lF ?hb ?d ?u) ?_; (case F2 => k_asm); (case N2 => k_asm); (case B => k_asm); (case F => k_asm); (case X => k_asm); (case T => k_asm); (case hk => exact rfl); (case N => k_asm); (case m1 => k_mem); (case m2 => k_mem); (case m3 => k_mem); (case m4 => k_mem); (case hF => assumption); (case lF => assumption); (case hb => assumption); (case d => decide); (case u => decide)); intro h' tk' d' F' N'))
local macro_rules | `(tactic| walk_at "call ref") => `(tactic| (k_here; (with_reducible show wpAny _ _ (call (Value.ref 61) _) _ _ _); k_dflt (refine' told_use ?F2 ?N2 (is_weak_c ?B ?F ?X ?T ?hk (tags_sub ?N ?m1 ?m2 ?m3 ?m4) ?hW ?lW ?hb2 ?d ?u) ?_; (case F2 => k_asm); (case N2 => k_asm); (case B => k_asm); (case F => k_asm); (case X => k_asm); (case T => k_asm); (case hk => exact rfl); (case N => k_asm); (case m1 => k_mem); (case m2 => k_mem); (case m3 => k_mem); (case m4 => k_mem); (case hW => assumption); (case lW => assumption); (case hb2 => assumption); (case d => decide); (case u => decide)); intro h' tk' d' F' N'))
local macro_rules | `(tactic| walk_at "call ref") => `(tactic| (k_here; (with_reducible show wpAny _ _ (call (Value.ref 82) _) _ _ _); k_dflt (refine' told_use ?F2 ?N2 (contains_star ?B ?F ?X ?T ?hk (tags_sub ?N ?m1 ?m2 ?m3 ?m4)  ?d ?u) ?_; (case F2 => k_asm); (case N2 => k_asm); (case B => k_asm); (case F => k_asm); (case X => k_asm); (case T => k_asm); (case hk => exact rfl); (case N => k_asm); (case m1 => k_mem); (case m2 => k_mem); (case m3 => k_mem); (case m4 => k_mem);  (case d => decide); (case u => decide)); intro h' tk' d' F' N'))
local macro_rules | `(tactic| walk_at "call ref") => `(tactic| (k_here; (with_reducible show wpAny _ _ (call (Value.ref 75) _) _ _ _); k_dflt (refine' told_use ?F2 ?N2 (contains_weak_star ?B ?F ?X ?T ?hk (tags_sub ?N ?m1 ?m2 ?m3 ?m4) ?hW ?lW ?hb2 ?d ?u) ?_; (case F2 => k_asm); (case N2 => k_asm); (case B => k_asm); (case F => k_asm); (case X => k_asm); (case T => k_asm); (case hk => exact rfl); (case N => k_asm); (case m1 => k_mem); (case m2 => k_mem); (case m3 => k_mem); (case m4 => k_mem); (case hW => assumption); (case lW => assumption); (case hb2 => assumption); (case d => decide); (case u => decide)); intro h' tk' d' F' N'))
local macro_rules | `(tactic| walk_at "call ref") => `(tactic| (k_here; (with_reducible show wpAny _ _ (call (Value.ref 82) _) _ _ _); k_dflt (refine' told_use ?F2 ?N2 (contains_c ?B ?F ?X ?T ?hk (tags_sub ?N ?m1 ?m2 ?m3 ?m4) ?hF ?lF ?hb ?d ?u) ?_; (case F2 => k_asm); (case N2 => k_asm); (case B => k_asm); (case F => k_asm); (case X => k_asm); (case T => k_asm); (case hk => exact rfl); (case N => k_asm); (case m1 => k_mem); (case m2 => k_mem); (case m3 => k_mem); (case m4 => k_mem); (case hF => assumption); (case lF => assumption); (case hb => assumption); (case d => decide); (case u => decide)); intro h' tk' d' F' N'))
local macro_rules | `(tactic| walk_at "call ref") => `(tactic| (k_here; (with_reducible show wpAny _ _ (call (Value.ref 75) _) _ _ _); k_dflt (refine' told_use ?F2 ?N2 (contains_weak_c ?B ?F ?X ?T ?hk (tags_sub ?N ?m1 ?m2 ?m3 ?m4) ?hF ?lF ?hb ?hW ?lW ?hb2 ?d ?u) ?_; (case F2 => k_asm); (case N2 => k_asm); (case B => k_asm); (case F => k_asm); (case X => k_asm); (case T => k_asm); (case hk => exact rfl); (case N => k_asm); (case m1 => k_mem); (case m2 => k_mem); (case m3 => k_mem); (case m4 => k_mem); (case hF => assumption); (case lF => assumption); (case hb => assumption); (case hW => assumption); (case lW => assumption); (case hb2 => assumption); (case d => decide); (case u => decide)); intro h' tk' d' F' N'))
local macro_rules | `(tactic| walk_at "call ref") => `(tactic| (k_here; (with_reducible show wpAny _ _ (call (Value.ref 130) _) _ _ _); k_dflt (refine' told_use ?F2 ?N2 (dunder_c ?B ?F ?X ?T ?hk (tags_sub ?N ?m1 ?m2 ?m3 ?m4) ?hF ?lF ?hb ?d ?u) ?_; (case F2 => k_asm); (case N2 => k_asm); (case B => k_asm); (case F => k_asm); (case X => k_asm); (case T => k_asm); (case hk => exact rfl); (case N => k_asm); (case m1 => k_mem); (case m2 => k_mem); (case m3 => k_mem); (case m4 => k_mem); (case hF => assumption); (case lF => assumption); (case hb => assumption); (case d => decide); (case u => decide)); intro h' tk' d' F' N'))
local macro_rules | `(tactic| walk_at "call ref") => `(tactic| (k_here; (with_reducible show wpAny _ _ (call (Value.ref 152) [Value.str _ _]) _ _ _); k_dflt (refine' quo_use ?F2 ?N2 (quo_law_s ?B ?F ?X ?T ?hk ?d ?u ?h6) ?_; (case F2 => k_asm); (case N2 => k_asm); (case B => k_asm); (case F => k_asm); (case X => k_asm); (case T => k_asm); (case hk => exact rfl); (case d => decide); (case u => decide); (case h6 => assumption)); intro h' tk' d' t' F' N'))
local macro_rules | `(tactic| walk_at "call ref") => `(tactic| (k_here; (with_reducible show wpAny _ _ (call (Value.ref 152) [Value.str _ _, Value.bool _]) _ _ _); k_dflt (refine' quo_use ?F2 ?N2 (quo_law_w ?B ?F ?X ?T ?hk ?d ?u ?h6) ?_; (case F2 => k_asm); (case N2 => k_asm); (case B => k_asm); (case F => k_asm); (case X => k_asm); (case T => k_asm); (case hk => exact rfl); (case d => decide); (case u => decide); (case h6 => assumption)); intro h' tk' d' t' F' N'))
local macro_rules | `(tactic| walk_at "call ref") => `(tactic| (k_here; (with_reducible show wpAny _ _ (call (Value.ref 159) [Value.str (quoW _) _]) _ _ _); k_dflt (refine' unq_use ?F2 ?N2 (unq_law_w ?B ?F ?X ?T ?hk ?d ?u ?h6) ?_; (case F2 => k_asm); (case N2 => k_asm); (case B => k_asm); (case F => k_asm); (case X => k_asm); (case T => k_asm); (case hk => exact rfl); (case d => decide); (case u => decide); (case h6 => assumption)); intro P' t' e' h' tk' d' F' N'))
local macro_rules | `(tactic| walk_at "call ref") => `(tactic| (k_here; (with_reducible show wpAny _ _ (call (Value.ref 159) [Value.str (quoS _) _]) _ _ _); k_dflt (refine' unq_use ?F2 ?N2 (unq_law_s ?B ?F ?X ?T ?hk ?d ?u ?h6) ?_; (case F2 => k_asm); (case N2 => k_asm); (case B => k_asm); (case F => k_asm); (case X => k_asm); (case T => k_asm); (case hk => exact rfl); (case d => decide); (case u => decide); (case h6 => assumption)); intro P' t' e' h' tk' d' F' N'))
local macro_rules | `(tactic| walk_at "call ref") => `(tactic| (k_here; (first | (with_reducible show wpAny _ _ (call (Value.ref 190) _) _ _ _) | (with_reducible show wpAny _ _ (call (Value.ref 171) _) _ _ _) | (with_reducible show wpAny _ _ (call (Value.ref 87) _) _ _ _) | (with_reducible show wpAny _ _ (call (Value.ref 54) _) _ _ _)); refine stop ?_))
local macro_rules | `(tactic| walk_at "call ref") => `(tactic| (k_here; (with_reducible show wpAny _ _ (call (Value.ref 190) _) _ _ _); k_dflt (refine' items_use ?B ?F ?X ?T ?hk ?N ?hI ?i ?ns ?n1 ?n2 ?all ?a1 ?a2 ?d ?u ?_; (case B => k_asm); (case F => k_asm); (case X => k_asm); (case T => k_asm); (case hk => exact rfl); (case N => k_asm); (case hI => assumption); (case i => assumption); (case ns => (apply Nat.ne_of_gt; omega)); (case n1 => assumption); (case n2 => assumption); (case all => assumption); (case a1 => assumption); (case a2 => omega); (case d => decide); (case u => decide)); intro R' rl' vr' er' tx' tl' its' at' t' e' h' tk' F' N' rows' good' len' lo' hi'))
local macro_rules | `(tactic| walk_at "call ref") => `(tactic| (k_here; (with_reducible show wpAny _ _ (call (Value.ref 171) _) _ _ _); k_dflt (refine' parse_use ?B ?F ?X ?T ?hk ?N ?J ?g ?l ?d ?u ?_; (case B => k_asm); (case F => k_asm); (case X => k_asm); (case T => k_asm); (case hk => exact rfl); (case N => k_asm); (case J => first | assumption | exact tjoin_J _); (case g => assumption); (case l => omega); (case d => decide); (case u => decide)); unfold TagsUse; intro x' dx' fs' fw' t1' t2' t3' oF' oW' ks' kw' h' tk' F' N' hF' mF' hW' mW' lF' lW'))
local macro_rules | `(tactic| walk_at "eval ListComp") => `(tactic| (k_here; (with_reducible apply comp_rows_own); (case hfree => decide); (case hcell => decide); (case hkind => with_unfolding_all rfl); (case hnames => decide); (case hx => with_unfolding_all rfl); (case hx₂ => with_unfolding_all rfl); (case hxx => decide); (case hs => intro _; with_unfolding_all rfl)))
local macro_rules | `(tactic| walk_at "call type:set") => `(tactic| (k_here; k_dflt (refine' set_strs_own ?hh ?F ?N ?m ?S ?l ?_; (case hh => exact rfl); (case F => k_asm); (case N => k_asm); (case m => k_mem); (case S => assumption); (case l => (rw [strs_len (by assumption)]; omega))); intro S' o' k' h' tk' F' N' hS' mS' lS'))
local macro_rules | `(tactic| walk_at "call builtin:sorted") => `(tactic| (k_here; k_dflt (refine' sorted_new_own ?hh ?F ?N ?m ?S ?l ?_; (case hh => exact rfl); (case F => k_asm); (case N => k_asm); (case m => k_mem); (case S => assumption); (case l => omega)); intro l' vs' e' h' tk' d' SS' F' N' sS' oS' dS' mS' cS'))
local macro_rules | `(tactic| walk_at "call builtin:sorted") => `(tactic| (k_here; k_dflt (first
  | (refine' sorted_set_own ?hh ?F ?N ?m ?S ?M ?so ?nd ?l ?_; (case hh => exact rfl); (case F => k_asm); (case N => k_asm); (case m => k_mem); (case S => assumption); (case M => assumption); (case so => assumption); (case nd => assumption); (case l => omega); intro l' vs' e' h' tk' d' F' N' sS')
  | (refine' sorted_list_own ?F ?N ?m ?S ?pm ?nk ?M ?so ?nd ?l ?_; (case F => k_asm); (case N => k_asm); (case m => k_mem); (case S => assumption); (case pm => assumption); (case nk => exact SetO.nodup (by assumption)); (case M => assumption); (case so => assumption); (case nd => assumption); (case l => omega); intro l' vs' e' h' F' N' sS'))))
local macro_rules | `(tactic| walk_at "call ref") => `(tactic| (k_here; (with_reducible show wpAny _ _ (call (Value.ref 87) _) _ _ _); k_dflt (refine' header_law ?B ?F ?X ?T ?hk ?N ?m1 ?m2 ?m3 ?m4 ?hF ?hW ?lF ?lW ?mS ?mE ?iE ?d ?u ?_; (case B => k_asm); (case F => k_asm); (case X => k_asm); (case T => k_asm); (case hk => exact rfl); (case N => k_asm); (case m1 => k_mem); (case m2 => k_mem); (case m3 => k_mem); (case m4 => k_mem); (case hF => assumption); (case hW => assumption); (case lF => omega); (case lW => omega); (case mS => assumption); (case mE => assumption); (case iE => assumption); (case d => decide); (case u => decide)); intro T' t' its' h' tk' d' F' N' hT' good' len' mS' mE' lS' lW'))
local macro_rules | `(tactic| walk_at "call ref") => `(tactic| (k_here; (with_reducible show wpAny _ _ (call (Value.ref 54) _) _ _ _); k_dflt (first
  | (refine' asset_use_0 ?B ?F ?X ?T ?hk ?N ?m1 ?m2 ?m3 ?m4 ?hF ?hW ?lF ?lW ?mS ?d ?u ?_; (case B => k_asm); (case F => k_asm); (case X => k_asm); (case T => k_asm); (case hk => exact rfl); (case N => k_asm); (case m1 => k_mem); (case m2 => k_mem); (case m3 => k_mem); (case m4 => k_mem); (case hF => assumption); (case hW => assumption); (case lF => omega); (case lW => omega); (case mS => first | exact iff_two (by assumption) (by assumption) | assumption); (case d => decide); (case u => decide))
  | (refine' asset_use_1 ?B ?F ?X ?T ?hk ?N ?m1 ?m2 ?m3 ?m4 ?hF ?hW ?lF ?lW ?mS ?d ?u ?_; (case B => k_asm); (case F => k_asm); (case X => k_asm); (case T => k_asm); (case hk => exact rfl); (case N => k_asm); (case m1 => k_mem); (case m2 => k_mem); (case m3 => k_mem); (case m4 => k_mem); (case hF => assumption); (case hW => assumption); (case lF => omega); (case lW => omega); (case mS => first | exact iff_or (by assumption) (by assumption) (by assumption) | assumption); (case d => decide); (case u => decide))); intro S' o' k' h' tk' d' F' N' hS' M'))
local macro_rules | `(tactic| walk_at "call type:list") => `(tactic| (k_here; k_dflt (refine' list_use ?B ?F ?X ?T ?hk ?N ?m1 ?m2 ?m3 ?m4 ?hF ?lF ?d ?u ?_; (case B => k_asm); (case F => k_asm); (case X => k_asm); (case T => k_asm); (case hk => exact rfl); (case N => k_asm); (case m1 => k_mem); (case m2 => k_mem); (case m3 => k_mem); (case m4 => k_mem); (case hF => assumption); (case lF => omega); (case d => decide); (case u => decide)); intro l' vs' e' ss' h' tk' d' F' N' sL' pL'))
local macro_rules | `(tactic| walk_at "call builtin:len") => `(tactic| (k_here; k_dflt (first
  | (refine' len_strs_own ?N ?m ?S ?l ?_; (case N => k_asm); (case m => k_mem); (case S => assumption); (case l => omega); intro t1 t2)
  | (refine' len_froz_own ?N ?m ?S ?l ?hb ?_; (case N => k_asm); (case m => k_mem); (case S => assumption); (case l => omega); (case hb => assumption); intro t1 t2))))
local macro_rules | `(tactic| walk_at "compareOp In ref ref") => `(tactic| (k_here; k_dflt (refine' in_rows_law ?N ?mT ?ml ?R ?hn ?hr ?hu ?hb ?_; (case N => k_asm); (case mT => k_mem); (case ml => k_mem); (case R => exact RowsIn.mono (by assumption) (fun p hp => by repeat (first | exact hp | apply List.Mem.tail))); (case hn => assumption); (case hr => assumption); (case hu => units_room); (case hb => assumption))))
local macro_rules | `(tactic| walk_at "compareOp In str ref") => `(tactic| (k_here; k_dflt (first
  | (refine' in_list_own ?N ?m ?S ?hb ?_; (case N => k_asm); (case m => k_mem); (case S => assumption); (case hb => assumption))
  | (refine' in_own' ?N ?m ?S ?l ?hb ?_; (case N => k_asm); (case m => k_mem); (case S => assumption); (case l => assumption); (case hb => assumption); intro tI)
  | (refine' in_K ?k1 ?k2 ?k3 ?k4 ?k5 ?_; (case k1 => k_asm); (case k2 => k_asm); (case k3 => k_inst); (case k4 => k_is); (case k5 => k_is); k_whole))))
local macro_rules | `(tactic| walk_at "compareOp NotEq ref ref") => `(tactic| (k_here; k_dflt (first
  | (refine' ne_same_own ?N (Rd.list ?m1 ?r1) (Rd.list ?m2 ?r2) ?lay ?dep ?hu ?_; (case N => k_asm); (case m1 => k_mem); (case r1 => (first | exact RdAll.cons (Rd.bool _) (.cons (Rd.bool _) (.cons (Rd.bool _) (.cons (Rd.bool _) .nil))) | exact RdAll.cons (Rd.bool _) (.cons (Rd.bool _) (.cons (Rd.bool _) .nil)))); (case m2 => k_mem); (case r2 => (first | exact RdAll.cons (Rd.bool _) (.cons (Rd.bool _) (.cons (Rd.bool _) (.cons (Rd.bool _) .nil))) | exact RdAll.cons (Rd.bool _) (.cons (Rd.bool _) (.cons (Rd.bool _) .nil)))); (case lay => (simp [PyData.canLay0, PyData.canLayAll0]; try decide +kernel)); (case dep => simp [PyData.depth, PyData.depthAll]); (case hu => units_room))
  | (refine' ne_strs_own ?N ?m1 ?s1 ?m2 ?s2 ?hi ?hu ?_; (case N => k_asm); (case m1 => k_mem); (case s1 => assumption); (case m2 => k_mem); (case s2 => assumption); (case hi => assumption); (case hu => units_room))
  | (refine' ne_nil_yes ?N ?m1 ?s1 ?m2 ?hi ?hu ?hp ?_; (case N => k_asm); (case m1 => k_mem); (case s1 => assumption); (case m2 => k_mem); (case hi => assumption); (case hu => units_room); (case hp => with_reducible first | exact (every_len (by assumption)).mpr (.inl (by assumption)) | exact (every_len (by assumption)).mpr (.inr (by assumption))))
  | (refine' ne_nil_no ?N ?m1 ?s1 ?m2 ?hi ?hu ?hp ?_; (case N => k_asm); (case m1 => k_mem); (case s1 => assumption); (case m2 => k_mem); (case hi => assumption); (case hu => units_room); (case hp => with_reducible exact every_no (by assumption) (by assumption) (by assumption)))
  | refine ne_stop ?_)))
local macro_rules | `(tactic| walk_at "call type:bool") => `(tactic| (k_here; (with_reducible show wpAny _ _ (call _ [Value.ref _]) _ _ _); refine call_bool_own ?_))
local macro_rules | `(tactic| walk_at "truthy ref") => `(tactic| (k_here; k_dflt (first
  | (refine' truthy_froz_yes ?N ?m ?S ?l ?hp ?_; (case N => k_asm); (case m => k_mem); (case S => assumption); (case l => assumption); (case hp => assumption); intro tT)
  | (refine' truthy_froz_no ?N ?m ?S ?l ?hp ?_; (case N => k_asm); (case m => k_mem); (case S => assumption); (case l => assumption); (case hp => assumption); intro tT)
  | (refine' truthy_froz_two ?N ?m ?S ?l ?_ ?_; (case N => k_asm); (case m => k_mem); (case S => assumption); (case l => assumption); all_goals (intro hp tT)))))
local macro_rules | `(tactic| walk_at "call ref") => `(tactic| (k_here; (with_reducible show wpAny _ _ (call (Value.ref 171) [Value.str (Str.ofString "*") _]) _ _ _); k_dflt (refine' star_law_use ?B ?F ?X ?T ?hk ?N ?d ?u ?_; (case B => k_asm); (case F => k_asm); (case X => k_asm); (case T => k_asm); (case hk => exact rfl); (case N => k_asm); (case d => decide); (case u => decide)); intro x' dx' fs' fw' t1' t2' t3' oF' oW' ks' kw' h' tk' F' N' hF' hW' dW' lW'))
local macro_rules | `(tactic| walk_at "call ref") => `(tactic| (k_here; (with_reducible show wpAny _ _ (call (Value.ref 171) [Value.str (Str.ofString "W/\"a\"") _]) _ _ _); k_dflt (refine' weak_law_use ?B ?F ?X ?T ?hk ?N ?d ?u ?_; (case B => k_asm); (case F => k_asm); (case X => k_asm); (case T => k_asm); (case hk => exact rfl); (case N => k_asm); (case d => decide); (case u => decide)); intro x' dx' fs' fw' t1' t2' t3' oF' oW' ks' kw' h' tk' F' N' hF' hW' dF' dW' lF' lW'))
set_option maxHeartbeats 2400000 in
theorem PySem.Challenge.cw_ez0423_01_holds : PySem.Challenge.rw_ez0423_01.Holds :=
  Et.hd (by
  k_go0
  refine wpAny_mono (E := fun _ _ => False) ?_ (fun _ _ x => x) (fun _ _ e => e.elim)
  (all_goals try k_fold)
  k_steps
  rename Below callerA _ _ _ => B0
  rename Top _ _ _ _ _ (Shared.heap _) => T0
  rename (hd.heap_39 _).In (Shared.heap _) => X0
  rename IntsAre _ (_ ++ _) => hInts
  rename IsRange _ _ _ _ _ _ _ _ => hRng
  rename Fr _ _ _ _ => F0
  rename News _ _ _ _ => N0
  rename IntsAre _ (List.map _ _) => hI8
  refine wpAny_pyIter_range hRng (by decide) ?_
  rw [show Builtin.Range.rangeSize 0 3 1 = ((3 : Nat) : Int) from rfl]
  obtain ⟨ws1, ws2, ws3⟩ := script_facts hInts
  refine law_loop F0 (News.two N0) rfl rfl ?turn ?done
  case done =>
    -- SEG Z
    intro h₁ d tk m₁ at' t' e' F₁ hm₁ N₁
    clear hRng F0 N0 hI8 hInts
    show wpAny _ _ _ _ _ _
    k_steps
    -- END Z
  case turn =>
    intro gs os i h₁ d tk tv I oI m₁ at' t' e' hgs hos hi F₁ hm₁ N₁ hI lo hi'
    rw [state_name hm₁] at F₁
    clear hRng F0 N0 hm₁
    have big : (1 : Nat) + 1000 < cLine := by decide
    walk1
    rename News _ _ _ _ => N₂
    rename Fr _ _ _ _ => F₂
    refine execs_cut (InvAx X0 N₂ i gs os) 2 ?_ ?_
    · -- SEG A
      simp only [List.take_succ_cons, List.take_zero]
      show wpAny _ _ _ _ _ _
      k_fold
      k_steps
      rename News _ _ _ _ => nE
      rename Fr _ _ _ _ => fE
      exact ⟨rfl, ⟨_, _, _, _, _, _, _, _, _, _, _, _, _, _, _, _, _, _, _, _, InvA.mk fE rfl rfl rfl (News.drop5 nE) (by assumption) (by assumption) (by assumption) (by assumption) (by assumption) (by assumption) (by assumption) (Nat.le_trans (by assumption) (Nat.le_trans (strongs_le _) (by assumption))) (Nat.le_trans (by assumption) (Nat.le_trans (weaks_le _) (by assumption))) (by omega) (by omega)⟩, rfl, rfl⟩
      -- END A
    · simp only [List.drop_succ_cons, List.drop_zero]
      rintro s₃ ⟨⟨m₃, x, dx, fs, fw, rl, t1, t2, t3, oF, oW, ks, kw, vr, er, tl, its, at₃, t₃, e₃, P⟩, c1, c2⟩
      obtain ⟨h₃, g₃, d₃, tk₃, os₃⟩ := s₃
      dsimp only at c1 c2 P
      refine execs_cut (InvBx X0 N₂ i gs os) 2 ?_ ?_
      · -- SEG B
        subst c1; subst c2
        have FT := P.fr
        rw [P.names] at FT
        have NT := P.led
        have rows := P.rows
        have good := P.good
        have len := P.len
        have hF := P.hF
        have mF := P.mF
        have hW := P.hW
        have mW := P.mW
        have lF := P.lF
        have lW := P.lW
        have lo3 := P.lo
        have hi3 := P.hi
        have rlen : (its.filterMap Item.row).length ≤ 7 := Nat.le_trans (List.length_filterMap_le _ _) len
        clear P
        simp only [List.take_succ_cons, List.take_zero]
        show wpAny _ _ _ _ _ _
        k_fold
        k_steps
        rename News _ _ _ _ => nE
        rename Fr _ _ _ _ => fE
        refine ⟨fun r => !r.2, _, _, _, _, _, _, _, _, rfl, fE, nE, by k_mem, rows.mono (fun p hp => by repeat (first | exact hp | apply List.Mem.tail)), by omega, rfl, ?_, .inr ⟨_, rfl, ?_⟩, ?_⟩
        · intro C v s₃ m₃ E' hn hx
          show wpAny _ _ _ _ _ _
          k_steps
          exact ⟨_, _, rfl, fun _ _ e => e⟩
        · intro C r s₃ m₃ E' hn hx
          show wpAny _ _ _ _ _ _
          k_steps
          exact ⟨_, _, rfl, fun _ _ e => e⟩
        · intro D1 h1 tk1 v1 e1 F1 N1 S1 l1
          rw [told_strong] at S1
          have S1l := strongs_le its
          k_lt l1
          clear nE fE
          show wpAny _ _ _ _ _ _
          k_steps
          try clear F1
          try clear N1
          rename News _ _ _ _ => nE
          rename Fr _ _ _ _ => fE
          refine ⟨fun _ => true, _, _, _, _, _, _, _, _, rfl, fE, nE, by k_mem, rows.mono (fun p hp => by repeat (first | exact hp | apply List.Mem.tail)), by omega, rfl, ?_, .inl ⟨rfl, fun _ => rfl⟩, ?_⟩
          · intro C v s₃ m₃ E' hn hx
            show wpAny _ _ _ _ _ _
            k_steps
            exact ⟨_, _, rfl, fun _ _ e => e⟩
          · intro D2 h2 tk2 v2 e2 F2 N2 S2 l2
            have S2l := told_len (fun _ => true) (its.filterMap Item.row)
            k_lt l2
            clear nE fE
            show wpAny _ _ _ _ _ _
            k_steps
            rename News _ _ _ _ => nE
            rename Fr _ _ _ _ => fE
            exact ⟨rfl, ⟨_, _, _, _, _, _, _, _, _, _, _, _, _, _, _, _, _, _, _, _, _, _, _, _, _, _, _, _, InvB.make fE rfl rfl rfl rfl rfl nE (by assumption) (by assumption) (by assumption) (by assumption) (by assumption) (by assumption) (by assumption) (by assumption) (by assumption) (by assumption) (by assumption) (by assumption) (by assumption) (by assumption) (by assumption) (by assumption) (by assumption) (by assumption) (by assumption) (by assumption) (by assumption) (by assumption) (by assumption) (by assumption) (by assumption)⟩, rfl, rfl⟩
        -- END B
      · simp only [List.drop_succ_cons, List.drop_zero]
        clear c1 c2 P
        rintro s₄ ⟨⟨m₄, x, dx, fs, fw, rl, lS, lE, t1, t2, t3, oF, oW, ks, kw, vr, er, vS, eS, vE, eE, SS, EE, tl, its, at₄, t₄, e₄, P⟩, c1, c2⟩
        obtain ⟨h₄, g₄, d₄, tk₄, os₄⟩ := s₄
        dsimp only at c1 c2 P
        refine execs_cut (InvBx X0 N₂ i gs os) 2 ?_ ?_
        · -- SEG C
          subst c1; subst c2
          have FT := P.fr
          rw [P.names] at FT
          have NT := P.led
          have hF := P.hF
          have mF := P.mF
          have hW := P.hW
          have mE := P.mE
          have lF := P.lF
          have lW := P.lW
          have sS := P.sS
          have sE := P.sE
          have oS := P.oS
          have oE := P.oE
          have dS := P.dS
          have dE := P.dE
          have iS := P.iS
          have iE := P.iE
          have cS := P.cS
          have cE := P.cE
          have cK := len_same hF.nodup dS mF
          simp only [List.take_succ_cons, List.take_zero]
          show wpAny _ _ _ _ _ _
          k_fold
          k_steps
          rename News _ _ _ _ => nE
          have d1 := depth_strs SS
          have d2 := depth_strs EE
          refine ne_same_own nE (Rd.list (by k_mem) (.cons (Rd.strs (by k_mem) (by with_reducible assumption)) (.cons (Rd.strs (by k_mem) (by with_reducible assumption)) (.cons (Rd.int _ _) (.cons (Rd.strs (by k_mem) (by with_reducible assumption)) .nil))))) (Rd.list (by k_mem) (.cons (Rd.strs (by k_mem) (by with_reducible assumption)) (.cons (Rd.strs (by k_mem) (by with_reducible assumption)) (.cons (Rd.int _ _) (.cons (Rd.strs (by k_mem) (by with_reducible assumption)) .nil))))) (by simp only [PyData.canLay0, PyData.canLayAll0, lay_strs iS, lay_strs iE, Bool.and_self]) (by simp only [PyData.depth, PyData.depthAll]; omega) (by units_room) ?_
          k_steps
          rename Fr _ _ _ _ => fE
          exact ⟨rfl, ⟨_, _, _, _, _, _, _, _, _, _, _, _, _, _, _, _, _, _, _, _, _, _, _, _, _, _, _, _, P.keep fE rfl rfl rfl rfl rfl (fun p hp => nE p (by repeat (first | exact hp | apply List.Mem.tail)))⟩, rfl, rfl⟩
          -- END C
        · simp only [List.drop_succ_cons, List.drop_zero]
          clear c1 c2 P
          rintro s₅ ⟨⟨m₅, x, dx, fs, fw, rl, lS, lE, t1, t2, t3, oF, oW, ks, kw, vr, er, vS, eS, vE, eE, SS, EE, tl, its, at₅, t₅, e₅, P⟩, c1, c2⟩
          obtain ⟨h₅, g₅, d₅, tk₅, os₅⟩ := s₅
          dsimp only at c1 c2 P
          refine execs_cut (InvBx X0 N₂ i gs os) 1 ?_ ?_
          · -- SEG E
            subst c1; subst c2
            have FT := P.fr
            rw [P.names] at FT
            have NT := P.led
            have hF := P.hF
            have mF := P.mF
            have hW := P.hW
            have mE := P.mE
            have lF := P.lF
            have lW := P.lW
            have sS := P.sS
            have sE := P.sE
            have oS := P.oS
            have oE := P.oE
            have dS := P.dS
            have dE := P.dE
            have iS := P.iS
            have iE := P.iE
            have cS := P.cS
            have cE := P.cE
            simp only [List.take_succ_cons, List.take_zero]
            show wpAny _ _ _ _ _ _
            k_fold
            k_steps
            all_goals (rename News _ _ _ _ => nE; rename Fr _ _ _ _ => fE)
            all_goals exact ⟨rfl, ⟨_, _, _, _, _, _, _, _, _, _, _, _, _, _, _, _, _, _, _, _, _, _, _, _, _, _, _, _, P.keep fE rfl rfl rfl rfl rfl (fun p hp => nE p (by repeat (first | exact hp | apply List.Mem.tail)))⟩, rfl, rfl⟩
            -- END E
          · simp only [List.drop_succ_cons, List.drop_zero]
            clear c1 c2 P
            rintro s₆ ⟨⟨m₆, x, dx, fs, fw, rl, lS, lE, t1, t2, t3, oF, oW, ks, kw, vr, er, vS, eS, vE, eE, SS, EE, tl, its, at₆, t₆, e₆, P⟩, c1, c2⟩
            obtain ⟨h₆, g₆, d₆, tk₆, os₆⟩ := s₆
            dsimp only at c1 c2 P
            -- SEG F
            subst c1; subst c2
            have FT := P.fr
            rw [P.names] at FT
            have NT := P.led
            show wpAny _ _ _ _ _ _
            k_fold
            k_steps
            rename News _ _ _ _ => nE
            rename Fr _ _ _ _ => fE
            show wpAny _ _ (pyIter _) _ _ _
            refine wpAny_pyIter_list (list_of_news nE (.head _)) ?_
            refine name_loop (ss := six) P.want fE ⟨rfl, rfl, rfl, rfl, rfl⟩ nE (.cons _ _ (.cons _ _ (.cons _ _ (.cons _ _ (.cons _ _ (.cons _ _ .nil)))))) rfl ?turn ?done
            case done =>
              intro h₇ d₇ tk₇ m₇ F₇ hw₇ N₇
              show wpAny _ _ (execs [] _) _ _ _
              refine wpAny_execs_nil ?_
              exact ⟨⟨_, _, _, _, F₇, hw₇.1, News.mid3 N₇, P.lo, P.hi⟩, rfl, rfl⟩
            case turn =>
              intro gs os k tk h₇ d₇ tk₇ I2 oI2 m₇ hgs hos hk F₇ hw₇ N₇
              rw [P.want_names hw₇] at F₇
              have rows := P.rows
              have hF := P.hF
              have hW := P.hW
              have lF := P.lF
              have lW := P.lW
              have sS := P.sS
              have sE := P.sE
              have mF := P.mF
              have mE := P.mE
              have mW := P.mW
              have rIn := rows_in P.good
              have kOk := six_ok k hk
              have eS : decide (k ∈ ks) = decide (k ∈ SS) := by rw [Bool.eq_iff_iff, decide_eq_true_eq, decide_eq_true_eq]; exact mF k
              clear nE fE
              try clear FT
              try clear NT
              walk1
              rename News _ _ _ _ => N₈
              rename Fr _ _ _ _ => F₈
              refine execs_cut (NameX N₈ (fun m => P.want m ∧ ∃ t', m (Str.ofString "name") = some (.str k t')) gs os) 3 ?_ ?_
              · simp only [List.take_succ_cons, List.take_zero]
                generalize hb2 : decide (k ∈ kw) = b2
                have eE := in_every mF mE hb2
                have eR : ((its.filterMap Item.row).any fun r => r == (k, true)) = b2 := by rw [rows_any, ← hb2, Bool.eq_iff_iff, decide_eq_true_eq, decide_eq_true_eq]; exact (mW k).symm
                generalize hb1 : decide (k ∈ SS) = b1 at eS eE
                show wpAny _ _ _ _ _ _
                k_fold
                k_steps
                rename News _ _ _ _ => nE
                rename Fr _ _ _ _ => fE
                exact ⟨rfl, ⟨_, fE, ⟨⟨rfl, rfl, rfl, rfl, rfl⟩, _, rfl⟩, fun p hp => nE p (by repeat (first | exact hp | apply List.Mem.tail))⟩, rfl, rfl⟩
              · simp only [List.drop_succ_cons, List.drop_zero]
                rintro s₇ ⟨⟨m₈, F₉, ⟨hw₈, tn, hn₈⟩, N₉⟩, c1, c2⟩
                obtain ⟨h₉, g₉, d₉, tk₉, os₉⟩ := s₇
                dsimp only at c1 c2 F₉ N₉
                subst c1; subst c2
                rw [name_names P hw₈ hn₈] at F₉
                clear N₈ F₈
                show wpAny _ _ _ _ _ _
                k_fold
                k_steps
                rename News _ _ _ _ => nE
                refine ne_same_own nE (Rd.list (by k_mem) (.cons (Rd.tuple (by k_mem) (.cons (Rd.str _ _) (.cons (Rd.bool _) .nil))) (.cons (Rd.tuple (by k_mem) (.cons (Rd.str _ _) (.cons (Rd.bool _) .nil))) .nil))) (Rd.list (by k_mem) (.cons (Rd.tuple (by k_mem) (.cons (Rd.str _ _) (.cons (Rd.bool _) .nil))) (.cons (Rd.tuple (by k_mem) (.cons (Rd.str _ _) (.cons (Rd.bool _) .nil))) .nil))) (by simp [PyData.canLay0, PyData.canLayAll0, kOk]) (by simp [PyData.depth, PyData.depthAll]) (by units_room) ?_
                k_steps
                rename Fr _ _ _ _ => fE
                exact ⟨⟨_, fE, ⟨rfl, rfl, rfl, rfl, rfl⟩, fun p hp => nE p (by repeat (first | exact hp | apply List.Mem.tail))⟩, rfl, rfl⟩
            -- END F
  )
