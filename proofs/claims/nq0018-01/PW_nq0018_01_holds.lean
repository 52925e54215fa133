import PyProof.Rows.All
import Wide.All
import OpenK.AllK
import Wide.FinOn
import KE.KDictIter
import PySem.Challenge.RW_nq0018_01
open PySem PySem.W PyProof.Rows PySem.Calls
set_option Elab.async false
set_option maxRecDepth 100000
set_option maxHeartbeats 8000000
namespace Mine
open_top hd for PySem.Challenge.rw_nq0018_01
/-- the head leaves the top's lines switched on: the walks of the parts want them off -/
theorem topOff : True := by
  w_top off
  trivial
end Mine
namespace Mine



/-- the end of a contract: opaque to the walker -/
structure Post (P : Value → Shared → Prop) (r : Result) (s' : Shared) : Prop where
  out : ∃ v, r = .ok (.ret v) ∧ P v s'

section
variable {w : World} {A : Around} {b0 : Heap} {outer : List Env} {s : Shared}
  {p : Program} {loose : List Str} {mean : ExcName → Option Value} {mg mb : Str → Option Value}

theorem enter_pure {prog : Program} {K : Frag} {R : Result → Shared → Prop} {name qual : Str} {params : Arguments} {body : List Stmt} {scope : Scope} {dV kV doc pm cdv ct oc : Value} {an od : Option Addr} {osl : Array (Option Value)} {f : Addr} {args : Args} {binds : List (Str × Value)}
    (X : K.In b0) (T : Top p loose mean mg mb b0) (B : Below A b0 outer s.heap)
    (ho : K.lookup f = some ⟨oc, od, .func (fnOf name qual params body scope dV kV doc pm an cdv ct), osl⟩) (hcd : codeIn K cdv qual = true) (hroom : A.depth < recursionLimit)
    (hbind : BindsTo s (fnOf name qual params body scope dV kV doc pm an cdv ct) args binds) (hloc : ∀ y ∈ binds, scope.names.lookup y.1 = some .local)
    (h : ∀ L' h₁, Fr s.heap L' h₁ (fun y => binds.reverse.lookup y) → News s.heap L' h₁ [] → Below A b0 outer s.heap → K.In s.heap → Top p loose mean mg mb s.heap →
      wpAny (model prog w) (A.deeper (envOf qual scope L' f cdv)) (execs body (envOf qual scope L' f cdv))
        (fun fl s' => R (.ok (.ret (match fl with | .ret v => v | _ => .none))) s')
        (fun e s' => wpAny (model prog w) (A.deeper (envOf qual scope L' f cdv)) (leaving (envOf qual scope L' f cdv) e) (fun _ s'' => R (.error e) s'') (fun e' s'' => R (.error e') s'') s')
        { s with heap := h₁, toks := s.toks + binds.length })
    (hco : scope.isCoroutine = false) (hgen : scope.isGenerator = false) (hk : scope.kind = .function)
    (hcell : ∀ x ∈ scope.names, x.2 ≠ .cell) : codeAny (model prog w) A (.call (.ref f) args) R s := by
  have X' := X.keeps B.stays
  have T' := T.keeps B.stays
  refine codeAny_call_def (fd := fnOf name qual params body scope dV kV doc pm an cdv ct) (body := body) (binds := binds) hroom (X' _ _ ho) rfl T'.nolimit (codeRec_of X' hcd) rfl hbind hcell hloc (fun h₁ hns hk₁ => ?_) hco hgen hk
  exact h s.heap.objs.size h₁ ⟨hns, hk₁, Nat.le_refl _⟩ News.nil B X' T'
end



theorem keep_end {P : Value → Shared → Prop} {s : Shared} {h' : Heap} {L : Addr} {m : Str → Option Value} {tk : Nat} {v : Value} (F : Fr s.heap L h' m) (hv : P v { s with heap := h', toks := tk }) :
    Post (fun v s' => P v s' ∧ Keeps s s') (.ok (.ret v)) { s with heap := h', toks := tk } := ⟨v, rfl, hv, h', tk, rfl, F.keep⟩

theorem Fr.keepsTo {h₀ h h' : Heap} {L : Addr} {m : Str → Option Value} (F : Fr h₀ L h m) (k : ∀ b o, h.get? b = some o → h'.get? b = some o) : Fr h₀ L h' m :=
  ⟨F.ns.keeps k, fun b o e => k b o (F.keep b o e), F.above⟩
theorem News.keepsTo {h₀ h h' : Heap} {L : Addr} {news : List (Addr × Obj)} (N : News h₀ L h news) (k : ∀ b o, h.get? b = some o → h'.get? b = some o) : News h₀ L h' news :=
  fun p hp => ⟨k _ _ (N p hp).1, (N p hp).2⟩

/-- a call by its contract, within a walk -/
theorem use_pure {prog : Program} {w : World} {A : Around} {b0 h₀ : Heap} {outer : List Env} {s : Shared} {L : Addr} {m : Str → Option Value} {news : List (Addr × Obj)} {env : Env} {E : Value → Shared → Prop} {Q : Value → Shared → Prop}
    {f : Value} {args : List Value} {P : Value → Shared → Prop} (B : Below A b0 outer h₀) (F : Fr h₀ L s.heap m) (N : News h₀ L s.heap news) (hf : env.frame = some L) (hke : env.scope.kind = .function)
    (spec : Below (A.deeper env) b0 (env :: outer) s.heap → codeAny (model prog w) (A.deeper env) (.call f ⟨args, []⟩) (Post fun v s' => P v s' ∧ Keeps s s') s)
    (h : ∀ v h' tk, P v { s with heap := h', toks := tk } → Fr h₀ L h' m → News h₀ L h' news → (∀ b o, s.heap.get? b = some o → h'.get? b = some o) → Q v { s with heap := h', toks := tk }) :
    wpAny (model prog w) (A.deeper env) (call f args) Q E s := by
  refine wpAny_call (codeAny_mono (spec (pushX B F hf hke)) fun r s' hr => ?_)
  obtain ⟨v, rfl, hv, h', tk, rfl, k⟩ := hr.out
  exact h v h' tk hv (Fr.keepsTo F k) (News.keepsTo N k) k

/-- all but W stays -/
def KeepsBut (W : List Addr) (s s' : Shared) : Prop := ∃ h' tk, s' = { s with heap := h', toks := tk } ∧ ∀ b o, b ∉ W → s.heap.get? b = some o → h'.get? b = some o
theorem Keeps.but {s s' : Shared} (k : Keeps s s') (W : List Addr) : KeepsBut W s s' := let ⟨h', tk, e, k⟩ := k; ⟨h', tk, e, fun b o _ h => k b o h⟩
def GoesOn (W : List Addr) (h g : Heap) : Prop := ∀ b o, b ∉ W → h.get? b = some o → g.get? b = some o
theorem keepsBut_of {W : List Addr} {s : Shared} {g h' : Heap} {L : Addr} {m : Str → Option Value} {tk : Nat} (G : GoesOn W s.heap g) (F : Fr g L h' m) : KeepsBut W s { s with heap := h', toks := tk } :=
  ⟨h', tk, rfl, fun b o hb e => F.keep b o (G b o hb e)⟩
theorem enter_led {prog : Program} {w : World} {A : Around} {b0 : Heap} {outer : List Env} {s : Shared} {p : Program} {loose : List Str} {mean : ExcName → Option Value} {mg mb : Str → Option Value}
    {K : Frag} {R : Result → Shared → Prop} {name qual : Str} {params : Arguments} {body : List Stmt} {scope : Scope} {dV kV doc pm cdv ct oc : Value} {an od : Option Addr} {osl : Array (Option Value)} {f : Addr} {args : Args} {binds : List (Str × Value)}
    (muts : List (Addr × Obj)) (hm : ∀ q ∈ muts, s.heap.get? q.1 = some q.2 ∧ b0.get? q.1 = none) (hfr : ∀ env ∈ outer, ∀ a ∈ muts.map (·.1), env.frame ≠ some a)
    (X : K.In b0) (T : Top p loose mean mg mb b0) (B : Below A b0 outer s.heap)
    (ho : K.lookup f = some ⟨oc, od, .func (fnOf name qual params body scope dV kV doc pm an cdv ct), osl⟩) (hcd : codeIn K cdv qual = true) (hroom : A.depth < recursionLimit)
    (hbind : BindsTo s (fnOf name qual params body scope dV kV doc pm an cdv ct) args binds) (hloc : ∀ y ∈ binds, scope.names.lookup y.1 = some .local)
    (h : ∀ g L' h₁, GoesOn (muts.map (·.1)) s.heap g → Fr g L' h₁ (fun y => binds.reverse.lookup y) → News g L' h₁ muts → Below A b0 outer g → K.In g → Top p loose mean mg mb g → (∀ q ∈ muts, q.1 < L') →
      wpAny (model prog w) (A.deeper (envOf qual scope L' f cdv)) (execs body (envOf qual scope L' f cdv))
        (fun fl s' => R (.ok (.ret (match fl with | .ret v => v | _ => .none))) s')
        (fun e s' => wpAny (model prog w) (A.deeper (envOf qual scope L' f cdv)) (leaving (envOf qual scope L' f cdv) e) (fun _ s'' => R (.error e) s'') (fun e' s'' => R (.error e') s'') s')
        { s with heap := h₁, toks := s.toks + binds.length })
    (hco : scope.isCoroutine = false) (hgen : scope.isGenerator = false) (hk : scope.kind = .function)
    (hcell : ∀ x ∈ scope.names, x.2 ≠ .cell) : codeAny (model prog w) A (.call (.ref f) args) R s := by
  have X' := X.keeps B.stays
  have T' := T.keeps B.stays
  have st : b0.StaysIn (hideAll s.heap (muts.map (·.1))) := fun b o e => hideAll_get _ (B.stays b o e) fun q => by
    obtain ⟨r, hr, rfl⟩ := List.mem_map.mp q
    rw [(hm r hr).2] at e; cases e
  have B' : Below A b0 outer (hideAll s.heap (muts.map (·.1))) := ⟨B.stack, st, funFrames_hideAll B.frames hfr⟩
  refine codeAny_call_def (fd := fnOf name qual params body scope dV kV doc pm an cdv ct) (body := body) (binds := binds) hroom (X' _ _ ho) rfl T'.nolimit (codeRec_of X' hcd) rfl hbind hcell hloc (fun h₁ hns hk₁ => ?_) hco hgen hk
  exact h _ s.heap.objs.size h₁ (fun b o hb e => hideAll_get _ e hb) ⟨hns, fun b o e => hk₁ b o (of_hideAll _ e), Nat.le_of_eq (hideAll_size _ _)⟩
    (fun q hq => ⟨hk₁ _ _ (hm q hq).1, Nat.ne_of_lt (Heap.lt_size (hm q hq).1), hideAll_none _ (List.mem_map_of_mem hq)⟩) B' (X.keeps st) (T.keeps st) (fun q hq => Heap.lt_size (hm q hq).1)

/-- a sign of the line: text or number -/
def Sg (tx : Bool) (c : Nat) (v : Value) : Prop := match tx with
  | true => ∃ t, v = .str ⟨#[c]⟩ t
  | false => ∃ t, v = .int (c : Int) t

section
variable {w : World} {A : Around} {b0 : Heap} {outer : List Env} {s : Shared} {p : Program} {loose : List Str} {mean : ExcName → Option Value} {mg mb : Str → Option Value}
variable (X : (hd.heap_39 w.params).In b0) (T : Top p loose mean mg mb b0) (B : Below A b0 outer s.heap)
include X T B

local macro_rules | `(tactic| walk_at "mine enter") => `(tactic| (
  refine' enter_pure ‹Frag.In _ _› ‹Top _ _ _ _ _ _› ‹Below _ _ _ _› ?k6 ?k7 ?k8 ?k9 ?kB ?_ ?c2 ?c3 ?c4 ?c5
  case k6 => k_is
  case k7 => k_is
  case k8 => unfold recursionLimit; omega
  case k9 => exact BindsTo.of_eq rfl
  case kB => exact locs rfl
  case c2 => exact rfl
  case c3 => exact rfl
  case c4 => exact rfl
  case c5 => decide
  intro L' h' F' N' B' X' T'
  (try dsimp only)
  k_fold))

theorem ctoi_spec (hD : A.depth ≤ 900) {tx : Bool} {c : Nat} {v : Value} (hs : Sg tx c v) :
    codeAny (model PySem.Challenge.rw_nq0018_01.row.prog w) A (.call (.ref 30) ⟨[v], []⟩) (Post fun v s' => (∃ t', v = .int (c : Int) t') ∧ Keeps s s') s := by
  revert X
  k_fill
  intro X
  cases tx with
  | true =>
    obtain ⟨t, rfl⟩ := hs
    walk_at "mine enter"
    k_steps
    all_goals exact keep_end (by assumption) ⟨_, rfl⟩
  | false =>
    obtain ⟨t, rfl⟩ := hs
    walk_at "mine enter"
    k_steps
    all_goals exact keep_end (by assumption) ⟨_, rfl⟩
end

end Mine

namespace Mine

local macro_rules | `(tactic| walk_at "mine enter") => `(tactic| (
  refine' enter_pure ‹Frag.In _ _› ‹Top _ _ _ _ _ _› ‹Below _ _ _ _› ?k6 ?k7 ?k8 ?k9 ?kB ?_ ?c2 ?c3 ?c4 ?c5
  case k6 => k_is
  case k7 => k_is
  case k8 => unfold recursionLimit; omega
  case k9 => exact BindsTo.of_eq rfl
  case kB => exact locs rfl
  case c2 => exact rfl
  case c3 => exact rfl
  case c4 => exact rfl
  case c5 => decide
  intro L' h' F' N' B' X' T'
  (try dsimp only)
  k_fold))

section
variable {w : World} {A : Around} {b0 h₀ : Heap} {outer : List Env} {s : Shared} {p : Program} {loose : List Str} {mean : ExcName → Option Value} {mg mb : Str → Option Value}
  {L : Addr} {m : Str → Option Value} {news : List (Addr × Obj)} {env : Env} {E : Value → Shared → Prop} {Q : Value → Shared → Prop}
theorem use_ctoi (X : (hd.heap_39 w.params).In b0) (T : Top p loose mean mg mb b0) (B : Below A b0 outer h₀) (F : Fr h₀ L s.heap m) (N : News h₀ L s.heap news) (hD : A.depth ≤ 899) {tx : Bool} {c : Nat} {v : Value} (hs : Sg tx c v)
    (h : ∀ t h' tk, Fr h₀ L h' m → News h₀ L h' news → Q (.int (c : Int) t) { s with heap := h', toks := tk }) (hf : env.frame = some L) (hke : env.scope.kind = .function) :
    wpAny (model PySem.Challenge.rw_nq0018_01.row.prog w) (A.deeper env) (call (.ref 30) [v]) Q E s :=
  use_pure B F N hf hke (fun B' => ctoi_spec X T B' (by rw [depth_deeper]; omega) hs) fun v h' tk hv F' N' _ => by obtain ⟨t, rfl⟩ := hv; exact h t h' tk F' N'
end
local macro_rules | `(tactic| walk_at "call ref") => `(tactic| (k_here; (with_reducible show wpAny _ _ (call (Value.ref 30) [_]) _ _ _); refine' use_ctoi ?kX ?kT ?kB ?kF ?kN ?kD ?kS ?_ ?kf ?kk; (case kf => exact rfl); (case kk => exact rfl); (case kB => k_asm); (case kX => k_asm); (case kT => k_asm); (case kF => k_asm); (case kN => k_asm); (case kD => omega); (case kS => first | assumption | exact ⟨_, rfl⟩); k_whole; intro t' h' tk' F' N'; (try k_sweep)))

theorem bA31 (c : Nat) : Builtin.bitAnd (c : Int) 31 = ((c % 32 : Nat) : Int) := by rw [bitAnd_m5]; omega
theorem bA127 (c : Nat) : Builtin.bitAnd (c : Int) 127 = ((c % 128 : Nat) : Int) := by rw [bitAnd_m7]; omega
theorem bA128 (c : Nat) : Builtin.bitAnd (c : Int) 128 = ((c / 128 % 2 * 128 : Nat) : Int) := by
  have h := PySem.W.kbt_bit (c : Int) 7
  have e : (2 : Int) ^ 7 = 128 := by decide
  rw [e] at h
  rw [h]; omega
theorem bO128 {c : Nat} (hc : c < 256) : Builtin.bitOr (c : Int) 128 = ((c % 128 + 128 : Nat) : Int) := by
  rw [bitOr_and, bA128]; omega
theorem bA32 (c : Nat) : Builtin.bitAnd (c : Int) 32 = ((c / 32 % 2 * 32 : Nat) : Int) := by
  have h := PySem.W.kbt_bit (c : Int) 5
  have e : (2 : Int) ^ 5 = 32 := by decide
  rw [e] at h
  rw [h]; omega
theorem bO32 (c : Nat) : Builtin.bitOr (c : Int) 32 = ((c + 32 - c / 32 % 2 * 32 : Nat) : Int) := by
  rw [bitOr_and, bA32]; omega
theorem sg127 (c : Nat) (t : Tok) : Sg false (c % 128) (.int (Builtin.bitAnd (c : Int) 127) t) := ⟨t, by rw [bA127]⟩
local macro_rules | `(tactic| walk_at "call builtin:chr") => `(tactic| (k_here; refine' chr_of_range ?ka ?kb ?_; (case ka => first | omega | (simp only [bA31, bA127]; omega)); (case kb => first | omega | (simp only [bA31, bA127]; omega))))

section
variable {w : World} {A : Around} {b0 : Heap} {outer : List Env} {s : Shared} {p : Program} {loose : List Str} {mean : ExcName → Option Value} {mg mb : Str → Option Value}
variable (X : (hd.heap_39 w.params).In b0) (T : Top p loose mean mg mb b0) (B : Below A b0 outer s.heap)
include X T B

theorem isprint_spec (hD : A.depth ≤ 890) {tx : Bool} {c : Nat} {v : Value} (hs : Sg tx c v) :
    codeAny (model PySem.Challenge.rw_nq0018_01.row.prog w) A (.call (.ref 37) ⟨[v], []⟩) (Post fun v s' => (v = .bool (decide (32 ≤ c ∧ c ≤ 126))) ∧ Keeps s s') s := by
  revert X
  k_fill
  intro X
  walk_at "mine enter"
  k_steps
  all_goals refine keep_end (by assumption) (congrArg Value.bool ?_)
  all_goals (apply decide_eq_decide.mpr; omega)
theorem ctrl_spec (hD : A.depth ≤ 890) {tx : Bool} {c : Nat} {v : Value} (hs : Sg tx c v) :
    codeAny (model PySem.Challenge.rw_nq0018_01.row.prog w) A (.call (.ref 44) ⟨[v], []⟩) (Post fun v s' => Sg tx (c % 32) v ∧ Keeps s s') s := by
  revert X
  k_fill
  intro X
  cases tx with
  | true =>
    obtain ⟨t, rfl⟩ := id hs
    walk_at "mine enter"
    k_steps
    all_goals (rw [bA31]; exact keep_end (by assumption) ⟨_, rfl⟩)
  | false =>
    obtain ⟨t, rfl⟩ := id hs
    walk_at "mine enter"
    k_steps
    all_goals (rw [bA31]; exact keep_end (by assumption) ⟨_, rfl⟩)
theorem alt_spec (hD : A.depth ≤ 890) {tx : Bool} {c : Nat} {v : Value} (hc : c < 256) (hs : Sg tx c v) :
    codeAny (model PySem.Challenge.rw_nq0018_01.row.prog w) A (.call (.ref 51) ⟨[v], []⟩) (Post fun v s' => Sg tx (c % 128 + 128) v ∧ Keeps s s') s := by
  revert X
  k_fill
  intro X
  have hb := bO128 hc
  cases tx with
  | true =>
    obtain ⟨t, rfl⟩ := id hs
    walk_at "mine enter"
    k_steps
    all_goals (rw [hb]; exact keep_end (by assumption) ⟨_, rfl⟩)
  | false =>
    obtain ⟨t, rfl⟩ := id hs
    walk_at "mine enter"
    k_steps
    all_goals (rw [hb]; exact keep_end (by assumption) ⟨_, rfl⟩)
end
section
variable {w : World} {A : Around} {b0 h₀ : Heap} {outer : List Env} {s : Shared} {p : Program} {loose : List Str} {mean : ExcName → Option Value} {mg mb : Str → Option Value}
  {L : Addr} {m : Str → Option Value} {news : List (Addr × Obj)} {env : Env} {E : Value → Shared → Prop} {Q : Value → Shared → Prop}
theorem use_isprint (X : (hd.heap_39 w.params).In b0) (T : Top p loose mean mg mb b0) (B : Below A b0 outer h₀) (F : Fr h₀ L s.heap m) (N : News h₀ L s.heap news) (hD : A.depth ≤ 889) {tx : Bool} {c : Nat} {v : Value} (hs : Sg tx c v)
    (h : ∀ h' tk, Fr h₀ L h' m → News h₀ L h' news → Q (.bool (decide (32 ≤ c ∧ c ≤ 126))) { s with heap := h', toks := tk }) (hf : env.frame = some L) (hke : env.scope.kind = .function) :
    wpAny (model PySem.Challenge.rw_nq0018_01.row.prog w) (A.deeper env) (call (.ref 37) [v]) Q E s :=
  use_pure B F N hf hke (fun B' => isprint_spec X T B' (by rw [depth_deeper]; omega) hs) fun v h' tk hv F' N' _ => by subst hv; exact h h' tk F' N'
theorem use_ctrl (X : (hd.heap_39 w.params).In b0) (T : Top p loose mean mg mb b0) (B : Below A b0 outer h₀) (F : Fr h₀ L s.heap m) (N : News h₀ L s.heap news) (hD : A.depth ≤ 889) {tx : Bool} {c : Nat} {v : Value} (hs : Sg tx c v)
    (h : ∀ v' h' tk, Sg tx (c % 32) v' → Fr h₀ L h' m → News h₀ L h' news → Q v' { s with heap := h', toks := tk }) (hf : env.frame = some L) (hke : env.scope.kind = .function) :
    wpAny (model PySem.Challenge.rw_nq0018_01.row.prog w) (A.deeper env) (call (.ref 44) [v]) Q E s :=
  use_pure B F N hf hke (fun B' => ctrl_spec X T B' (by rw [depth_deeper]; omega) hs) fun v h' tk hv F' N' _ => h v h' tk hv F' N'
theorem use_alt (X : (hd.heap_39 w.params).In b0) (T : Top p loose mean mg mb b0) (B : Below A b0 outer h₀) (F : Fr h₀ L s.heap m) (N : News h₀ L s.heap news) (hD : A.depth ≤ 889) {tx : Bool} {c : Nat} {v : Value} (hc : c < 256) (hs : Sg tx c v)
    (h : ∀ v' h' tk, Sg tx (c % 128 + 128) v' → Fr h₀ L h' m → News h₀ L h' news → Q v' { s with heap := h', toks := tk }) (hf : env.frame = some L) (hke : env.scope.kind = .function) :
    wpAny (model PySem.Challenge.rw_nq0018_01.row.prog w) (A.deeper env) (call (.ref 51) [v]) Q E s :=
  use_pure B F N hf hke (fun B' => alt_spec X T B' (by rw [depth_deeper]; omega) hc hs) fun v h' tk hv F' N' _ => h v h' tk hv F' N'
end
local macro_rules | `(tactic| walk_at "call ref") => `(tactic| (k_here; (with_reducible show wpAny _ _ (call (Value.ref 37) [_]) _ _ _); refine' use_isprint ?kX ?kT ?kB ?kF ?kN ?kD ?kS ?_ ?kf ?kk; (case kf => exact rfl); (case kk => exact rfl); (case kB => k_asm); (case kX => k_asm); (case kT => k_asm); (case kF => k_asm); (case kN => k_asm); (case kD => omega); (case kS => first | assumption | exact sg127 _ _ | exact ⟨_, rfl⟩); k_whole; intro h' tk' F' N'; (try k_sweep)))

def shownL (c : Nat) : List Nat := (if c / 128 % 2 = 1 then [33] else []) ++ (if c = 127 then [94, 63] else if 32 ≤ c % 128 ∧ c % 128 ≤ 126 then [c % 128] else [94, if c % 128 = 127 then 159 else c % 128 + 64])
def shown (c : Nat) : Str := ⟨(shownL c).toArray⟩
theorem st_caret : Str.ofString "^?" = ⟨#[94, 63]⟩ := by decide +kernel
theorem st_b1 (n : Nat) : Str.ofString "!" ++ (⟨#[n]⟩ : Str) = ⟨#[33, n]⟩ := by rw [show Str.ofString "!" = ⟨#[33]⟩ from by decide +kernel]; rfl
theorem st_c1 (n : Nat) : Str.ofString "^" ++ (⟨#[n]⟩ : Str) = ⟨#[94, n]⟩ := by rw [show Str.ofString "^" = ⟨#[94]⟩ from by decide +kernel]; rfl
theorem st_b2 (a n : Nat) : Str.ofString "!" ++ (⟨#[a, n]⟩ : Str) = ⟨#[33, a, n]⟩ := by rw [show Str.ofString "!" = ⟨#[33]⟩ from by decide +kernel]; rfl
theorem sh_a {c : Nat} (h : (c : Int) = 127) : Str.ofString "^?" = shown c := by
  have : c = 127 := by omega
  subst this
  rw [st_caret]; rfl
theorem sh_b {c n : Nat} (h1 : (c : Int) ≠ 127) (h2 : 32 ≤ c % 128 ∧ c % 128 ≤ 126) (h3 : c / 128 % 2 * 128 ≠ 0) (hn : n = c % 128) : Str.ofString "!" ++ (⟨#[n]⟩ : Str) = shown c := by
  rw [st_b1, hn]
  unfold shown shownL
  rw [if_pos (by omega), if_neg (by omega), if_pos h2]; rfl
theorem sh_c {c n : Nat} (h1 : (c : Int) ≠ 127) (h2 : 32 ≤ c % 128 ∧ c % 128 ≤ 126) (h3 : c / 128 % 2 * 128 = 0) (hn : n = c % 128) : (⟨#[n]⟩ : Str) = shown c := by
  rw [hn]
  unfold shown shownL
  rw [if_neg (by omega), if_neg (by omega), if_pos h2]; rfl
theorem sh_d {c n : Nat} (h1 : (c : Int) ≠ 127) (h2 : ¬ (32 ≤ c % 128 ∧ c % 128 ≤ 126)) (h3 : c / 128 % 2 * 128 ≠ 0) (hn : n = if c % 128 = 127 then 159 else c % 128 + 64) : Str.ofString "!" ++ (Str.ofString "^" ++ (⟨#[n]⟩ : Str)) = shown c := by
  unfold shown shownL
  rw [if_pos (by omega), if_neg (by omega), if_neg h2, ← hn, st_c1, st_b2]; rfl
theorem sh_e {c n : Nat} (h1 : (c : Int) ≠ 127) (h2 : ¬ (32 ≤ c % 128 ∧ c % 128 ≤ 126)) (h3 : c / 128 % 2 * 128 = 0) (hn : n = if c % 128 = 127 then 159 else c % 128 + 64) : Str.ofString "^" ++ (⟨#[n]⟩ : Str) = shown c := by
  unfold shown shownL
  rw [if_neg (by omega), if_neg (by omega), if_neg h2, ← hn, st_c1]; rfl
section
variable {c : Nat}
theorem un_m (c : Nat) : (Builtin.bitAnd (c : Int) 127).toNat = c % 128 := by rw [bA127]; rfl
theorem un_h {c : Nat} (h : Builtin.bitAnd (c : Int) 128 ≠ 0) : c / 128 % 2 * 128 ≠ 0 := by rw [bA128] at h; exact fun q => h (by rw [q]; rfl)
theorem un_z {c : Nat} (h : Builtin.bitAnd (c : Int) 128 = 0) : c / 128 % 2 * 128 = 0 := by rw [bA128] at h; exact Int.ofNat.inj h
theorem un_no (h : (c : Int) = 127) (h3 : Builtin.bitAnd (c : Int) 128 ≠ 0) : False := by
  have := un_h h3
  omega
theorem un_v (h2 : ¬ (32 ≤ c % 128 ∧ c % 128 ≤ 126)) : (Builtin.bitOr (Builtin.bitAnd (c : Int) 127) 32 + 32).toNat = if c % 128 = 127 then 159 else c % 128 + 64 := by
  rw [bA127, bO32]
  split <;> omega
theorem un_b (h1 : (c : Int) ≠ 127) (h2 : 32 ≤ c % 128 ∧ c % 128 ≤ 126) (h3 : Builtin.bitAnd (c : Int) 128 ≠ 0) : Str.ofString "!" ++ (⟨#[(Builtin.bitAnd (c : Int) 127).toNat]⟩ : Str) = shown c := sh_b h1 h2 (un_h h3) (un_m c)
theorem un_c (h1 : (c : Int) ≠ 127) (h2 : 32 ≤ c % 128 ∧ c % 128 ≤ 126) (h3 : Builtin.bitAnd (c : Int) 128 = 0) : (⟨#[(Builtin.bitAnd (c : Int) 127).toNat]⟩ : Str) = shown c := sh_c h1 h2 (un_z h3) (un_m c)
theorem un_d (h1 : (c : Int) ≠ 127) (h2 : ¬ (32 ≤ c % 128 ∧ c % 128 ≤ 126)) (h3 : Builtin.bitAnd (c : Int) 128 ≠ 0) : Str.ofString "!" ++ (Str.ofString "^" ++ (⟨#[(Builtin.bitOr (Builtin.bitAnd (c : Int) 127) 32 + 32).toNat]⟩ : Str)) = shown c := sh_d h1 h2 (un_h h3) (un_v h2)
theorem un_e (h1 : (c : Int) ≠ 127) (h2 : ¬ (32 ≤ c % 128 ∧ c % 128 ≤ 126)) (h3 : Builtin.bitAnd (c : Int) 128 = 0) : Str.ofString "^" ++ (⟨#[(Builtin.bitOr (Builtin.bitAnd (c : Int) 127) 32 + 32).toNat]⟩ : Str) = shown c := sh_e h1 h2 (un_z h3) (un_v h2)
end
section
variable {w : World} {A : Around} {b0 : Heap} {outer : List Env} {s : Shared} {p : Program} {loose : List Str} {mean : ExcName → Option Value} {mg mb : Str → Option Value}
variable (X : (hd.heap_39 w.params).In b0) (T : Top p loose mean mg mb b0) (B : Below A b0 outer s.heap)
include X T B
theorem unctrl_spec (hD : A.depth ≤ 880) {tx : Bool} {c : Nat} {v : Value} (hs : Sg tx c v) :
    codeAny (model PySem.Challenge.rw_nq0018_01.row.prog w) A (.call (.ref 58) ⟨[v], []⟩) (Post fun v s' => (∃ t, v = .str (shown c) t) ∧ Keeps s s') s := by
  revert X
  k_fill
  intro X
  have e1 := bA128 c
  have e2 := bA127 c
  have e3 : Builtin.bitOr (Builtin.bitAnd (c : Int) 127) 32 = ((c % 128 + 32 - c % 128 / 32 % 2 * 32 : Nat) : Int) := by rw [bA127, bO32]
  walk_at "mine enter"
  k_steps
  all_goals refine keep_end (by assumption) ⟨_, congrArg (fun x => Value.str x _) ?_⟩
  all_goals first
    | exact (un_no (by assumption) (by assumption)).elim
    | exact sh_a (by assumption)
    | exact un_b (by assumption) (by assumption) (by assumption)
    | exact un_c (by assumption) (by assumption) (by assumption)
    | exact un_d (by assumption) (by assumption) (by assumption)
    | exact un_e (by assumption) (by assumption) (by assumption)
end
end Mine

namespace Mine
local macro_rules | `(tactic| walk_at "mine enter") => `(tactic| (
  refine' enter_pure ‹Frag.In _ _› ‹Top _ _ _ _ _ _› ‹Below _ _ _ _› ?k6 ?k7 ?k8 ?k9 ?kB ?_ ?c2 ?c3 ?c4 ?c5
  case k6 => k_is
  case k7 => k_is
  case k8 => unfold recursionLimit; omega
  case k9 => exact BindsTo.of_eq rfl
  case kB => exact locs rfl
  case c2 => exact rfl
  case c3 => exact rfl
  case c4 => exact rfl
  case c5 => decide
  intro L' h' F' N' B' X' T'
  (try dsimp only)
  k_fold))


/-- a made list of natural numbers handed back -/
def RetNats (s : Shared) (ns : List Nat) (v : Value) (s' : Shared) : Prop :=
  ∃ l its n, v = .ref l ∧ s'.heap.get? l = some (W.listOf its n) ∧ IntsAre its.toList (ns.map fun (x : Nat) => (x : Int)) ∧ s.heap.get? l = none
def RetHeads (s : Shared) (v : Value) (s' : Shared) : Prop :=
  ∃ l a0 a1 a2 a3 t1 t2 t3 t4 t5 t6 n, v = .ref l ∧ s'.heap.get? l = some (W.listOf #[.ref a0, .ref a1, .ref a2, .ref a3] n) ∧ s'.heap.get? a0 = some (W.listOf #[] 0) ∧ s'.heap.get? a1 = some (W.listOf #[.int 16 t1] 0) ∧
    s'.heap.get? a2 = some (W.listOf #[.int 16 t2, .int 33 t3] 0) ∧ s'.heap.get? a3 = some (W.listOf #[.int 16 t4, .int 33 t5, .int 16 t6] 0) ∧ s.heap.get? l = none ∧ s.heap.get? a0 = none ∧ s.heap.get? a1 = none ∧ s.heap.get? a2 = none ∧ s.heap.get? a3 = none
theorem fresh_ne {h₀ h : Heap} {L a : Addr} {m : Str → Option Value} (F : Fr h₀ L h m) (e : h.get? a = none) : a ≠ L := by
  rintro rfl
  obtain ⟨o, _, _, ho, _⟩ := F.ns
  rw [e] at ho; cases ho
theorem fresh_old {h₀ h : Heap} {L a : Addr} {m : Str → Option Value} (F : Fr h₀ L h m) (e : h.get? a = none) : h₀.get? a = none := by
  cases q : h₀.get? a with
  | none => rfl
  | some o => have := F.keep a o q; rw [e] at this; cases this
theorem iac {n m : Int} {t : Tok} {vs : List Value} {ns : List Int} (h : n = m) (r : IntsAre vs ns) : IntsAre (.int n t :: vs) (m :: ns) := h ▸ .cons n t r
theorem fmodN (c k : Nat) : Int.fmod (c : Int) (k : Int) = ((c % k : Nat) : Int) := by
  rw [Int.fmod_eq_emod_of_nonneg _ (by omega)]; rfl
theorem fdivN (c k : Nat) : Int.fdiv (c : Int) (k : Int) = ((c / k : Nat) : Int) := by
  rw [Int.fdiv_eq_ediv_of_nonneg _ (by omega)]; rfl

theorem st_nil (x : Str) : Str.ofString "" ++ x = x := by
  rw [show Str.ofString "" = ⟨#[]⟩ from by decide +kernel]; obtain ⟨a⟩ := x
  show (⟨#[] ++ a⟩ : Str) = _
  rw [Array.empty_append]
theorem st_159 : Str.ofString "^\u009f" = Str.ofString "^" ++ (⟨#[159]⟩ : Str) := by decide +kernel
theorem any316 {c : Nat} (h : ([3, 16].any fun x => x == (c : Int)) = true) : c = 3 ∨ c = 16 := by
  simp only [List.any_cons, List.any_nil, Bool.or_false, Bool.or_eq_true, beq_iff_eq] at h; omega
theorem any316n {c : Nat} (h : ([3, 16].any fun x => x == (c : Int)) = false) : ¬ (c = 3 ∨ c = 16) := by
  simp only [List.any_cons, List.any_nil, Bool.or_false, Bool.or_eq_false_iff, beq_eq_false_iff_ne, ne_eq] at h; omega
def pt (q : Int) : Nat := let c := (q % 1112064).toNat; if c < 55296 then c else c + 2048
theorem pt_lt (q : Int) : pt q < 1114112 := by
  unfold pt; dsimp only; split <;> omega
theorem pt_sur (q : Int) : ¬ (55296 ≤ pt q ∧ pt q < 57344) := by
  unfold pt; dsimp only; split <;> omega
def spelledL (c : Nat) : List Nat := (if c < 128 then [] else [16, 33]) ++ (if 32 ≤ c % 128 ∧ c % 128 < 127 then [c % 128] else [16, (c % 128 + 64) % 128])
def headsL (k : Nat) : List Nat := match k with
  | 0 => []
  | 1 => [16]
  | 2 => [16, 33]
  | _ => [16, 33, 16]
def goodAt (k c : Nat) : Bool := match k with
  | 0 => decide ((32 ≤ c ∧ c < 127) ∨ c = 3 ∨ c = 16)
  | 1 => decide ((63 ≤ c ∧ c < 96) ∨ c = 33)
  | 2 => decide ((32 ≤ c ∧ c < 127) ∨ c = 16)
  | _ => decide (63 ≤ c ∧ c < 96)
def faultC (k c : Nat) : Nat := if goodAt k c then 26 else c
theorem faultC_of {k c : Nat} {P : Prop} [Decidable P] (h : goodAt k c = decide P) : (P ∧ faultC k c = 26) ∨ (¬ P ∧ faultC k c = c) := by
  unfold faultC
  rw [h]
  by_cases q : P
  · exact .inl ⟨q, by simp [q]⟩
  · exact .inr ⟨q, by simp [q]⟩
theorem fault0 (c : Nat) : (((32 ≤ c ∧ c < 127) ∨ c = 3 ∨ c = 16) ∧ faultC 0 c = 26) ∨ (¬ ((32 ≤ c ∧ c < 127) ∨ c = 3 ∨ c = 16) ∧ faultC 0 c = c) := faultC_of rfl
theorem fault1 (c : Nat) : (((63 ≤ c ∧ c < 96) ∨ c = 33) ∧ faultC 1 c = 26) ∨ (¬ ((63 ≤ c ∧ c < 96) ∨ c = 33) ∧ faultC 1 c = c) := faultC_of rfl
theorem fault2 (c : Nat) : (((32 ≤ c ∧ c < 127) ∨ c = 16) ∧ faultC 2 c = 26) ∨ (¬ ((32 ≤ c ∧ c < 127) ∨ c = 16) ∧ faultC 2 c = c) := faultC_of rfl
theorem fault3 (c : Nat) : ((63 ≤ c ∧ c < 96) ∧ faultC 3 c = 26) ∨ (¬ (63 ≤ c ∧ c < 96) ∧ faultC 3 c = c) := faultC_of rfl
def faultL (k c : Nat) : List Nat := headsL k ++ [faultC k c]

section
variable {c : Nat}
theorem sw_m (c : Nat) : (c : Int).fmod 128 = ((c % 128 : Nat) : Int) := fmodN c 128
theorem sw_q (c : Nat) : ((c : Int).fdiv 128).fmod 2 = ((c / 128 % 2 : Nat) : Int) := by rw [show (c : Int).fdiv 128 = ((c / 128 : Nat) : Int) from fdivN c 128]; exact fmodN (c / 128) 2
theorem sw_h {c : Nat} (h : ((c : Int).fdiv 128).fmod 2 = 1) : c / 128 % 2 * 128 ≠ 0 := by rw [sw_q] at h; omega
theorem sw_z {c : Nat} (h : ((c : Int).fdiv 128).fmod 2 ≠ 1) : c / 128 % 2 * 128 = 0 := by rw [sw_q] at h; omega
theorem sw_p {c : Nat} (h2 : 32 ≤ (c : Int).fmod 128) (h3 : (c : Int).fmod 128 < 127) : 32 ≤ c % 128 ∧ c % 128 ≤ 126 := by rw [sw_m] at h2 h3; omega
theorem sw_n {c : Nat} (h2 : (c : Int).fmod 128 = 127) : ¬ (32 ≤ c % 128 ∧ c % 128 ≤ 126) := by rw [sw_m] at h2; omega
theorem sw_l {c : Nat} (h2 : ¬ 32 ≤ (c : Int).fmod 128) : ¬ (32 ≤ c % 128 ∧ c % 128 ≤ 126) := by rw [sw_m] at h2; omega
theorem sw_no1 (h2 : 32 ≤ (c : Int).fmod 128) (h3 : ¬ (c : Int).fmod 128 < 127) (h4 : (c : Int).fmod 128 ≠ 127) : False := by rw [sw_m] at h2 h3 h4; omega
theorem sw_no2 (h2 : ¬ 32 ≤ (c : Int).fmod 128) (h4 : (c : Int).fmod 128 = 127) : False := by omega
theorem sw_no3 (h2 : (c : Int) = 127) (h4 : ((c : Int).fdiv 128).fmod 2 = 1) : False := by have := sw_h h4; omega
theorem sw_v (c : Nat) : ((c : Int).fmod 128).toNat = c % 128 := by rw [sw_m]; rfl
theorem sw_u {c : Nat} (h2 : ¬ 32 ≤ (c : Int).fmod 128) : ((c : Int).fmod 128 + 64).toNat = if c % 128 = 127 then 159 else c % 128 + 64 := by rw [sw_m] at h2 ⊢; split <;> omega
theorem sw_t {c : Nat} (h2 : (c : Int).fmod 128 = 127) : 159 = if c % 128 = 127 then 159 else c % 128 + 64 := by rw [sw_m] at h2; rw [if_pos (by omega)]
theorem sw_b (h1 : (c : Int) ≠ 127) (h2 : 32 ≤ (c : Int).fmod 128) (h3 : (c : Int).fmod 128 < 127) (h4 : ((c : Int).fdiv 128).fmod 2 = 1) : Str.ofString "!" ++ (⟨#[((c : Int).fmod 128).toNat]⟩ : Str) = shown c := sh_b h1 (sw_p h2 h3) (sw_h h4) (sw_v c)
theorem sw_c (h1 : (c : Int) ≠ 127) (h2 : 32 ≤ (c : Int).fmod 128) (h3 : (c : Int).fmod 128 < 127) (h4 : ((c : Int).fdiv 128).fmod 2 ≠ 1) : (⟨#[((c : Int).fmod 128).toNat]⟩ : Str) = shown c := sh_c h1 (sw_p h2 h3) (sw_z h4) (sw_v c)
theorem sw_d9 (h1 : (c : Int) ≠ 127) (h2 : (c : Int).fmod 128 = 127) (h4 : ((c : Int).fdiv 128).fmod 2 = 1) : Str.ofString "!" ++ Str.ofString "^\u009f" = shown c := by rw [st_159]; exact sh_d h1 (sw_n h2) (sw_h h4) (sw_t h2)
theorem sw_e9 (h1 : (c : Int) ≠ 127) (h2 : (c : Int).fmod 128 = 127) (h4 : ((c : Int).fdiv 128).fmod 2 ≠ 1) : Str.ofString "^\u009f" = shown c := by rw [st_159]; exact sh_e h1 (sw_n h2) (sw_z h4) (sw_t h2)
theorem sw_d (h1 : (c : Int) ≠ 127) (h2 : ¬ 32 ≤ (c : Int).fmod 128) (h4 : ((c : Int).fdiv 128).fmod 2 = 1) : Str.ofString "!" ++ (Str.ofString "^" ++ (⟨#[((c : Int).fmod 128 + 64).toNat]⟩ : Str)) = shown c := sh_d h1 (sw_l h2) (sw_h h4) (sw_u h2)
theorem sw_e (h1 : (c : Int) ≠ 127) (h2 : ¬ 32 ≤ (c : Int).fmod 128) (h4 : ((c : Int).fdiv 128).fmod 2 ≠ 1) : Str.ofString "^" ++ (⟨#[((c : Int).fmod 128 + 64).toNat]⟩ : Str) = shown c := sh_e h1 (sw_l h2) (sw_z h4) (sw_u h2)
theorem sp_row {t : Tok} (h2 : 32 ≤ (c : Int).fmod 128) (h3 : (c : Int).fmod 128 < 127) : IntsAre [.int ((c : Int).fmod 128) t] ((if 32 ≤ c % 128 ∧ c % 128 < 127 then [c % 128] else [16, (c % 128 + 64) % 128]).map fun (x : Nat) => (x : Int)) := by
  rw [if_pos (by have := sw_p h2 h3; omega)]; exact iac (sw_m c) .nil
theorem sp_two {t u : Tok} (h : ¬ (32 ≤ c % 128 ∧ c % 128 < 127)) : IntsAre [.int 16 u, .int (((c : Int).fmod 128 + 64).fmod 128) t] ((if 32 ≤ c % 128 ∧ c % 128 < 127 then [c % 128] else [16, (c % 128 + 64) % 128]).map fun (x : Nat) => (x : Int)) := by
  rw [if_neg h]; exact iac rfl (iac (by rw [sw_m]; exact fmodN (c % 128 + 64) 128) .nil)
theorem sp_lo {vs : List Value} {row : List Nat} (h : (c : Int) < 128) (hr : IntsAre vs (row.map fun (x : Nat) => (x : Int))) : IntsAre vs (((if c < 128 then [] else [16, 33]) ++ row).map fun (x : Nat) => (x : Int)) := by
  rw [if_pos (by omega)]; exact hr
theorem sp_hi {vs : List Value} {row : List Nat} {t u : Tok} (h : ¬ (c : Int) < 128) (hr : IntsAre vs (row.map fun (x : Nat) => (x : Int))) : IntsAre (.int 16 t :: .int 33 u :: vs) (((if c < 128 then [] else [16, 33]) ++ row).map fun (x : Nat) => (x : Int)) := by
  rw [if_neg (by omega)]; exact iac rfl (iac rfl hr)
theorem spl_n1 (h2 : 32 ≤ (c : Int).fmod 128) (h3 : ¬ (c : Int).fmod 128 < 127) : ¬ (32 ≤ c % 128 ∧ c % 128 < 127) := by rw [sw_m] at h3; omega
theorem spl_n2 (h2 : ¬ 32 ≤ (c : Int).fmod 128) : ¬ (32 ≤ c % 128 ∧ c % 128 < 127) := by rw [sw_m] at h2; omega
theorem pt_a {q : Int} (h : q.fmod 1112064 < 55296) : q.fmod 1112064 = (pt q : Int) := by
  rw [show q.fmod 1112064 = q % 1112064 from Int.fmod_eq_emod_of_nonneg _ (by omega)] at h ⊢
  unfold pt; dsimp only; split <;> omega
theorem pt_b {q : Int} (h : ¬ q.fmod 1112064 < 55296) : q.fmod 1112064 + 2048 = (pt q : Int) := by
  rw [show q.fmod 1112064 = q % 1112064 from Int.fmod_eq_emod_of_nonneg _ (by omega)] at h ⊢
  unfold pt; dsimp only; split <;> omega
end
section
variable {w : World} {A : Around} {b0 : Heap} {outer : List Env} {s : Shared} {p : Program} {loose : List Str} {mean : ExcName → Option Value} {mg mb : Str → Option Value}
variable (X : (hd.heap_39 w.params).In b0) (T : Top p loose mean mg mb b0) (B : Below A b0 outer s.heap)
include X T B
theorem point_spec (hD : A.depth ≤ 900) (q : Int) (t : Tok) :
    codeAny (model PySem.Challenge.rw_nq0018_01.row.prog w) A (.call (.ref 65) ⟨[.int q t], []⟩) (Post fun v s' => (∃ t', v = .int (pt q : Nat) t') ∧ Keeps s s') s := by
  revert X
  k_fill
  intro X
  walk_at "mine enter"
  k_steps
  all_goals refine keep_end (by assumption) ⟨_, congrArg (fun x => Value.int x _) ?_⟩
  all_goals first | exact pt_a (by assumption) | exact pt_b (by assumption)
theorem spelled_spec (hD : A.depth ≤ 900) (c : Nat) (hc : c < 256) (t : Tok) :
    codeAny (model PySem.Challenge.rw_nq0018_01.row.prog w) A (.call (.ref 72) ⟨[.int c t], []⟩) (Post fun v s' => RetNats s (spelledL c) v s' ∧ Keeps s s') s := by
  revert X
  k_fill
  intro X
  walk_at "mine enter"
  k_steps
  all_goals refine keep_end (by assumption) ⟨_, _, _, rfl, (‹News _ _ _ _›.get (by k_mem)), ?_, (‹News _ _ _ _›.fresh (by k_mem))⟩
  all_goals first
    | exact sp_lo (by assumption) (sp_row (by assumption) (by assumption))
    | exact sp_hi (by assumption) (sp_row (by assumption) (by assumption))
    | exact sp_lo (by assumption) (sp_two (spl_n1 (by assumption) (by assumption)))
    | exact sp_hi (by assumption) (sp_two (spl_n1 (by assumption) (by assumption)))
    | exact sp_lo (by assumption) (sp_two (spl_n2 (by assumption)))
    | exact sp_hi (by assumption) (sp_two (spl_n2 (by assumption)))
theorem shown_spec (hD : A.depth ≤ 900) (c : Nat) (t : Tok) :
    codeAny (model PySem.Challenge.rw_nq0018_01.row.prog w) A (.call (.ref 79) ⟨[.int c t], []⟩) (Post fun v s' => (∃ t', v = .str (shown c) t') ∧ Keeps s s') s := by
  revert X
  k_fill
  intro X
  have e1 := sw_m c
  walk_at "mine enter"
  k_steps
  all_goals refine keep_end (by assumption) ⟨_, congrArg (fun x => Value.str x _) ?_⟩
  all_goals (try rw [st_nil])
  all_goals first
    | exact (sw_no3 (by assumption) (by assumption)).elim
    | exact (sw_no1 (by assumption) (by assumption) (by assumption)).elim
    | exact (sw_no2 (by assumption) (by assumption)).elim
    | exact sh_a (by assumption)
    | exact sw_b (by assumption) (by assumption) (by assumption) (by assumption)
    | exact sw_c (by assumption) (by assumption) (by assumption) (by assumption)
    | exact sw_d9 (by assumption) (by assumption) (by assumption)
    | exact sw_e9 (by assumption) (by assumption) (by assumption)
    | exact sw_d (by assumption) (by assumption) (by assumption)
    | exact sw_e (by assumption) (by assumption) (by assumption)
theorem heads_spec (hD : A.depth ≤ 900) :
    codeAny (model PySem.Challenge.rw_nq0018_01.row.prog w) A (.call (.ref 86) ⟨[], []⟩) (Post fun v s' => RetHeads s v s' ∧ Keeps s s') s := by
  revert X
  k_fill
  intro X
  walk_at "mine enter"
  k_steps
  all_goals exact keep_end (by assumption) ⟨_, _, _, _, _, _, _, _, _, _, _, _, rfl, (‹News _ _ _ _›.get (by k_mem)), (‹News _ _ _ _›.get (by k_mem)), (‹News _ _ _ _›.get (by k_mem)), (‹News _ _ _ _›.get (by k_mem)), (‹News _ _ _ _›.get (by k_mem)), (‹News _ _ _ _›.fresh (by k_mem)), (‹News _ _ _ _›.fresh (by k_mem)), (‹News _ _ _ _›.fresh (by k_mem)), (‹News _ _ _ _›.fresh (by k_mem)), (‹News _ _ _ _›.fresh (by k_mem))⟩
end
section
variable {w : World} {A : Around} {b0 h₀ : Heap} {outer : List Env} {s : Shared} {p : Program} {loose : List Str} {mean : ExcName → Option Value} {mg mb : Str → Option Value}
  {L : Addr} {m : Str → Option Value} {news : List (Addr × Obj)} {env : Env} {E : Value → Shared → Prop} {Q : Value → Shared → Prop}
theorem use_heads (X : (hd.heap_39 w.params).In b0) (T : Top p loose mean mg mb b0) (B : Below A b0 outer h₀) (F : Fr h₀ L s.heap m) (N : News h₀ L s.heap news) (hD : A.depth ≤ 899)
    (h : ∀ l a0 a1 a2 a3 t1 t2 t3 t4 t5 t6 n h' tk, Fr h₀ L h' m → News h₀ L h' ((l, W.listOf #[.ref a0, .ref a1, .ref a2, .ref a3] n) :: (a0, W.listOf #[] 0) :: (a1, W.listOf #[.int 16 t1] 0) :: (a2, W.listOf #[.int 16 t2, .int 33 t3] 0) :: (a3, W.listOf #[.int 16 t4, .int 33 t5, .int 16 t6] 0) :: news) → Q (.ref l) { s with heap := h', toks := tk }) (hf : env.frame = some L) (hke : env.scope.kind = .function) :
    wpAny (model PySem.Challenge.rw_nq0018_01.row.prog w) (A.deeper env) (call (.ref 86) []) Q E s :=
  use_pure B F N hf hke (fun B' => heads_spec X T B' (by rw [depth_deeper]; omega)) fun v h' tk hv F' N' _ => by
    obtain ⟨l, a0, a1, a2, a3, t1, t2, t3, t4, t5, t6, n, rfl, g, g0, g1, g2, g3, f, f0, f1, f2, f3⟩ := hv
    refine h l a0 a1 a2 a3 t1 t2 t3 t4 t5 t6 n h' tk F' fun q hq => ?_
    have one : ∀ {a : Addr} {o : Obj}, h'.get? a = some o → s.heap.get? a = none → h'.get? a = some o ∧ a ≠ L ∧ h₀.get? a = none := fun {a o} e e' => ⟨e, fresh_ne F e', fresh_old F e'⟩
    simp only [List.mem_cons] at hq
    rcases hq with rfl | rfl | rfl | rfl | rfl | hq
    · exact one g f
    · exact one g0 f0
    · exact one g1 f1
    · exact one g2 f2
    · exact one g3 f3
    · exact N' q hq
end
local macro_rules | `(tactic| walk_at "call ref") => `(tactic| (k_here; (with_reducible show wpAny _ _ (call (Value.ref 86) _) _ _ _); refine' use_heads ?kX ?kT ?kB ?kF ?kN ?kD ?_ ?kf ?kk; (case kf => exact rfl); (case kk => exact rfl); (case kB => k_asm); (case kX => k_asm); (case kT => k_asm); (case kF => k_asm); (case kN => k_asm); (case kD => omega); k_whole; intro l' a0' a1' a2' a3' t1' t2' t3' t4' t5' t6' n' h' tk' F' N'; (try k_sweep)))
section
variable {k c : Nat} {v : Int} {t t1 t2 t3 : Tok}
theorem fe0 (hk : k = 0) (e : v = (faultC 0 c : Int)) : IntsAre [.int v t] ((faultL k c).map fun (x : Nat) => (x : Int)) := by subst hk; exact iac e .nil
theorem fe1 (hk : k = 1) (e : v = (faultC 1 c : Int)) : IntsAre [.int 16 t1, .int v t] ((faultL k c).map fun (x : Nat) => (x : Int)) := by subst hk; exact iac rfl (iac e .nil)
theorem fe2 (hk : k = 2) (e : v = (faultC 2 c : Int)) : IntsAre [.int 16 t1, .int 33 t2, .int v t] ((faultL k c).map fun (x : Nat) => (x : Int)) := by subst hk; exact iac rfl (iac rfl (iac e .nil))
theorem fe3 (hk : k = 3) (e : v = (faultC 3 c : Int)) : IntsAre [.int 16 t1, .int 33 t2, .int 16 t3, .int v t] ((faultL k c).map fun (x : Nat) => (x : Int)) := by subst hk; exact iac rfl (iac rfl (iac rfl (iac e .nil)))
theorem v0g1 (h : 32 ≤ (c : Int) ∧ (c : Int) < 127) : (26 : Int) = (faultC 0 c : Int) := by have := fault0 c; omega
theorem v0g2 (h : ([3, 16].any fun x => x == (c : Int)) = true) : (26 : Int) = (faultC 0 c : Int) := by have := fault0 c; have := any316 h; omega
theorem v0b (h : ¬ (32 ≤ (c : Int) ∧ (c : Int) < 127)) (h2 : ([3, 16].any fun x => x == (c : Int)) = false) : (c : Int) = (faultC 0 c : Int) := by have := fault0 c; have := any316n h2; omega
theorem v1g1 (h : 63 ≤ (c : Int) ∧ (c : Int) < 96) : (26 : Int) = (faultC 1 c : Int) := by have := fault1 c; omega
theorem v1g2 (h : (c : Int) = 33) : (26 : Int) = (faultC 1 c : Int) := by have := fault1 c; omega
theorem v1b (h : ¬ (63 ≤ (c : Int) ∧ (c : Int) < 96)) (h2 : (c : Int) ≠ 33) : (c : Int) = (faultC 1 c : Int) := by have := fault1 c; omega
theorem v1c (h : ¬ (32 ≤ (c : Int) ∧ (c : Int) < 127)) : (c : Int) = (faultC 1 c : Int) := by have := fault1 c; omega
theorem v3c (h : ¬ (32 ≤ (c : Int) ∧ (c : Int) < 127)) : (c : Int) = (faultC 3 c : Int) := by have := fault3 c; omega
theorem v2g1 (h : 32 ≤ (c : Int) ∧ (c : Int) < 127) : (26 : Int) = (faultC 2 c : Int) := by have := fault2 c; omega
theorem v2g2 (h : (c : Int) = 16) : (26 : Int) = (faultC 2 c : Int) := by have := fault2 c; omega
theorem v2b (h : ¬ (32 ≤ (c : Int) ∧ (c : Int) < 127)) (h2 : (c : Int) ≠ 16) : (c : Int) = (faultC 2 c : Int) := by have := fault2 c; omega
theorem v3g (h : 63 ≤ (c : Int) ∧ (c : Int) < 96) : (26 : Int) = (faultC 3 c : Int) := by have := fault3 c; omega
theorem v3b (h : ¬ (63 ≤ (c : Int) ∧ (c : Int) < 96)) : (c : Int) = (faultC 3 c : Int) := by have := fault3 c; omega
end
theorem chain_in {prog : Program} {w : World} {A : Around} {E : Value → Shared → Prop} {s : Shared} {h₀ : Heap} {L : Addr} {m : Str → Option Value} {env : Env} {x : Str} {lo hi c : Int} {t : Tok} {k1 k2 : Nat} {p1 p2 p3 pos : Pos} {Q : Value → Shared → Prop}
    (F : Fr h₀ L s.heap m) (hv : m x = some (.int c t)) (h : ∀ tk, Q (.bool (decide (lo ≤ c ∧ c < hi))) { s with toks := tk })
    (hlo : env.locals = L) (hk : env.scope.kind = .function) (hx : env.kindOf x = some .local) (hd : (x == ("__debug__" : Str)) = false) :
    wpAny (model prog w) A (eval (.Compare (.Constant (.int lo) k1 p1) [.LtE, .Lt] [.Name x p2, .Constant (.int hi) k2 p3] pos) env) Q E s := by
  subst hlo
  refine Compare_chain (wpAny_Constant_int ?_) rfl
  refine chain_link (wpAny_Name (wpAny_loadName_local hk hx F.ns hv ?_) hd)
  refine P.le_int ?_
  refine wpAny_truthy_bool ?_
  by_cases h1 : lo ≤ c
  · rw [decide_eq_true h1, if_pos rfl]
    refine chain_last (wpAny_Constant_int (PyProof.Rows.lt_int ?_))
    have e : decide (c < hi) = decide (lo ≤ c ∧ c < hi) := by rw [decide_eq_decide]; exact ⟨fun q => ⟨h1, q⟩, fun q => q.2⟩
    rw [e]; exact h _
  · rw [decide_eq_false h1, if_neg Bool.false_ne_true]
    have e : false = decide (lo ≤ c ∧ c < hi) := (decide_eq_false fun q => h1 q.1).symm
    rw [e]; exact h _
local macro_rules | `(tactic| walk_at "eval Compare") => `(tactic| (k_here; k_dflt (refine' chain_in ?F ?v ?_ ?a ?b ?c ?d; (case F => k_asm); (case v => exact rfl); (case a => exact rfl); (case b => exact rfl); (case c => exact rfl); (case d => decide); k_whole; intro tk')))
local macro_rules | `(tactic| walk_at "subscriptTail") => `(tactic| (k_here; (rename (_ = 0 ∨ _ = 1 ∨ _ = 2 ∨ _ = 3) => h49); rcases h49 with h49 | h49 | h49 | h49 <;> subst h49))
section
variable {w : World} {A : Around} {b0 : Heap} {outer : List Env} {s : Shared} {p : Program} {loose : List Str} {mean : ExcName → Option Value} {mg mb : Str → Option Value}
variable (X : (hd.heap_39 w.params).In b0) (T : Top p loose mean mg mb b0) (B : Below A b0 outer s.heap)
include X T B
theorem fault_spec (hD : A.depth ≤ 890) (k c : Nat) (hk : k < 4) (t u : Tok) :
    codeAny (model PySem.Challenge.rw_nq0018_01.row.prog w) A (.call (.ref 93) ⟨[.int k u, .int c t], []⟩) (Post fun v s' => RetNats s (faultL k c) v s' ∧ Keeps s s') s := by
  revert X
  k_fill
  intro X
  have h49 : k = 0 ∨ k = 1 ∨ k = 2 ∨ k = 3 := by omega
  clear hk
  walk_at "mine enter"
  k_steps
  all_goals refine keep_end (by assumption) ⟨_, _, _, rfl, (‹News _ _ _ _›.get (by k_mem)), ?_, (‹News _ _ _ _›.fresh (by k_mem))⟩
  all_goals first
    | exact fe0 rfl (v0g1 (by assumption))
    | exact fe0 rfl (v0g2 (by assumption))
    | exact fe0 rfl (v0b (by assumption) (by assumption))
    | exact fe1 rfl (v1g1 (by assumption))
    | exact fe1 rfl (v1g2 (by assumption))
    | exact fe1 rfl (v1b (by assumption) (by assumption))
    | exact fe2 rfl (v2g1 (by assumption))
    | exact fe2 rfl (v2g2 (by assumption))
    | exact fe2 rfl (v2b (by assumption) (by assumption))
    | exact fe3 rfl (v3g (by assumption))
    | exact fe3 rfl (v3b (by assumption))
    | exact fe1 rfl (v1c (by assumption))
    | exact fe3 rfl (v3c (by assumption))
end
end Mine

namespace Mine

theorem elt_call {prog : Program} {w : World} {A : Around} {cenv : Env} {E : Value → Shared → Prop} {s : Shared} {K : Frag} {mg m : Str → Option Value} {fn x : Str} {p1 p2 p3 : Pos} {fa : Addr} {v : Value} {P : Value → Prop}
    (hk : cenv.scope.kind = .function) (hfn : cenv.kindOf fn = some .globalImplicit) (hx : cenv.kindOf x = some .local) (hg : cenv.globals = mainGlobals)
    (X : K.In s.heap) (G : s.heap.Ns mainGlobals mg) (e : nsIn K mainGlobals fn = some (some (.ref fa))) (hkeep : keepIn K (.ref fa) = true) (hn : s.heap.Ns cenv.locals m) (hv : m x = some v)
    (spec : codeAny (model prog w) A (.call (.ref fa) ⟨[v], []⟩) (Post fun y s' => P y ∧ Keeps s s') s)
    (hd1 : (fn == ("__debug__" : Str)) = false) (hd2 : (x == ("__debug__" : Str)) = false) :
    wpAny (model prog w) A (eval (.Call (.Name fn p1) [.Name x p2] [] p3) cenv) (fun y s' => P y ∧ Keeps s s') E s := by
  refine Call_ (Name_function_global hk hfn (loadGlobal_global (by rw [hg]; exact G) (mg_of X G e) ?_) hd1)
  refine callWith_K (K := K) X hkeep ?_
  refine spliced_more (wpAny_Name (wpAny_loadName_local hk hx hn hv ?_) hd2)
  refine spliced_none ⟨X, ?_⟩
  refine wpAny_call (codeAny_mono spec fun r s' hr => ?_)
  obtain ⟨y, rfl, hy⟩ := hr.out
  exact hy

/-- what stands behind a comprehension's source -/
structure CompAt (prog : Program) (w : World) (A : Around) (b0 : Heap) (outer : List Env) (env : Env) (fa : Addr) (G : Value → Value → Prop) (Q : Value → Shared → Prop) (xv : Value) (s₁ : Shared) : Prop where
  out : ∃ h₀ L m news l its, xv = .ref l ∧ Below A b0 outer h₀ ∧ Fr h₀ L s₁.heap m ∧ News h₀ L s₁.heap news ∧ env.frame = some L ∧ s₁.heap.IsList l its ∧ its.size ≤ sizeLine ∧
    (∀ v ∈ its, ∀ s₃ : Shared, Below (A.deeper env) b0 (env :: outer) s₃.heap → codeAny (model prog w) (A.deeper env) (.call (.ref fa) ⟨[v], []⟩) (Post fun y s' => G v y ∧ Keeps s₃ s') s₃) ∧
    (∀ D ys n h' tk, Fr h₀ L h' m → News h₀ L h' ((D, W.listOf ys n) :: news) → (∀ p ∈ news, p.1 ≠ D) → Paired G its.toList ys.toList → Q (.ref D) { s₁ with heap := h', toks := tk })

theorem list_of_idx {its : Array Value} {vs : List Value} (hlen : vs.length = its.size) (hP : ∀ (j : Nat) v, vs[j]? = some v → its[j]? = some v) : vs = its.toList := by
  apply List.ext_getElem?
  intro i
  cases h : vs[i]? with
  | some v => rw [Array.getElem?_toList]; exact (hP i v h).symm
  | none =>
    have h1 : vs.length ≤ i := by simpa using h
    rw [Array.getElem?_toList]
    exact (Array.getElem?_eq_none (by omega)).symm

theorem comp_call {prog : Program} {w : World} {A : Around} {b0 : Heap} {outer : List Env} {s : Shared} {p : Program} {loose : List Str} {mean : ExcName → Option Value} {mg mb : Str → Option Value} {K : Frag} {env : Env} {E : Value → Shared → Prop} {Q : Value → Shared → Prop}
    {fn x : Str} {p1 p2 p3 px pos : Pos} {iter : Expr} {scope : Scope} {fa : Addr} {h₉ : Heap} (G : Value → Value → Prop) (_B : Below A b0 outer h₉)
    (X : K.In b0) (T : Top p loose mean mg mb b0) (hh : A.handled = none) (hke : env.scope.kind = .function) (hge : env.globals = mainGlobals)
    (hclos : closureFor scope env = pure []) (hcell : ∀ y ∈ scope.names, y.2 ≠ .cell) (hkind : scope.kind = .function)
    (hnames : ∀ y ∈ scope.names, y.2 = .local → scope.names.lookup y.1 = some .local) (hx : scope.names.lookup x = some .local)
    (hfn : ∀ C, (compEnvC scope [] C env).kindOf fn = some .globalImplicit) (hxk : ∀ C, (compEnvC scope [] C env).kindOf x = some .local)
    (e : nsIn K mainGlobals fn = some (some (.ref fa))) (hkeep : keepIn K (.ref fa) = true)
    (h : wpAny (model prog w) (A.deeper env) (eval iter env) (fun xv s₁ => CompAt prog w A b0 outer env fa G Q xv s₁) E s)
    (hs : ∀ x, foldedSetIterable iter env x = pure x) (hd1 : (fn == ("__debug__" : Str)) = false) (hd2 : (x == ("__debug__" : Str)) = false) :
    wpAny (model prog w) (A.deeper env) (eval (.ListComp (.Call (.Name fn p1) [.Name x p2] [] p3) [⟨.Name x px, iter, [], 0⟩] scope pos) env) Q E s := by
  refine wpAny_ListComp_free (fun _ => true) G hclos hcell hkind hnames hx (wpAny_mono h (fun xv s₁ h₁ => ?_) fun _ _ y => y) hs
  obtain ⟨h₀, L, m, news, l, its, rfl, B, F, N, hf, hl, hz, spec, hQ⟩ := h₁.out
  have hne : l ≠ s₁.heap.objs.size := by
    obtain ⟨o, ho, _⟩ := hl
    exact Nat.ne_of_lt (Heap.lt_size ho)
  refine wpAny_pyIter_list hl ?_
  have old : ∀ b o, s₁.heap.get? b = some o → (s₁.heap.push { cls := .type "list_iterator", data := .fields #[.ref l, .int 0 0] }).get? b = some o := fun b o e => Heap.get?_push_of_some _ e
  have B₁ := pushX B F hf hke
  refine ⟨s₁.heap.objs.size, _, _, its.size, _, _, rfl, Walks.list (A := A.deeper env) hh s₁.heap.objs.size l hne its, hz, ⟨⟨_, Heap.get?_push_size _ rfl, rfl, rfl⟩, hl.at fun o e => old _ _ e⟩, ?_, ⟨?_, ?_⟩, ?_⟩
  · intro b hb
    simp only [List.mem_cons, List.not_mem_nil, or_false] at hb
    rw [Heap.size_push]
    rcases hb with rfl | rfl
    · exact Nat.lt_succ_self _
    · obtain ⟨o, ho, _⟩ := hl
      exact Nat.lt_succ_of_lt (Heap.lt_size ho)
  · intro C i v s₃ m₃ E' _ _ _ _ _ _
    exact wpAny_tests_nil ⟨rfl, s₃.heap, s₃.toks, rfl, fun _ _ e => e⟩
  · intro C i v s₃ m₃ E' _ hv _ hn hm hk _
    have k3 : ∀ b o, s₁.heap.get? b = some o → s₃.heap.get? b = some o := fun b o e' => hk b o (fun hb => by
      have := List.mem_singleton.mp hb
      exact absurd (Heap.lt_size e') (this ▸ Nat.lt_irrefl _)) (old b o e')
    have hmem : v ∈ its := by obtain ⟨h1, rfl⟩ := Array.getElem?_eq_some_iff.mp hv; exact Array.getElem_mem h1
    have B₃ : Below (A.deeper env) b0 (env :: outer) s₃.heap := ⟨B₁.stack, fun b o e' => k3 b o (B₁.stays b o e'), B₁.frames.of_keeps fun b o e' _ => ⟨o, k3 b o e', rfl⟩⟩
    exact elt_call (K := K) (mg := mg) (P := G v) (by show (relabel scope env).kind = _; exact hkind) (hfn C) (hxk C) hge (X.keeps B₃.stays) (T.g.keeps B₃.stays) e hkeep hn hm (spec v hmem s₃ B₃) hd1 hd2
  · intro D h' tk ys vs hD hlD hpl hlen hP hF hk
    have hvs : vs = its.toList := list_of_idx hlen hP
    have hfil : vs.filter (fun _ => true) = vs := List.filter_eq_self.mpr fun _ _ => rfl
    rw [hfil, hvs] at hF
    have k' : ∀ b o, s₁.heap.get? b = some o → h'.get? b = some o := fun b o e' => hk b o (fun hb => by
      have := List.mem_singleton.mp hb
      exact absurd (Heap.lt_size e') (this ▸ Nat.lt_irrefl _)) (old b o e')
    have hDn : s₁.heap.get? D = none := by
      cases q : s₁.heap.get? D with
      | none => rfl
      | some o => have := old D o q; rw [hD] at this; cases this
    obtain ⟨n, hn⟩ := hpl
    refine hQ D ys n h' tk (Fr.keepsTo F k') (fun q hq => ?_) (fun q hq e' => ?_) hF
    · rcases List.mem_cons.mp hq with rfl | hq
      · exact ⟨hn, fresh_ne F hDn, fresh_old F hDn⟩
      · exact News.keepsTo N k' q hq
    · have := (N q hq).1
      rw [e', hDn] at this; cases this
end Mine

namespace Mine

theorem of_lookup {K : Frag} {a : Addr} {o o' : Obj} (h : K.lookup a = some o) (e : K.lookup a = some o') : o' = o := Option.some.inj (e.symm.trans h)

theorem enter_clos {prog : Program} {w : World} {A : Around} {b0 : Heap} {outer : List Env} {s : Shared} {p : Program} {loose : List Str} {mean : ExcName → Option Value} {mg mb : Str → Option Value}
    {K : Frag} {R : Result → Shared → Prop} {name qual : Str} {params : Arguments} {body : List Stmt} {scope : Scope} {cl : List (Str × Addr)} {dV kV doc pm cdv ct : Value} {an : Option Addr} {fo : Obj} {f : Addr} {args : Args} {binds : List (Str × Value)}
    (muts : List (Addr × Obj)) (hm : ∀ q ∈ muts, s.heap.get? q.1 = some q.2 ∧ b0.get? q.1 = none) (hfr : ∀ env ∈ outer, ∀ a ∈ muts.map (·.1), env.frame ≠ some a)
    (X : K.In b0) (T : Top p loose mean mg mb b0) (B : Below A b0 outer s.heap)
    (ho : s.heap.get? f = some fo) (hd : fo.data = .func (fnX name qual params body scope cl dV kV doc pm an cdv ct)) (hcd : s.heap.CodeRec cdv qual) (hroom : A.depth < recursionLimit)
    (hbind : BindsTo s (fnX name qual params body scope cl dV kV doc pm an cdv ct) args binds) (hloc : ∀ y ∈ binds, scope.names.lookup y.1 = some .local)
    (h : ∀ g L' h₁, GoesOn (muts.map (·.1)) s.heap g → Fr g L' h₁ (fun y => binds.reverse.lookup y) → News g L' h₁ muts → Below A b0 outer g → K.In g → Top p loose mean mg mb g → (∀ q ∈ muts, q.1 < L') →
      wpAny (model prog w) (A.deeper (envX qual scope L' f cdv cl)) (execs body (envX qual scope L' f cdv cl))
        (fun fl s' => R (.ok (.ret (match fl with | .ret v => v | _ => .none))) s')
        (fun e s' => wpAny (model prog w) (A.deeper (envX qual scope L' f cdv cl)) (leaving (envX qual scope L' f cdv cl) e) (fun _ s'' => R (.error e) s'') (fun e' s'' => R (.error e') s'') s')
        { s with heap := h₁, toks := s.toks + binds.length })
    (hco : scope.isCoroutine = false) (hgen : scope.isGenerator = false) (hk : scope.kind = .function)
    (hcell : ∀ x ∈ scope.names, x.2 ≠ .cell) : codeAny (model prog w) A (.call (.ref f) args) R s := by
  have T' := T.keeps B.stays
  have st : b0.StaysIn (hideAll s.heap (muts.map (·.1))) := fun b o e => hideAll_get _ (B.stays b o e) fun q => by
    obtain ⟨r, hr, rfl⟩ := List.mem_map.mp q
    rw [(hm r hr).2] at e; cases e
  have B' : Below A b0 outer (hideAll s.heap (muts.map (·.1))) := ⟨B.stack, st, funFrames_hideAll B.frames hfr⟩
  refine codeAny_call_def (fd := fnX name qual params body scope cl dV kV doc pm an cdv ct) (body := body) (binds := binds) hroom ho hd T'.nolimit hcd rfl hbind hcell hloc (fun h₁ hns hk₁ => ?_) hco hgen hk
  exact h _ s.heap.objs.size h₁ (fun b o hb e => hideAll_get _ e hb) ⟨hns, fun b o e => hk₁ b o (of_hideAll _ e), Nat.le_of_eq (hideAll_size _ _)⟩
    (fun q hq => ⟨hk₁ _ _ (hm q hq).1, Nat.ne_of_lt (Heap.lt_size (hm q hq).1), hideAll_none _ (List.mem_map_of_mem hq)⟩) B' (X.keeps st) (T.keeps st) (fun q hq => Heap.lt_size (hm q hq).1)


def StepAt (K : Frag) (params : Arguments) (body : List Stmt) (scope : Scope) : Prop :=
  ∃ oc od n q ps pos rest sc dV kV doc pm an cdv ct osl, K.lookup 105 = some ⟨oc, od, .func (fnOf n q ps (.FunctionDef (Str.ofString "step") params body [] none [] scope none (Str.ofString "step") pos :: rest) sc dV kV doc pm an cdv ct), osl⟩
theorem StepAt.of {K : Frag} {params : Arguments} {body : List Stmt} {scope : Scope} {oc : Value} {od : Option Addr} {n q : Str} {ps : Arguments} {pos : Pos} {rest : List Stmt} {sc : Scope} {dV kV doc pm : Value} {an : Option Addr} {cdv ct : Value} {osl : Array (Option Value)}
    (h : K.lookup 105 = some ⟨oc, od, .func (fnOf n q ps (.FunctionDef (Str.ofString "step") params body [] none [] scope none (Str.ofString "step") pos :: rest) sc dV kV doc pm an cdv ct), osl⟩) : StepAt K params body scope :=
  ⟨oc, od, n, q, ps, pos, rest, sc, dV, kV, doc, pm, an, cdv, ct, osl, h⟩
def mkPk {params : Arguments} {body : List Stmt} {scope : Scope} (_e : PySem.Challenge.rw_nq0018_01 = PySem.Challenge.rw_nq0018_01) (h : ∀ P, StepAt (hd.heap_39 P) params body scope) : { t : Arguments × List Stmt × Scope // ∀ P, StepAt (hd.heap_39 P) t.1 t.2.1 t.2.2 } := ⟨⟨params, body, scope⟩, h⟩
theorem fill9 {Q : Prop} (h : PySem.Challenge.rw_nq0018_01 = PySem.Challenge.rw_nq0018_01 → hd.heap_39 = hd.heap_39 → Q) : Q := h rfl rfl
noncomputable def stepPk : { t : Arguments × List Stmt × Scope // ∀ P, StepAt (hd.heap_39 P) t.1 t.2.1 t.2.2 } := by
  refine' mkPk rfl ?h
  case h =>
    intro P
    refine fill9 ?_
    k_fill
    intro _ _
    refine' StepAt.of ?k
    case k => k_is
noncomputable abbrev stepParams : Arguments := stepPk.1.1
noncomputable abbrev stepBody : List Stmt := stepPk.1.2.1
noncomputable abbrev stepScope : Scope := stepPk.1.2.2
end Mine

namespace Mine

inductive Sgs : List Value → List Nat → Prop
  | nil : Sgs [] []
  | cons {tx : Bool} {c : Nat} {v : Value} {vs : List Value} {cs : List Nat} : Sg tx c v → Sgs vs cs → Sgs (v :: vs) (c :: cs)
theorem Sgs.append {vs ws : List Value} {cs ds : List Nat} (h : Sgs vs cs) (h' : Sgs ws ds) : Sgs (vs ++ ws) (cs ++ ds) := by
  induction h with
  | nil => exact h'
  | cons a _ ih => exact .cons a ih
theorem Sgs.of_ints : ∀ {vs : List Value} {cs : List Nat}, IntsAre vs (cs.map fun (x : Nat) => (x : Int)) → Sgs vs cs
  | _, [], h => by cases h; exact .nil
  | _, c :: cs, h => by
    cases h with
    | cons _ t r => exact .cons (tx := false) ⟨t, rfl⟩ (Sgs.of_ints r)
theorem Sg.unique {tx tx' : Bool} {c c' : Nat} {v : Value} (h : Sg tx c v) (h' : Sg tx' c' v) : c = c' := by
  cases tx <;> cases tx' <;> (obtain ⟨t, rfl⟩ := h; obtain ⟨t', e⟩ := h')
  · injection e with e1 e2
    omega
  · cases e
  · cases e
  · injection e with e1 e2
    injection e1 with e1
    simpa using e1
def ShowsAs (v y : Value) : Prop := ∀ tx c, Sg tx c v → ∃ t, y = .str (shown c) t
theorem shows_strs : ∀ {vs ys : List Value} {cs : List Nat}, Paired ShowsAs vs ys → Sgs vs cs → StrsAre ys (cs.map shown)
  | _, _, _, .nil, h => by cases h; exact .nil
  | _, _, _, .cons a r, h => by
    cases h with
    | cons s r' =>
      obtain ⟨t, rfl⟩ := a _ _ s
      exact .cons _ t (shows_strs r r')
theorem Sgs.mem : ∀ {vs : List Value} {cs : List Nat}, Sgs vs cs → ∀ v ∈ vs, ∃ tx c, Sg tx c v
  | _, _, .cons s r, v, hv => by
    rcases List.mem_cons.mp hv with rfl | hv
    · exact ⟨_, _, s⟩
    · exact r.mem v hv
theorem shown_len (c : Nat) : (shown c).length ≤ 3 := by
  show (shownL c).toArray.size ≤ 3
  unfold shownL
  rw [List.size_toArray]
  split <;> split <;> (try split) <;> simp
theorem shown_sum : ∀ cs : List Nat, ((cs.map shown).map (·.length)).sum ≤ 3 * cs.length
  | [] => by simp
  | c :: cs => by
    have := shown_sum cs
    have := shown_len c
    simp only [List.map_cons, List.sum_cons, List.length_cons]
    omega
theorem join_len (sep : Str) : ∀ ys : List Str, (Str.join sep ys).length ≤ (ys.map (·.length)).sum + ys.length * sep.length
  | [] => by
    show Str.empty.length ≤ _
    simp [Str.empty, Str.length]
  | [y] => by simp [Str.join]
  | y :: z :: r => by
    have ih := join_len sep (z :: r)
    simp only [Str.join, Str.length_append, List.map_cons, List.sum_cons, List.length_cons, Nat.succ_mul] at ih ⊢
    omega
def msgOf (cs : List Nat) : Str := Txt.join (Str.ofString " ") (cs.map shown) ++ Str.ofString " in a frame"
theorem sp_len : (Str.ofString " ").length = 1 := by decide +kernel
theorem inframe_len : (Str.ofString " in a frame").length = 11 := by decide +kernel
theorem msg_join_fit {cs : List Nat} (h : cs.length ≤ 2000) : ((cs.map shown).map (·.length)).sum + (cs.map shown).length * (Str.ofString " ").length ≤ 16777216 := by
  have := shown_sum cs
  rw [sp_len, List.length_map]; omega
theorem msg_fit {cs : List Nat} (h : cs.length ≤ 2000) : (Txt.join (Str.ofString " ") (cs.map shown)).length + (Str.ofString " in a frame").length ≤ sizeLine := by
  have h1 := join_len (Str.ofString " ") (cs.map shown)
  have h2 := shown_sum cs
  rw [sp_len, List.length_map] at h1
  show (Builtin.Str.glued (Str.ofString " ") (cs.map shown)).length + _ ≤ _
  rw [StrLaws.glued_eq_join, inframe_len, sizeLine_eq]; omega

/-- the end of a raise's argument -/
structure RaiseAt (E : Value → Shared → Prop) (v : Value) (s₂ : Shared) : Prop where
  out : ∀ h' e, Heap.MadeExc s₂.heap h' e "ValueError" [v] → E (.ref e) { s₂ with heap := h' }
theorem raise_VE {prog : Program} {w : World} {A : Around} {E : Value → Shared → Prop} {s : Shared} {K : Frag} {h₀ : Heap} {L a : Addr} {m mg mb : Str → Option Value} {cn : Str} {cs : Scope} {ccd : Value} {cl : List (Str × Addr)} {p : Program} {loose : List Str}
    {np cpos pos : Pos} {e₀ : Expr} {Q : Flow → Shared → Prop} (F : Fr h₀ L s.heap m) (X : K.In h₀) (T : TopRead p loose mg mb h₀) (hh : A.handled = none) (e : nsIn K mainGlobals (Str.ofString "ValueError") = some none)
    (hk : cs.kind = .function) (hx : (envX cn cs L a ccd cl).kindOf (Str.ofString "ValueError") = some .globalImplicit)
    (h : wpAny (model prog w) A (eval e₀ (envX cn cs L a ccd cl)) (fun v s₂ => RaiseAt E v s₂) E s)
    (he : starEach [e₀] (envX cn cs L a ccd cl) = (false, eval e₀ (envX cn cs L a ccd cl)) :: starEach [] (envX cn cs L a ccd cl)) :
    wpAny (model prog w) A (exec (.Raise (some (.Call (.Name (Str.ofString "ValueError") np) [e₀] [] cpos)) none pos) (envX cn cs L a ccd cl)) Q E s := by
  refine Raise_madeB PySem.F.excCall_ValueError PySem.F.excRaise_ValueError hh (nameX_B F X T e Boot.ValueError (by decide) ⟨rfl, ?_⟩ hk hx) he
  refine spliced_more (wpAny_mono h (fun v s₂ h₂ => spliced_none ⟨by rw [sizeLine_eq]; simp, h₂.out⟩) fun _ _ y => y) he

theorem compAt_un {w : World} {A : Around} {b0 h₀ : Heap} {outer : List Env} {s₁ : Shared} {p : Program} {loose : List Str} {mean : ExcName → Option Value} {mg mb : Str → Option Value}
    {L l : Addr} {m : Str → Option Value} {news : List (Addr × Obj)} {env : Env} {its : Array Value} {cs : List Nat} {Q : Value → Shared → Prop}
    (X : (hd.heap_39 w.params).In b0) (T : Top p loose mean mg mb b0) (B : Below A b0 outer h₀) (F : Fr h₀ L s₁.heap m) (N : News h₀ L s₁.heap news) (hD : A.depth ≤ 879) (hf : env.frame = some L)
    (hl : s₁.heap.IsList l its) (hz : its.size ≤ sizeLine) (hs : Sgs its.toList cs)
    (h : ∀ D ys n h' tk, Fr h₀ L h' m → News h₀ L h' ((D, W.listOf ys n) :: news) → (∀ q ∈ news, @Ne Nat q.1 D) → StrsAre ys.toList (cs.map shown) → Q (.ref D) { s₁ with heap := h', toks := tk }) :
    CompAt PySem.Challenge.rw_nq0018_01.row.prog w A b0 outer env 58 ShowsAs Q (.ref l) s₁ := by
  refine ⟨h₀, L, m, news, l, its, rfl, B, F, N, hf, hl, hz, fun v hv s₃ B₃ => ?_, fun D ys n h' tk F' N' hn hp => h D ys n h' tk F' N' hn (shows_strs hp hs)⟩
  obtain ⟨tx, c, hc⟩ := hs.mem v (by simpa using hv)
  refine codeAny_mono (unctrl_spec X T B₃ (by rw [depth_deeper]; omega) hc) fun r s' hr => ?_
  obtain ⟨y, e, ⟨t, ht⟩, k⟩ := hr.out
  exact ⟨y, e, fun tx' c' hc' => ⟨t, by rw [ht, Sg.unique hc hc']⟩, k⟩
end Mine

namespace Mine

abbrev St := Option (List Nat × Bool × Bool)
inductive Out where
  | go (st : St) (ev : Option (List Nat))
  | bad (cs : List Nat)
def fin9 (cs : List Nat) (lif : Bool) (g : Nat) : Out := .go (some (cs ++ [if lif then g % 128 + 128 else g], false, false)) none
def stepP : St → Nat → Out
  | none, c => .go (if c = 2 then some ([], false, false) else none) none
  | some (cs, true, false), c => if c = 33 then .go (some (cs, false, true)) none else if c = 63 then fin9 cs false 127 else if c % 32 + 64 = c then fin9 cs false (c % 32) else .bad (cs ++ [c])
  | some (cs, true, true), c => if c = 63 then fin9 cs true 127 else if c % 32 + 64 = c then fin9 cs true (c % 32) else .bad (cs ++ [c])
  | some (cs, false, false), c => if 32 ≤ c ∧ c ≤ 126 then fin9 cs false c else if c = 16 then .go (some (cs, true, false)) none else if c = 3 then .go none (some cs) else .bad (cs ++ [c])
  | some (cs, false, true), c => if 32 ≤ c ∧ c ≤ 126 then fin9 cs true c else if c = 16 then .go (some (cs, true, true)) none else .bad (cs ++ [c])

abbrev zs (cs : List Nat) : List Int := cs.map fun (x : Nat) => (x : Int)
/-- a state, as the heap holds it -/
def StV (g : Heap) (v : Value) : St → Prop
  | none => v = .none
  | some (cs, esc, lif) => ∃ ta ca cits, v = .ref ta ∧ IsTup g ta #[.ref ca, .bool esc, .bool lif] ∧ g.IsList ca cits ∧ IntsAre cits.toList (zs cs)
theorem StV.keeps {g g' : Heap} {v : Value} {st : St} (k : ∀ b o, g.get? b = some o → g'.get? b = some o) (h : StV g v st) : StV g' v st := by
  match st, h with
  | none, h => exact h
  | some (cs, esc, lif), ⟨ta, ca, cits, e, t, l, i⟩ => exact ⟨ta, ca, cits, e, IsTup.keeps t k, l.at fun o e => k _ _ e, i⟩

abbrev framesOf (outer : List Env) : List Addr := outer.filterMap (·.frame)

/-- what is known where a ValueError has left a call: M the objects that the call may have changed -/
inductive Exc9 (M : List Addr) (outer : List Env) (s : Shared) (msg : Str) (P : Heap → Prop) (e : Value) (s' : Shared) : Prop
  | mk (ea t : Addr) (tk : Nat) (u : Tok) (h' Bz : Heap) (a1 : e = .ref ea) (a2 : s' = { s with heap := h', toks := tk }) (a3 : Heap.FlyingW Bz outer ea (.type "ValueError") (.ref t) h') (a4 : h'.TupAt t [.str msg u]) (a5 : Bz.get? t = none)
    (a6 : ∀ b o, b ∉ M → b ∉ framesOf outer → s.heap.get? b = some o → Bz.get? b = some o)
    (a7 : ∀ b o, b ∉ M → s.heap.get? b = some o → (∀ vs, o.data ≠ .fields vs) → ∃ sl, h'.get? b = some { o with slots := sl }) (a8 : P Bz) : Exc9 M outer s msg P e s'

theorem raise_end {prog : Program} {w : World} {A : Around} {b0 g : Heap} {outer : List Env} {s : Shared} {L : Addr} {h₂ : Heap} {tk₂ : Nat} {m : Str → Option Value} {news : List (Addr × Obj)} {env : Env} {R : Result → Shared → Prop} {M : List Addr} {msg : Str} {u : Tok} {P : Heap → Prop}
    (B : Below A b0 outer g) (G : GoesOn M s.heap g) (F : Fr g L h₂ m) (N : News g L h₂ news) (hf : env.frame = some L) (hke : env.scope.kind = .function)
    (hP : (∀ q ∈ news, q.1 ∉ framesOf outer → (hideAll h₂ (framesOf (env :: outer))).get? q.1 = some q.2) → P (hideAll h₂ (framesOf (env :: outer))))
    (hR : ∀ e s', Exc9 M outer s msg P e s' → R (.error e) s') :
    RaiseAt (fun e s' => wpAny (model prog w) (A.deeper env) (leaving env e) (fun _ s'' => R (.error e) s'') (fun e' s'' => R (.error e') s'') s') (.str msg u) { s with heap := h₂, toks := tk₂ } := by
  refine ⟨fun h' e hx => ?_⟩
  have B₁ := pushX B F hf hke
  have hin : ∀ env' ∈ (env :: outer), ∀ b, env'.frame = some b → b ∈ framesOf (env :: outer) := fun env' he b hb => List.mem_filterMap.mpr ⟨env', he, hb⟩
  refine wpAny_leaves_madeW (base := hideAll h₂ (framesOf (env :: outer))) (h := h₂) B₁.stack hf (fun b o q => of_hideAll _ q) (funFrames_hide B₁.frames hin) (Heap.MadeExc.of hx) fun h'' t x1 x2 x3 x4 => ?_
  have up : h₂.UpToSlots h'' := (Heap.UpToSlots.of_keeps hx.keeps).trans x4
  have frE : framesOf (env :: outer) = L :: framesOf outer := by simp [framesOf, hf]
  have ltL : ∀ b o, g.get? b = some o → b ≠ L := fun b o q => Nat.ne_of_lt (Nat.lt_of_lt_of_le (Heap.lt_size q) F.above)
  refine hR _ _ ⟨e, t, tk₂, u, h'', _, rfl, rfl, x1, x2, x3, fun b o hb hfr q => ?_, fun b o hb q hn => ?_, hP fun q hq hfr => ?_⟩
  · have q' := G b o hb q
    refine hideAll_get _ (F.keep b o q') ?_
    rw [frE]
    intro hm
    rcases List.mem_cons.mp hm with rfl | hm
    · exact ltL _ _ q' rfl
    · exact hfr hm
  · exact up b o (F.keep b o (G b o hb q)) hn
  · refine hideAll_get _ (N q hq).1 ?_
    rw [frE]
    intro hm
    rcases List.mem_cons.mp hm with e' | hm
    · exact (N q hq).2.1 e'
    · exact hfr hm

def EvIs (H : Heap) (evs evs' : Array Value) : Option (List Nat) → Prop
  | none => evs' = evs
  | some cs => ∃ x as, evs' = evs.push x ∧ Reads H x (.list ((zs cs).map PyData.int)) as
/-- what a step leaves -/
inductive StepPost (Wd : List Addr) (outer : List Env) (aE aS : Addr) (evs sns : Array Value) (v : Value) (st : St) (c : Nat) (s : Shared) (r : Result) (s' : Shared) : Prop
  | ok (v' : Value) (st' : St) (ev : Option (List Nat)) (a1 : r = .ok (.ret v')) (a2 : stepP st c = .go st' ev) (a3 : KeepsBut [aE, aS] s s') (a4 : ∃ n, s'.heap.get? aS = some (W.listOf (sns.push v) n))
      (a5 : ∃ evs' n, s'.heap.get? aE = some (W.listOf evs' n) ∧ EvIs (hideAll s'.heap Wd) evs evs' ev) (a6 : StV (hideAll s'.heap Wd) v' st') : StepPost Wd outer aE aS evs sns v st c s r s'
  | err (e : Value) (cs : List Nat) (a1 : r = .error e) (a2 : stepP st c = .bad cs) (a3 : Exc9 [aE, aS] outer s (msgOf cs) (fun Bz => (∃ n, Bz.get? aS = some (W.listOf (sns.push v) n)) ∧ ∃ n, Bz.get? aE = some (W.listOf evs n)) e s') : StepPost Wd outer aE aS evs sns v st c s r s'

section
variable {Wd : List Addr} {outer : List Env} {aE aS : Addr} {evs sns : Array Value} {v v' : Value} {st st' : St} {c : Nat} {s : Shared} {g h' : Heap} {L : Addr} {m : Str → Option Value} {news : List (Addr × Obj)} {tk : Nat}
theorem hid_old (hM : aE ∈ Wd ∧ aS ∈ Wd) (G : GoesOn [aE, aS] s.heap g) (F : Fr g L h' m) : ∀ b o, (hideAll s.heap Wd).get? b = some o → (hideAll h' Wd).get? b = some o := fun b o e => by
  have hb : b ∉ Wd := fun q => by rw [hideAll_none _ q] at e; cases e
  refine hideAll_get _ (F.keep b o (G b o (fun q => hb ?_) (of_hideAll _ e))) hb
  simp only [List.mem_cons, List.not_mem_nil, or_false] at q
  rcases q with rfl | rfl
  · exact hM.1
  · exact hM.2
theorem hid_base (hM : aE ∈ Wd ∧ aS ∈ Wd) (G : GoesOn [aE, aS] s.heap g) : ∀ b o, (hideAll s.heap Wd).get? b = some o → g.get? b = some o := fun b o e => by
  have hb : b ∉ Wd := fun q => by rw [hideAll_none _ q] at e; cases e
  refine G b o (fun q => hb ?_) (of_hideAll _ e)
  simp only [List.mem_cons, List.not_mem_nil, or_false] at q
  rcases q with rfl | rfl
  · exact hM.1
  · exact hM.2
theorem hid_new {D : Addr} {o : Obj} (hW : ∀ a ∈ Wd, ∃ o, s.heap.get? a = some o) (G : GoesOn [aE, aS] s.heap g) (N : News g L h' news) (hm : (D, o) ∈ news) (n1 : @Ne Nat D aE) (n2 : @Ne Nat D aS) : (hideAll h' Wd).get? D = some o := by
  refine hideAll_get _ (N _ hm).1 fun q => ?_
  obtain ⟨o', e⟩ := hW D q
  have := G D o' (by simp only [List.mem_cons, List.not_mem_nil, or_false]; rintro (q | q); exact n1 q; exact n2 q) e
  rw [(N _ hm).2.2] at this; cases this

theorem step_ok {ev : Option (List Nat)} {evs' : Array Value} {n n' : Nat} (G : GoesOn [aE, aS] s.heap g) (F : Fr g L h' m) (N : News g L h' news) (hS : (aS, W.listOf (sns.push v) n) ∈ news) (hE : (aE, W.listOf evs' n') ∈ news)
    (e : stepP st c = .go st' ev) (hev : EvIs (hideAll h' Wd) evs evs' ev) (hst : StV (hideAll h' Wd) v' st') :
    StepPost Wd outer aE aS evs sns v st c s (.ok (.ret v')) { s with heap := h', toks := tk } :=
  .ok v' st' ev rfl e (keepsBut_of G F) ⟨n, N.get hS⟩ ⟨evs', n', N.get hE, hev⟩ hst

theorem stv_new {D D2 : Addr} {its : Array Value} {k : Nat} {cs : List Nat} {esc lif : Bool} (hW : ∀ a ∈ Wd, ∃ o, s.heap.get? a = some o) (G : GoesOn [aE, aS] s.heap g) (N : News g L h' news)
    (h1 : (D, ({ cls := .type "tuple", data := .seq #[.ref D2, .bool esc, .bool lif] } : Obj)) ∈ news) (h2 : (D2, W.listOf its k) ∈ news) (n1 : @Ne Nat D aE) (n2 : @Ne Nat D aS) (n3 : @Ne Nat D2 aE) (n4 : @Ne Nat D2 aS) (hi : IntsAre its.toList (zs cs)) :
    StV (hideAll h' Wd) (.ref D) (some (cs, esc, lif)) :=
  ⟨D, D2, its, rfl, ⟨_, hid_new hW G N h1 n1 n2, rfl, _, rfl⟩, ⟨_, hid_new hW G N h2 n3 n4, rfl, _, rfl⟩, hi⟩
theorem stv_same {D ca : Addr} {cits : Array Value} {cs : List Nat} {esc lif : Bool} (hM : aE ∈ Wd ∧ aS ∈ Wd) (hW : ∀ a ∈ Wd, ∃ o, s.heap.get? a = some o) (G : GoesOn [aE, aS] s.heap g) (F : Fr g L h' m) (N : News g L h' news)
    (h1 : (D, ({ cls := .type "tuple", data := .seq #[.ref ca, .bool esc, .bool lif] } : Obj)) ∈ news) (n1 : @Ne Nat D aE) (n2 : @Ne Nat D aS) (hl : (hideAll s.heap Wd).IsList ca cits) (hi : IntsAre cits.toList (zs cs)) :
    StV (hideAll h' Wd) (.ref D) (some (cs, esc, lif)) :=
  ⟨D, ca, cits, rfl, ⟨_, hid_new hW G N h1 n1 n2, rfl, _, rfl⟩, hl.at fun o e => hid_old hM G F _ _ e, hi⟩
theorem reads_same {ca : Addr} {cits : Array Value} {cs : List Nat} (hM : aE ∈ Wd ∧ aS ∈ Wd) (G : GoesOn [aE, aS] s.heap g) (F : Fr g L h' m) (hl : (hideAll s.heap Wd).IsList ca cits) (hi : IntsAre cits.toList (zs cs)) :
    ∃ as, Reads (hideAll h' Wd) (.ref ca) (.list ((zs cs).map PyData.int)) as :=
  ⟨[ca], reads_of_ints (vs := cits.toList) (hl.at fun o e => hid_old hM G F _ _ e) hi⟩
end
theorem ints_snoc {vs : List Value} {cs : List Nat} {x : Int} {n : Nat} {t : Tok} (h : IntsAre vs (zs cs)) (e : x = (n : Int)) : IntsAre (vs ++ [.int x t]) (zs (cs ++ [n])) := by
  subst e
  have e2 : zs (cs ++ [n]) = zs cs ++ [(n : Int)] := by simp [zs]
  rw [e2]
  generalize zs cs = ms at h
  clear e2
  induction h with
  | nil => exact .cons _ _ .nil
  | cons a b _ ih => exact .cons a b ih
end Mine

namespace Mine
theorem sgDEL (t : Tok) : Sg false 127 (.int 127 t) := ⟨t, rfl⟩
theorem nameX_FB {M : Model} {A : Around} {E : Value → Shared → Prop} {s : Shared} {h₀ : Heap} {L a : Addr} {m : Str → Option Value} {cn : Str} {cs : Scope} {ccd : Value} {cl : List (Str × Addr)} {x : Str} {pos : Pos} {v : Value} {Q : Value → Shared → Prop} {c : Addr} {o : Obj}
    (F : Fr h₀ L s.heap m) (hc : cl.lookup x = some c) (hm : h₀.get? c = some o) (hd : o.data = .cell (some v)) (h : Q v s)
    (hk : cs.kind = .function) (hx : (envX cn cs L a ccd cl).kindOf x = some .free) (hb : (x == ("__debug__" : Str)) = false) (hn : (x == ("__classdict__" : Str)) = false) :
    wpAny M A (eval (.Name x pos) (envX cn cs L a ccd cl)) Q E s := wpAny_Name (wpAny_loadName_free hk hx hc ⟨o, F.keep _ _ hm, hd⟩ h hn) hb
local macro_rules | `(tactic| walk_at "call ref") => `(tactic| (k_here; k_dflt ((with_reducible show wpAny _ _ (call (Value.ref 30) [_]) _ _ _); refine' use_ctoi ?kX ?kT ?kB ?kF ?kN ?kD ?kS ?_ ?kf ?kk; (case kf => exact rfl); (case kk => exact rfl); (case kB => k_asm); (case kX => k_asm); (case kT => k_asm); (case kF => k_asm); (case kN => k_asm); (case kD => first | omega | (dsimp only; omega)); (case kS => first | assumption | exact ⟨_, rfl⟩ | exact sgDEL _); k_whole; intro t' h' tk' F' N'; (try k_sweep))))
local macro_rules | `(tactic| walk_at "call ref") => `(tactic| (k_here; k_dflt ((with_reducible show wpAny _ _ (call (Value.ref 37) [_]) _ _ _); refine' use_isprint ?kX ?kT ?kB ?kF ?kN ?kD ?kS ?_ ?kf ?kk; (case kf => exact rfl); (case kk => exact rfl); (case kB => k_asm); (case kX => k_asm); (case kT => k_asm); (case kF => k_asm); (case kN => k_asm); (case kD => first | omega | (dsimp only; omega)); (case kS => first | assumption | exact sg127 _ _ | exact ⟨_, rfl⟩); k_whole; intro h' tk' F' N'; (try k_sweep))))
local macro_rules | `(tactic| walk_at "call ref") => `(tactic| (k_here; k_dflt ((with_reducible show wpAny _ _ (call (Value.ref 44) [_]) _ _ _); refine' use_ctrl ?kX ?kT ?kB ?kF ?kN ?kD ?kS ?_ ?kf ?kk; (case kf => exact rfl); (case kk => exact rfl); (case kB => k_asm); (case kX => k_asm); (case kT => k_asm); (case kF => k_asm); (case kN => k_asm); (case kD => first | omega | (dsimp only; omega)); (case kS => first | assumption | exact ⟨_, rfl⟩ | exact sgDEL _); k_whole; intro v' h' tk' S' F' N'; (try k_sweep))))
local macro_rules | `(tactic| walk_at "call ref") => `(tactic| (k_here; k_dflt ((with_reducible show wpAny _ _ (call (Value.ref 51) [_]) _ _ _); refine' use_alt ?kX ?kT ?kB ?kF ?kN ?kD ?kC ?kS ?_ ?kf ?kk; (case kf => exact rfl); (case kk => exact rfl); (case kB => k_asm); (case kX => k_asm); (case kT => k_asm); (case kF => k_asm); (case kN => k_asm); (case kD => first | omega | (dsimp only; omega)); (case kS => first | assumption | exact ⟨_, rfl⟩ | exact sgDEL _); (case kC => omega); k_whole; intro v' h' tk' S' F' N'; (try k_sweep))))
local macro_rules | `(tactic| walk_at "call builtin:list.append") => `(tactic| (k_here; (with_reducible show wpAny _ _ (call (Value.builtin _) [Value.ref _, _]) _ _ _); k_dflt (refine' append_K ?k1 ?k2 ?k3 ?_ ?z; (case k1 => k_asm); (case k2 => k_asm); (case k3 => k_upd); (case z => (rw [sizeLine_eq]; omega)); k_whole); intro h' F' N'; (try k_sweep)))
local macro_rules | `(tactic| walk_at "eval Name") => `(tactic| (k_here; (with_reducible show wpAny _ _ (eval (Expr.Name (Str.ofString "seen") _) _) _ _ _); k_dflt (refine' nameX_FB ?F ?c ?m ?d ?_ ?a ?b ?e ?g; (case a => rfl); (case b => rfl); (case F => k_asm); (case c => rfl); (case m => k_asm); (case d => k_asm); (case e => decide); (case g => decide); k_whole)))
local macro_rules | `(tactic| walk_at "eval Name") => `(tactic| (k_here; (with_reducible show wpAny _ _ (eval (Expr.Name (Str.ofString "events") _) _) _ _ _); k_dflt (refine' nameX_FB ?F ?c ?m ?d ?_ ?a ?b ?e ?g; (case a => rfl); (case b => rfl); (case F => k_asm); (case c => rfl); (case m => k_asm); (case d => k_asm); (case e => decide); (case g => decide); k_whole)))
local macro_rules | `(tactic| walk_at "binaryOp Add ref ref") => `(tactic| (k_here; (with_reducible show wpAny _ _ (binaryOp _ (Value.ref _) (Value.ref _)) _ _ _); k_dflt (refine' kmk_add_lit ?F ?N ?a ?b ?e ?_ ?z; (case F => k_asm); (case N => k_asm); (case a => kmk_list); (case b => kmk_list); (case e => exact rfl); (case z => (simp only [Array.length_toList, List.length_cons, List.length_nil, sizeLine_eq]; omega))); intro D' h' F' N' l1; (try k_lt l1); (try k_sweep)))
local macro_rules | `(tactic| walk_at "eval ListComp") => `(tactic| (k_here; k_dflt (refine' comp_call (fa := 58) ShowsAs ?kB ?kX ?kT ?hh ?c1 ?c2 ?c3 ?c4 ?c5 ?c6 ?c7 ?c8 ?c9 ?d1 ?d2 ?_ ?d3 ?d4 ?d5; (case kB => k_asm); (case kX => k_asm); (case d1 => k_is); (case d2 => k_is); (case kT => k_asm); (case hh => exact rfl); (case c1 => exact rfl); (case c2 => exact rfl); (case c3 => exact rfl); (case c4 => decide); (case c5 => exact rfl); (case c6 => decide); (case c7 => exact rfl); (case c8 => intro C; exact rfl); (case c9 => intro C; exact rfl); (case d3 => intro x; exact rfl); (case d4 => decide); (case d5 => decide); k_whole)))
local macro_rules | `(tactic| walk_at "CompAt") => `(tactic| (k_here; k_dflt (refine' compAt_un (cs := _ ++ [_]) ?kX ?kT ?kB ?kF ?kN ?kD ?kf ?kl ?kz ?ks ?_; (case kf => exact rfl); (case kB => k_asm); (case kX => k_asm); (case kT => k_asm); (case kF => k_asm); (case kN => k_asm); (case kD => first | omega | (dsimp only; omega)); (case kl => kmk_list); (case kz => (simp only [List.size_toArray, List.length_append, Array.length_toList, List.length_cons, List.length_nil, sizeLine_eq]; omega)); (case ks => exact Sgs.append (Sgs.of_ints (by assumption)) (.cons (by assumption) .nil)); k_whole; intro D' ys' n' h' tk' F' N' l1 hS'; (try k_sweep))))
local macro_rules | `(tactic| walk_at "call builtin:str.join") => `(tactic| (k_here; k_dflt (refine' join_list ?kl ?ki ?kz ?_; (case ki => assumption); (case kl => kmk_list); (case kz => exact msg_join_fit (by (simp only [List.length_append, List.length_cons, List.length_nil]; omega))); k_whole; intro t' k')))
local macro_rules | `(tactic| walk_at "binaryOp Add str str") => `(tactic| (k_here; k_dflt (refine' PyProof.Rows.add_str ?_ ?kz; (case kz => exact msg_fit (by (simp only [List.length_append, List.length_cons, List.length_nil]; omega))); k_whole; intro t' k')))
local macro_rules | `(tactic| walk_at "exec Raise some none") => `(tactic| (k_here; k_dflt (refine' raise_VE ?kF ?kX ?kT ?hh ?ke ?c1 ?c2 ?_ ?c3; (case kF => k_asm); (case kX => k_asm); (case kT => k_asm); (case hh => exact rfl); (case ke => k_is); (case c1 => exact rfl); (case c2 => exact rfl); (case c3 => exact rfl); k_whole)))
local macro_rules | `(tactic| k_room) => `(tactic| (simp only [depth_under_make, depth_under_kw, depth_in1, depth_deeper, recursionLimit] <;> omega))
theorem sp_n2 {c : Nat} (h : (c : Int) = 2) : stepP none c = .go (some ([], false, false)) none := by simp only [stepP]; rw [if_pos (by omega)]
theorem sp_nn {c : Nat} (h : (c : Int) ≠ 2) : stepP none c = .go none none := by simp only [stepP]; rw [if_neg (by omega)]
section
variable {cs : List Nat} {c : Nat}
theorem ff_p (h : 32 ≤ c ∧ c ≤ 126) : stepP (some (cs, false, false)) c = .go (some (cs ++ [c], false, false)) none := by simp only [stepP]; rw [if_pos h]; rfl
theorem ff_d (h : ¬ (32 ≤ c ∧ c ≤ 126)) (h2 : (c : Int) = 16) : stepP (some (cs, false, false)) c = .go (some (cs, true, false)) none := by simp only [stepP]; rw [if_neg h, if_pos (by omega)]
theorem ff_e (h : ¬ (32 ≤ c ∧ c ≤ 126)) (h2 : (c : Int) ≠ 16) (h3 : (c : Int) = 3) : stepP (some (cs, false, false)) c = .go none (some cs) := by simp only [stepP]; rw [if_neg h, if_neg (by omega), if_pos (by omega)]
theorem ff_b (h : ¬ (32 ≤ c ∧ c ≤ 126)) (h2 : (c : Int) ≠ 16) (h3 : (c : Int) ≠ 3) : stepP (some (cs, false, false)) c = .bad (cs ++ [c]) := by simp only [stepP]; rw [if_neg h, if_neg (by omega), if_neg (by omega)]
theorem ft_p (h : 32 ≤ c ∧ c ≤ 126) : stepP (some (cs, false, true)) c = .go (some (cs ++ [c % 128 + 128], false, false)) none := by simp only [stepP]; rw [if_pos h]; rfl
theorem ft_d (h : ¬ (32 ≤ c ∧ c ≤ 126)) (h2 : (c : Int) = 16) : stepP (some (cs, false, true)) c = .go (some (cs, true, true)) none := by simp only [stepP]; rw [if_neg h, if_pos (by omega)]
theorem ft_b (h : ¬ (32 ≤ c ∧ c ≤ 126)) (h2 : (c : Int) ≠ 16) : stepP (some (cs, false, true)) c = .bad (cs ++ [c]) := by simp only [stepP]; rw [if_neg h, if_neg (by omega)]
theorem tf_l (h : (c : Int) = 33) : stepP (some (cs, true, false)) c = .go (some (cs, false, true)) none := by simp only [stepP]; rw [if_pos (by omega)]
theorem tf_q (h : (c : Int) ≠ 33) (h2 : (c : Int) = 63) : stepP (some (cs, true, false)) c = .go (some (cs ++ [127], false, false)) none := by simp only [stepP]; rw [if_neg (by omega), if_pos (by omega)]; rfl
theorem tf_c (h : (c : Int) ≠ 33) (h2 : (c : Int) ≠ 63) (h3 : ((c % 32 : Nat) : Int) + 64 = (c : Int)) : stepP (some (cs, true, false)) c = .go (some (cs ++ [c % 32], false, false)) none := by simp only [stepP]; rw [if_neg (by omega), if_neg (by omega), if_pos (by omega)]; rfl
theorem tf_b (h : (c : Int) ≠ 33) (h2 : (c : Int) ≠ 63) (h3 : ((c % 32 : Nat) : Int) + 64 ≠ (c : Int)) : stepP (some (cs, true, false)) c = .bad (cs ++ [c]) := by simp only [stepP]; rw [if_neg (by omega), if_neg (by omega), if_neg (by omega)]
theorem tt_q (h2 : (c : Int) = 63) : stepP (some (cs, true, true)) c = .go (some (cs ++ [127 % 128 + 128], false, false)) none := by simp only [stepP]; rw [if_pos (by omega)]; rfl
theorem tt_c (h2 : (c : Int) ≠ 63) (h3 : ((c % 32 : Nat) : Int) + 64 = (c : Int)) : stepP (some (cs, true, true)) c = .go (some (cs ++ [c % 32 % 128 + 128], false, false)) none := by simp only [stepP]; rw [if_neg (by omega), if_pos (by omega)]; rfl
theorem tt_b (h2 : (c : Int) ≠ 63) (h3 : ((c % 32 : Nat) : Int) + 64 ≠ (c : Int)) : stepP (some (cs, true, true)) c = .bad (cs ++ [c]) := by simp only [stepP]; rw [if_neg (by omega), if_neg (by omega)]
end
section
variable {w : World} {A : Around} {b0 : Heap} {outer : List Env} {s : Shared} {p : Program} {loose : List Str} {mean : ExcName → Option Value} {mg mb : Str → Option Value}
variable (X : (hd.heap_39 w.params).In b0) (T : Top p loose mean mg mb b0) (B : Below A b0 outer s.heap)
include X T B
theorem step_spec (hD : A.depth ≤ 800) (hh : A.handled = none) {Wd : List Addr}
    {f cE cS aE aS c' : Addr} {doc2 pm2 ctv : Value} {oE oS : Obj} {evs sns : Array Value} {nE nS : Nat}
    (hf : s.heap.get? f = some (fnMade (Str.ofString "step") (Str.ofString "_law_reader.<locals>.step") stepParams stepBody stepScope [(Str.ofString "seen", cS), (Str.ofString "events", cE)] doc2 pm2 c' ctv)) (hcr : s.heap.CodeRec (.ref c') (Str.ofString "_law_reader.<locals>.step"))
    (hcE : s.heap.get? cE = some oE) (hcS : s.heap.get? cS = some oS) (dE : oE.data = .cell (some (.ref aE))) (dS : oS.data = .cell (some (.ref aS)))
    (hm : ∀ q ∈ [(aE, W.listOf evs nE), (aS, W.listOf sns nS)], s.heap.get? q.1 = some q.2 ∧ b0.get? q.1 = none)
    (hfr : ∀ env ∈ outer, ∀ a ∈ [(aE, W.listOf evs nE), (aS, W.listOf sns nS)].map (·.1), env.frame ≠ some a)
    (hne : @Ne Nat aE aS) (hM : aE ∈ Wd ∧ aS ∈ Wd) (hW : ∀ a ∈ Wd, ∃ o, s.heap.get? a = some o)
    {tx : Bool} {c : Nat} {v vst : Value} (hs : Sg tx c v) (hz : sns.size ≤ 1000 ∧ evs.size ≤ 1000)
    {st : St} (hst : StV (hideAll s.heap Wd) vst st) (hcz : ∀ cs e l, st = some (cs, e, l) → cs.length ≤ 1000) :
    codeAny (model PySem.Challenge.rw_nq0018_01.row.prog w) A (.call (.ref f) ⟨[vst, v], []⟩) (StepPost Wd outer aE aS evs sns v st c s) s := by
  revert X
  k_fill
  intro X
  dsimp only [stepParams, stepBody, stepScope, stepPk, mkPk] at hf
  have hA := B.stack
  obtain ⟨hd9, dp, fr9, gs9, us9⟩ := A
  dsimp only at hh hA hD
  subst hh hA
  have nE1 : cE ∉ [aE, aS] := by
    simp only [List.mem_cons, List.not_mem_nil, or_false]
    rintro (q | q)
    · have := (hm _ (.head _)).1; rw [← q, hcE] at this; cases this; cases dE
    · have := (hm _ (.tail _ (.head _))).1; rw [← q, hcE] at this; cases this; cases dE
  have nS1 : cS ∉ [aE, aS] := by
    simp only [List.mem_cons, List.not_mem_nil, or_false]
    rintro (q | q)
    · have := (hm _ (.head _)).1; rw [← q, hcS] at this; cases this; cases dS
    · have := (hm _ (.tail _ (.head _))).1; rw [← q, hcS] at this; cases this; cases dS
  have frE : aE ∉ framesOf outer := fun q => by
    obtain ⟨env, he, hb⟩ := List.mem_filterMap.mp q
    exact hfr env he aE (.head _) hb
  have frS : aS ∉ framesOf outer := fun q => by
    obtain ⟨env, he, hb⟩ := List.mem_filterMap.mp q
    exact hfr env he aS (.tail _ (.head _)) hb
  match st, hst with
  | none, hst =>
    cases hst
    refine' enter_clos _ hm hfr X T B ?k6 ?k7 ?kc ?k8 ?k9 ?kB ?_ ?c2 ?c3 ?c4 ?c5
    case k6 => exact hf
    case k7 => exact rfl
    case kc => exact hcr
    case k8 => (dsimp only; unfold recursionLimit; omega)
    case k9 => exact BindsTo.of_eq rfl
    case kB => exact locs rfl
    case c2 => exact rfl
    case c3 => exact rfl
    case c4 => exact rfl
    case c5 => decide
    intro g' L' h' G' F' N' B' X' T' l1
    (try dsimp only)
    k_fold
    k_lt l1
    replace G' : GoesOn [aE, aS] s.heap g' := G'
    have hcE' := G' _ _ nE1 hcE
    have hcS' := G' _ _ nS1 hcS
    k_steps
    all_goals (try first | (k_unfold; dsimp only) | (dsimp only; k_unfold; dsimp only))
    · exact step_ok G' (by assumption) (by assumption) (by k_mem) (by k_mem) (sp_n2 (by assumption)) rfl (stv_new hW G' (by assumption) (by k_mem) (by k_mem) (by omega) (by omega) (by omega) (by omega) .nil)
    · exact step_ok G' (by assumption) (by assumption) (by k_mem) (by k_mem) (sp_nn (by assumption)) rfl rfl
  | some (cs, esc, lif), ⟨ta, ca, cits, hv, htu, hca, hci⟩ =>
    subst hv
    have hcl : cs.length ≤ 1000 := hcz cs esc lif rfl
    have hcs : cits.size ≤ 1000 := by have := hci.length; simp [zs] at this; omega
    match esc, lif with
    | false, false =>
      refine' enter_clos _ hm hfr X T B ?k6 ?k7 ?kc ?k8 ?k9 ?kB ?_ ?c2 ?c3 ?c4 ?c5
      case k6 => exact hf
      case k7 => exact rfl
      case kc => exact hcr
      case k8 => (dsimp only; unfold recursionLimit; omega)
      case k9 => exact BindsTo.of_eq rfl
      case kB => exact locs rfl
      case c2 => exact rfl
      case c3 => exact rfl
      case c4 => exact rfl
      case c5 => decide
      intro g' L' h' G' F' N' B' X' T' l1
      (try dsimp only)
      k_fold
      k_lt l1
      replace G' : GoesOn [aE, aS] s.heap g' := G'
      have hcE' := G' _ _ nE1 hcE
      have hcS' := G' _ _ nS1 hcS
      have htu' : IsTup g' ta #[.ref ca, .bool false, .bool false] := IsTup.keeps htu (hid_base hM G')
      have hca' : g'.IsList ca cits := hca.at fun o e => hid_base hM G' _ _ e
      k_steps
      all_goals (try first | (k_unfold; dsimp only) | (dsimp only; k_unfold; dsimp only))
      · exact step_ok G' (by assumption) (by assumption) (by k_mem) (by k_mem) (ff_p (by assumption)) rfl (stv_new hW G' (by assumption) (by k_mem) (by k_mem) (by omega) (by omega) (by omega) (by omega) (ints_snoc hci (by first | rfl | omega)))
      · exact step_ok G' (by assumption) (by assumption) (by k_mem) (by k_mem) (ff_d (by assumption) (by assumption)) rfl (stv_same hM hW G' (by assumption) (by assumption) (by k_mem) (by omega) (by omega) hca hci)
      · exact step_ok G' (by assumption) (by assumption) (by k_mem) (by k_mem) (ff_e (by assumption) (by assumption) (by assumption)) (let ⟨as, r⟩ := reads_same hM G' (by assumption) hca hci; ⟨_, as, rfl, r⟩) rfl
      · refine raise_end (s := s) (M := [aE, aS]) (msg := msgOf (cs ++ [c])) B' G' (by assumption) (by assumption) rfl rfl ?_ (fun e s' x => .err e _ rfl (ff_b (by assumption) (by assumption) (by assumption)) x)
        intro k
        exact ⟨⟨_, k (aS, W.listOf (sns.push v) (nS + 1)) (by k_mem) frS⟩, ⟨_, k (aE, W.listOf evs nE) (by k_mem) frE⟩⟩
    | false, true =>
      refine' enter_clos _ hm hfr X T B ?k6 ?k7 ?kc ?k8 ?k9 ?kB ?_ ?c2 ?c3 ?c4 ?c5
      case k6 => exact hf
      case k7 => exact rfl
      case kc => exact hcr
      case k8 => (dsimp only; unfold recursionLimit; omega)
      case k9 => exact BindsTo.of_eq rfl
      case kB => exact locs rfl
      case c2 => exact rfl
      case c3 => exact rfl
      case c4 => exact rfl
      case c5 => decide
      intro g' L' h' G' F' N' B' X' T' l1
      (try dsimp only)
      k_fold
      k_lt l1
      replace G' : GoesOn [aE, aS] s.heap g' := G'
      have hcE' := G' _ _ nE1 hcE
      have hcS' := G' _ _ nS1 hcS
      have htu' : IsTup g' ta #[.ref ca, .bool false, .bool true] := IsTup.keeps htu (hid_base hM G')
      have hca' : g'.IsList ca cits := hca.at fun o e => hid_base hM G' _ _ e
      k_steps
      all_goals (try first | (k_unfold; dsimp only) | (dsimp only; k_unfold; dsimp only))
      · exact step_ok G' (by assumption) (by assumption) (by k_mem) (by k_mem) (ft_p (by assumption)) rfl (stv_new hW G' (by assumption) (by k_mem) (by k_mem) (by omega) (by omega) (by omega) (by omega) (ints_snoc hci (by first | rfl | omega)))
      · exact step_ok G' (by assumption) (by assumption) (by k_mem) (by k_mem) (ft_d (by assumption) (by assumption)) rfl (stv_same hM hW G' (by assumption) (by assumption) (by k_mem) (by omega) (by omega) hca hci)
      · refine raise_end (s := s) (M := [aE, aS]) (msg := msgOf (cs ++ [c])) B' G' (by assumption) (by assumption) rfl rfl ?_ (fun e s' x => .err e _ rfl (ft_b (by assumption) (by assumption)) x)
        intro k
        exact ⟨⟨_, k (aS, W.listOf (sns.push v) (nS + 1)) (by k_mem) frS⟩, ⟨_, k (aE, W.listOf evs nE) (by k_mem) frE⟩⟩
    | true, false =>
      refine' enter_clos _ hm hfr X T B ?k6 ?k7 ?kc ?k8 ?k9 ?kB ?_ ?c2 ?c3 ?c4 ?c5
      case k6 => exact hf
      case k7 => exact rfl
      case kc => exact hcr
      case k8 => (dsimp only; unfold recursionLimit; omega)
      case k9 => exact BindsTo.of_eq rfl
      case kB => exact locs rfl
      case c2 => exact rfl
      case c3 => exact rfl
      case c4 => exact rfl
      case c5 => decide
      intro g' L' h' G' F' N' B' X' T' l1
      (try dsimp only)
      k_fold
      k_lt l1
      replace G' : GoesOn [aE, aS] s.heap g' := G'
      have hcE' := G' _ _ nE1 hcE
      have hcS' := G' _ _ nS1 hcS
      have htu' : IsTup g' ta #[.ref ca, .bool true, .bool false] := IsTup.keeps htu (hid_base hM G')
      have hca' : g'.IsList ca cits := hca.at fun o e => hid_base hM G' _ _ e
      k_steps
      all_goals (try first | (k_unfold; dsimp only) | (dsimp only; k_unfold; dsimp only))
      · exact step_ok G' (by assumption) (by assumption) (by k_mem) (by k_mem) (tf_l (by assumption)) rfl (stv_same hM hW G' (by assumption) (by assumption) (by k_mem) (by omega) (by omega) hca hci)
      · exact step_ok G' (by assumption) (by assumption) (by k_mem) (by k_mem) (tf_q (by assumption) (by assumption)) rfl (stv_new hW G' (by assumption) (by k_mem) (by k_mem) (by omega) (by omega) (by omega) (by omega) (ints_snoc hci (by first | rfl | omega)))
      · exact step_ok G' (by assumption) (by assumption) (by k_mem) (by k_mem) (tf_c (by assumption) (by assumption) (by assumption)) rfl (stv_new hW G' (by assumption) (by k_mem) (by k_mem) (by omega) (by omega) (by omega) (by omega) (ints_snoc hci (by first | rfl | omega)))
      · refine raise_end (s := s) (M := [aE, aS]) (msg := msgOf (cs ++ [c])) B' G' (by assumption) (by assumption) rfl rfl ?_ (fun e s' x => .err e _ rfl (tf_b (by assumption) (by assumption) (by assumption)) x)
        intro k
        exact ⟨⟨_, k (aS, W.listOf (sns.push v) (nS + 1)) (by k_mem) frS⟩, ⟨_, k (aE, W.listOf evs nE) (by k_mem) frE⟩⟩
    | true, true =>
      refine' enter_clos _ hm hfr X T B ?k6 ?k7 ?kc ?k8 ?k9 ?kB ?_ ?c2 ?c3 ?c4 ?c5
      case k6 => exact hf
      case k7 => exact rfl
      case kc => exact hcr
      case k8 => (dsimp only; unfold recursionLimit; omega)
      case k9 => exact BindsTo.of_eq rfl
      case kB => exact locs rfl
      case c2 => exact rfl
      case c3 => exact rfl
      case c4 => exact rfl
      case c5 => decide
      intro g' L' h' G' F' N' B' X' T' l1
      (try dsimp only)
      k_fold
      k_lt l1
      replace G' : GoesOn [aE, aS] s.heap g' := G'
      have hcE' := G' _ _ nE1 hcE
      have hcS' := G' _ _ nS1 hcS
      have htu' : IsTup g' ta #[.ref ca, .bool true, .bool true] := IsTup.keeps htu (hid_base hM G')
      have hca' : g'.IsList ca cits := hca.at fun o e => hid_base hM G' _ _ e
      k_steps
      all_goals (try first | (k_unfold; dsimp only) | (dsimp only; k_unfold; dsimp only))
      · exact step_ok G' (by assumption) (by assumption) (by k_mem) (by k_mem) (tt_q (by assumption)) rfl (stv_new hW G' (by assumption) (by k_mem) (by k_mem) (by omega) (by omega) (by omega) (by omega) (ints_snoc hci (by first | rfl | omega)))
      · exact step_ok G' (by assumption) (by assumption) (by k_mem) (by k_mem) (tt_c (by assumption) (by assumption)) rfl (stv_new hW G' (by assumption) (by k_mem) (by k_mem) (by omega) (by omega) (by omega) (by omega) (ints_snoc hci (by first | rfl | omega)))
      · refine raise_end (s := s) (M := [aE, aS]) (msg := msgOf (cs ++ [c])) B' G' (by assumption) (by assumption) rfl rfl ?_ (fun e s' x => .err e _ rfl (tt_b (by assumption) (by assumption)) x)
        intro k
        exact ⟨⟨_, k (aS, W.listOf (sns.push v) (nS + 1)) (by k_mem) frS⟩, ⟨_, k (aE, W.listOf evs nE) (by k_mem) frE⟩⟩
end
end Mine

namespace Mine

theorem back_held {M : Model} {A : Around} {E : Value → Shared → Prop} {s : Shared} {base : Heap} {l : List Env} {e L : Addr} {cls a0 : Value} {env : Env} (hf : env.frame = some L) (hh : Heap.HeldW base l e cls a0 L s.heap)
    (hQ : ∀ h', Heap.HeldW base l e cls a0 L h' → s.heap.UpToSlots h' → E (.ref e) { s with heap := h' }) : cameBackBy M A env E (.ref e) s := by
  obtain ⟨hkb, hen, hl, ht⟩ := hh
  obtain ⟨oe, vs, T, oT, ts, he, hcls, hd, h1, hnT, hTe, hT, hdT, h3⟩ := ht
  have hsz3 : 3 < ts.size := (Array.getElem?_eq_some_iff.mp h3).1
  have other : ∀ b, b ≠ T → (s.heap.update T (Obj.mapFields (·.setIfInBounds 3 ((some L).elim Value.none fun f => rawInt f)))).get? b = s.heap.get? b :=
    fun b hb => Heap.get?_update_other _ _ (Ne.symm hb)
  have noRecord : ∀ b o, s.heap.get? b = some o → (∀ vs, o.data ≠ .fields vs) → b ≠ T := fun b o hb hnf q => by
    rw [q, hT] at hb; injection hb with hb; subst hb; exact hnf ts hdT
  show wpAny M A (do
    if (← field (.ref e) 1) == .none then unsupported "frame.own-activation:exception-without-traceback"
    setFlight (.ref e) env.frame) _ _ s
  refine wpAny_bind (wpAny_field he hd h1 ?_)
  rw [if_neg (show ¬ ((Value.ref T == Value.none) = true) from by simp)]
  rw [hf]
  unfold setFlight
  refine wpAny_bind (wpAny_field he hd h1 ?_)
  rw [if_pos (show (Value.ref T != Value.none) = true from by simp)]
  refine wpAny_setField hT hdT hsz3 (hQ _ ⟨fun b o hbo => (other b fun q => by rw [q, hnT] at hbo; cases hbo).trans (hkb b o hbo), hen,
    hl.of_keeps fun b o hb hnf => ⟨o, (other b (noRecord b o hb hnf)).trans hb, rfl⟩, ?_⟩ fun b o hb hnf => ⟨o.slots, (other b (noRecord b o hb hnf)).trans hb⟩)
  exact ⟨oe, vs, T, _, _, (other e (Ne.symm hTe)).trans he, hcls, hd, h1, hnT, hTe, Heap.get?_update_self _ hT (Obj.isFreed_of_fields (Obj.data_mapFields hdT _)), Obj.data_mapFields hdT _, by simp [hsz3]⟩

theorem exc_pass {prog : Program} {w : World} {A : Around} {env : Env} {outer : List Env} {L : Addr} {s s₃ : Shared} {M : List Addr} {msg : Str} {P : Heap → Prop} {e : Value} {R : Result → Shared → Prop}
    (hfr : A.frames = some (env :: outer)) (hf : env.frame = some L) (x : Exc9 M (env :: outer) s msg P e s₃) (hR : ∀ s', Exc9 (L :: M) outer s msg P e s' → R (.error e) s') :
    notedBy (model prog w) A env (fun e s' => cameBackBy (model prog w) A env (fun e s' => wpAny (model prog w) A (leaving env e) (fun _ s'' => R (.error e) s'') (fun e' s'' => R (.error e') s'') s') e s') e s₃ := by
  obtain ⟨ea, t, tk, u, h', Bz, rfl, rfl, fl, tu, tn, k1, k2, hP⟩ := x
  refine wpAny_looks_onW (s := { s with heap := h', toks := tk }) hfr hf fl fun h₁ hd₁ u₁ => ?_
  refine back_held hf hd₁ fun h₂ hd₂ u₂ => ?_
  show wpAny _ _ (leaving env (.ref ea)) _ _ _
  unfold leaving
  refine wpAny_bind (wpAny_noteFrame_againW hf hd₂.2.2.2 ?_)
  refine wpAny_landsW hd₂ fun h₃ fl₃ u₃ => ?_
  have up : h'.UpToSlots h₃ := (u₁.trans u₂).trans u₃
  obtain ⟨q1, q2, ⟨_, _, q3⟩, q4⟩ := fl₃
  refine hR _ ⟨ea, t, tk, u, h₃, Bz, rfl, rfl, ⟨q1, q2, q3, q4⟩, tu.of_slots up, tn, fun b o hb hfb => k1 b o (fun q => hb (.tail _ q)) ?_, fun b o hb e' hn => ?_, hP⟩
  · intro q
    have : framesOf (env :: outer) = L :: framesOf outer := by simp [framesOf, hf]
    rw [this] at q
    rcases List.mem_cons.mp q with rfl | q
    · exact hb (.head _)
    · exact hfb q
  · obtain ⟨sl, e₁⟩ := k2 b o (fun q => hb (.tail _ q)) e' hn
    obtain ⟨sl', e₂⟩ := up b _ e₁ hn
    exact ⟨sl', e₂⟩
end Mine

namespace Mine

def runP : List Nat → St → List PyData × St
  | [], st => ([], st)
  | c :: cs, st => match stepP st c with
    | .go st' none => runP cs st'
    | .go st' (some l) => (.list ((zs l).map PyData.int) :: (runP cs st').1, (runP cs st').2)
    | .bad l => (.str (msgOf l) :: (runP cs none).1, (runP cs none).2)

inductive SgAll (tx : Bool) : List Value → List Nat → Prop
  | nil : SgAll tx [] []
  | cons {c : Nat} {v : Value} {vs : List Value} {cs : List Nat} : Sg tx c v → SgAll tx vs cs → SgAll tx (v :: vs) (c :: cs)
theorem SgAll.snoc {tx : Bool} {vs : List Value} {cs : List Nat} {v : Value} {c : Nat} (h : SgAll tx vs cs) (h' : Sg tx c v) : SgAll tx (vs ++ [v]) (cs ++ [c]) := by
  induction h with
  | nil => exact .cons h' .nil
  | cons a _ ih => exact .cons a ih
theorem SgAll.length {tx : Bool} {vs : List Value} {cs : List Nat} (h : SgAll tx vs cs) : vs.length = cs.length := by
  induction h with
  | nil => rfl
  | cons _ _ ih => simp [ih]

/-- a row of signs that an iterator hands out -/
structure Src (prog : Program) (w : World) (I : Addr) (fp : List Addr) (tx : Bool) (cs : List Nat) (P : Nat → Value → Prop) (St : Nat → Heap → Prop) : Prop where
  walks : ∀ A' : Around, A'.handled = none → Walks prog w A' I fp [I] cs.length P St
  sign : ∀ i v, P i v → i < cs.length → ∃ c, cs[i]? = some c ∧ Sg tx c v
  old : ∀ i h, St i h → ∃ o, h.get? I = some o

abbrev stepQ : Str := Str.ofString "_law_reader.<locals>.step"
/-- the closure step, as the heap holds it -/
structure Clo (h : Heap) (f c' cE cS aE aS : Addr) : Prop where
  fn : ∃ doc2 pm2 ctv, h.get? f = some (fnMade (Str.ofString "step") stepQ stepParams stepBody stepScope [(Str.ofString "seen", cS), (Str.ofString "events", cE)] doc2 pm2 c' ctv)
  code : ∃ oc vs t, h.get? c' = some oc ∧ oc.data = .fields vs ∧ vs[1]? = some (.str stepQ t)
  ce : ∃ o, h.get? cE = some o ∧ o.data = .cell (some (.ref aE))
  cs : ∃ o, h.get? cS = some o ∧ o.data = .cell (some (.ref aS))
theorem Clo.keeps {h h' : Heap} {f c' cE cS aE aS : Addr} (C : Clo h f c' cE cS aE aS) (k : ∀ b ∈ [f, c', cE, cS], ∀ o, h.get? b = some o → h'.get? b = some o) : Clo h' f c' cE cS aE aS :=
  ⟨let ⟨a, b, c, e⟩ := C.fn; ⟨a, b, c, k _ (by simp) _ e⟩, let ⟨a, b, c, e, r⟩ := C.code; ⟨a, b, c, k _ (by simp) _ e, r⟩, let ⟨o, e, r⟩ := C.ce; ⟨o, k _ (by simp) _ e, r⟩, let ⟨o, e, r⟩ := C.cs; ⟨o, k _ (by simp) _ e, r⟩⟩
theorem Clo.old {h : Heap} {f c' cE cS aE aS : Addr} (C : Clo h f c' cE cS aE aS) : ∀ b ∈ [f, c', cE, cS], ∃ o, h.get? b = some o := by
  intro b hb
  simp only [List.mem_cons, List.not_mem_nil, or_false] at hb
  rcases hb with rfl | rfl | rfl | rfl
  · obtain ⟨_, _, _, e⟩ := C.fn; exact ⟨_, e⟩
  · obtain ⟨_, _, _, e, _⟩ := C.code; exact ⟨_, e⟩
  · obtain ⟨_, e, _⟩ := C.ce; exact ⟨_, e⟩
  · obtain ⟨_, e, _⟩ := C.cs; exact ⟨_, e⟩

theorem ReadsAll.snoc {h : Heap} {vs : List Value} {ds : List PyData} {as bs : List Addr} {v : Value} {d : PyData} (r : ReadsAll h vs ds as) (r' : Reads h v d bs) : ∃ cs, ReadsAll h (vs ++ [v]) (ds ++ [d]) cs := by
  induction vs generalizing ds as with
  | nil =>
    cases r
    exact ⟨_, .cons r' .nil⟩
  | cons x vs ih =>
    cases r with
    | cons a b =>
      obtain ⟨cs, q⟩ := ih b
      exact ⟨_, .cons a q⟩

theorem step_len {st st' : St} {c : Nat} {ev : Option (List Nat)} {k : Nat} (h : stepP st c = .go st' ev) (hl : ∀ l e b, st = some (l, e, b) → l.length ≤ k) : ∀ l e b, st' = some (l, e, b) → l.length ≤ k + 1 := by
  intro l e b hs
  subst hs
  match st, hl with
  | none, _ =>
    simp only [stepP] at h
    split at h <;> simp at h
    obtain ⟨⟨rfl, _⟩, _⟩ := h
    simp
  | some (cs, esc, lif), hl =>
    have hc := hl cs esc lif rfl
    match esc, lif, h with
    | true, false, h =>
      simp only [stepP, fin9] at h
      (repeat' split at h) <;> simp at h <;> (obtain ⟨⟨rfl, _⟩, _⟩ := h) <;> simp <;> omega
    | true, true, h =>
      simp only [stepP, fin9] at h
      (repeat' split at h) <;> simp at h <;> (obtain ⟨⟨rfl, _⟩, _⟩ := h) <;> simp <;> omega
    | false, false, h =>
      simp only [stepP, fin9] at h
      (repeat' split at h) <;> simp at h <;> (obtain ⟨⟨rfl, _⟩, _⟩ := h) <;> simp <;> omega
    | false, true, h =>
      simp only [stepP, fin9] at h
      (repeat' split at h) <;> simp at h <;> (obtain ⟨⟨rfl, _⟩, _⟩ := h) <;> simp <;> omega
end Mine

namespace Mine

inductive RBad (St : Nat → Heap → Prop) (cs : List Nat) (i0 : Nat) (tx : Bool) (aE aS : Addr) (Wl : List Addr) (tot : List PyData × Mine.St) (msg : Str) (Bz : Heap) : Prop
  | mk (j : Nat) (evs sns : Array Value) (nE nS : Nat) (E : List PyData) (as : List Addr) (a1 : j < cs.length) (a2 : i0 ≤ j) (a3 : St (j + 1) Bz) (a4 : Bz.get? aE = some (W.listOf evs nE)) (a5 : Bz.get? aS = some (W.listOf sns nS)) (a6 : ReadsAll (hideAll Bz Wl) evs.toList E as)
    (a7 : SgAll tx sns.toList (cs.take (j + 1))) (a8 : E ++ (.str msg :: (runP (cs.drop (j + 1)) none).1) = tot.1) (a9 : (runP (cs.drop (j + 1)) none).2 = tot.2) (a10 : evs.size ≤ j) : RBad St cs i0 tx aE aS Wl tot msg Bz

/-- what stands between two turns of reduce's loop -/
inductive RInv (St : Nat → Heap → Prop) (cs : List Nat) (i0 : Nat) (tx : Bool) (f aE aS I L : Addr) (Wd : List Addr) (tot : List PyData × Mine.St) (s : Shared) (k : Nat) (s' : Shared) : Prop
  | mk (j : Nat) (h' : Heap) (tk : Nat) (m' : Str → Option Value) (v : Value) (st : Mine.St) (evs sns : Array Value) (nE nS : Nat) (E : List PyData) (as : List Addr) (a1 : s' = { s with heap := h', toks := tk }) (a2 : k = cs.length + 1 - j) (a3 : i0 ≤ j) (a4 : j ≤ cs.length) (a5 : St j h')
    (a6 : h'.Ns L m') (a7 : m' (Str.ofString "function") = some (.ref f)) (a8 : m' (Str.ofString "value") = some v) (a9 : StV (hideAll h' (L :: Wd)) v st) (b1 : h'.get? aE = some (W.listOf evs nE)) (b2 : h'.get? aS = some (W.listOf sns nS)) (b3 : ReadsAll (hideAll h' (L :: Wd)) evs.toList E as) (b4 : SgAll tx sns.toList (cs.take j))
    (b5 : E ++ (runP (cs.drop j) st).1 = tot.1) (b6 : (runP (cs.drop j) st).2 = tot.2) (b7 : ∀ b o, b ∉ [aE, aS, I, L] → s.heap.get? b = some o → h'.get? b = some o) (b8 : ∀ l e b, st = some (l, e, b) → l.length ≤ j) (b9 : evs.size ≤ j) : RInv St cs i0 tx f aE aS I L Wd tot s k s'

theorem drop_at {cs : List Nat} {j c : Nat} (h : cs[j]? = some c) : cs.drop j = c :: cs.drop (j + 1) := by
  obtain ⟨hl, rfl⟩ := List.getElem?_eq_some_iff.mp h
  exact List.drop_eq_getElem_cons hl
theorem take_at {cs : List Nat} {j c : Nat} (h : cs[j]? = some c) : cs.take (j + 1) = cs.take j ++ [c] := by
  rw [List.take_add_one, h]; rfl

theorem funFrames_of {h h' base : Heap} : ∀ {l : List Env}, (∀ b ∈ framesOf l, ∀ o, h.get? b = some o → (∀ vs, o.data ≠ .fields vs) → ∃ o', h'.get? b = some o' ∧ ∀ vs, o'.data ≠ .fields vs) → h.FunFrames base l → h'.FunFrames base l
  | [], _, _ => trivial
  | env :: l, k, ⟨hk, ⟨L, o, hf, hn, ho, hd⟩, hr⟩ => by
    have hL : framesOf (env :: l) = L :: framesOf l := by simp [framesOf, hf]
    obtain ⟨o', ho', hd'⟩ := k L (by rw [hL]; exact .head _) o ho hd
    exact ⟨hk, ⟨L, o', hf, hn, ho', hd'⟩, funFrames_of (fun b hb => k b (by rw [hL]; exact .tail _ hb)) hr⟩
theorem ns_keep {h h' : Heap} {a : Addr} {m : Str → Option Value} (ns : h.Ns a m) (k : ∀ o, h.get? a = some o → h'.get? a = some o) : h'.Ns a m := by
  obtain ⟨o, es, ep, e, r⟩ := ns
  exact ⟨o, es, ep, k o e, r⟩

theorem reduce_loop {w : World} {A : Around} {b0 : Heap} {outer : List Env} {s : Shared} {p : Program} {loose : List Str} {mean : ExcName → Option Value} {mg mb : Str → Option Value} {env : Env} {L I f c' cE cS aE aS : Addr} {fp : List Addr} {cs : List Nat} {tx : Bool} {P : Nat → Value → Prop} {St : Nat → Heap → Prop}
    {Wd : List Addr} {i0 : Nat} {tot : List PyData × Mine.St} {px pi p1 p2 p3 p4 p5 p6 pos : Pos} {m₀ : Str → Option Value} {evs sns : Array Value} {nE nS : Nat} {E0 : List PyData} {as0 : List Addr} {Q : Flow → Shared → Prop} {R : Result → Shared → Prop}
    (X : (hd.heap_39 w.params).In b0) (T : Top p loose mean mg mb b0) (hD : A.depth ≤ 790) (hh : A.handled = none) (B : Below (A.deeper env) b0 (env :: outer) s.heap)
    (hf : env.frame = some L) (hke : env.scope.kind = .function) (hlo : env.locals = L)
    (k1 : env.kindOf (Str.ofString "element") = some .local) (k2 : env.kindOf (Str.ofString "it") = some .local) (k3 : env.kindOf (Str.ofString "function") = some .local) (k4 : env.kindOf (Str.ofString "value") = some .local)
    (hns : s.heap.Ns L m₀) (h1 : m₀ (Str.ofString "it") = some (.ref I)) (h2 : m₀ (Str.ofString "function") = some (.ref f)) (h3 : m₀ (Str.ofString "value") = some .none)
    (S : Src PySem.Challenge.rw_nq0018_01.row.prog w I fp tx cs P St) (hst : St i0 s.heap) (hi : i0 ≤ cs.length) (hlen : cs.length ≤ 900)
    (C : Clo s.heap f c' cE cS aE aS) (hE : s.heap.get? aE = some (W.listOf evs nE)) (hS : s.heap.get? aS = some (W.listOf sns nS))
    (off0 : b0.get? aE = none ∧ b0.get? aS = none ∧ b0.get? I = none) (hfrm : ∀ a ∈ [aE, aS, I], a ∉ framesOf (env :: outer)) (ne1 : aE ≠ aS) (ne2 : aE ≠ I) (ne3 : aS ≠ I)
    (hfp : aE ∉ fp ∧ aS ∉ fp ∧ ∀ a ∈ fp, a ∉ framesOf (env :: outer)) (hcl : ∀ a ∈ [f, c', cE, cS], a ∉ [aE, aS, I, L])
    (hW : aE ∈ Wd ∧ aS ∈ Wd ∧ I ∈ Wd) (hWf : ∀ a ∈ framesOf outer, a ∈ Wd) (hWo : ∀ a ∈ Wd, ∃ o, s.heap.get? a = some o)
    (hEv : ReadsAll (hideAll s.heap (L :: Wd)) evs.toList E0 as0) (hSn : SgAll tx sns.toList (cs.take i0)) (hez : evs.size ≤ i0)
    (tot1 : E0 ++ (runP (cs.drop i0) none).1 = tot.1) (tot2 : (runP (cs.drop i0) none).2 = tot.2)
    (hQ : ∀ h' tk m' v evs' sns' nE' nS' as', h'.Ns L m' → m' (Str.ofString "value") = some v → StV (hideAll h' (L :: Wd)) v tot.2 → h'.get? aE = some (W.listOf evs' nE') → h'.get? aS = some (W.listOf sns' nS') →
      ReadsAll (hideAll h' (L :: Wd)) evs'.toList tot.1 as' → SgAll tx sns'.toList cs → (∀ b o, b ∉ [aE, aS, I, L] → s.heap.get? b = some o → h'.get? b = some o) → Q .next { s with heap := h', toks := tk })
    (hR : ∀ msg e s', Exc9 [L, aE, aS, I, L] outer s msg (RBad St cs i0 tx aE aS (L :: Wd) tot msg) e s' → R (.error e) s') :
    wpAny (model PySem.Challenge.rw_nq0018_01.row.prog w) (A.deeper env) (exec (.For (.Name (Str.ofString "element") px) (.Name (Str.ofString "it") pi) [.Assign [.Name (Str.ofString "value") p1] (.Call (.Name (Str.ofString "function") p2) [.Name (Str.ofString "value") p3, .Name (Str.ofString "element") p4] [] p5) p6] [] pos) env) Q
      (fun e s' => wpAny (model PySem.Challenge.rw_nq0018_01.row.prog w) (A.deeper env) (leaving env e) (fun _ s'' => R (.error e) s'') (fun e' s'' => R (.error e') s'') s') s := by
  have hh' : (A.deeper env).handled = none := hh
  have Wk := S.walks (A.deeper env) hh'
  subst hlo
  have frE : framesOf (env :: outer) = env.locals :: framesOf outer := by simp [framesOf, hf]
  have nL : ∀ a ∈ [aE, aS, I], a ≠ env.locals := fun a ha q => hfrm a ha (by rw [frE, q]; exact .head _)
  have hp : (env.scope.kind == .class || (env.scope.kind == .module && env.locals != env.globals)) = false := by rw [hke]; rfl
  have hLW : ∀ a ∈ framesOf (env :: outer), a ∈ env.locals :: Wd := fun a ha => by
    rw [frE] at ha
    rcases List.mem_cons.mp ha with rfl | ha
    · exact .head _
    · exact .tail _ (hWf a ha)
  refine wpAny_For (wpAny_Name (wpAny_loadName_local hke k2 hns h1 ?_) (by decide))
  refine Wk.self i0 s _ _ hst ?_
  refine codeAny_forLoop (RInv St cs i0 tx f aE aS I env.locals Wd tot s) ?_ (cs.length + 1 - i0)
    ⟨i0, s.heap, s.toks, m₀, .none, none, evs, sns, nE, nS, E0, as0, rfl, rfl, Nat.le_refl _, hi, hst, hns, h2, h3, rfl, hE, hS, hEv, hSn, tot1, tot2, fun _ _ _ e => e, (fun _ _ _ q => by cases q), hez⟩
  rintro k s' ⟨j, h', tk, m', v, st, evs, sns, nE, nS, E, as, rfl, rfl, hij, hj, hst', hns', hm2, hm3, hsv, hE', hS', hEv', hSn', t1, t2, kp, hcz, hez'⟩
  by_cases hlt : j < cs.length
  · refine Wk.item j _ _ _ hlt hst' fun vv h₁ tk₁ hP hst₁ kp₁ => ?_
    show wpAny _ _ _ _ _ _
    k_fold
    obtain ⟨c, hc, hsg⟩ := S.sign j vv hP hlt
    have ns₁ : h₁.Ns env.locals m' := by
      obtain ⟨o, es, ep, e, r⟩ := hns'
      exact ⟨o, es, ep, kp₁ _ _ (by simp only [List.mem_singleton]; exact fun q => nL I (by simp) q.symm) e, r⟩
    refine wpAny_assign_Name (wpAny_storeName_local k1 ns₁ (fun h₂ ns₂ sb₂ => ?_) hp)
    show wpAny _ _ _ _ _ _
    k_fold
    -- what stands behind the item and the store
    have kp₂ : ∀ b o, b ≠ I → b ≠ env.locals → h'.get? b = some o → h₂.get? b = some o := fun b o q1 q2 e => (sb₂.2 b q2).trans (kp₁ b o (by simpa using q1) e)
    have kps : ∀ b o, b ∉ [aE, aS, I, env.locals] → s.heap.get? b = some o → h₂.get? b = some o := fun b o hb e => kp₂ b o (fun q => hb (by simp [q])) (fun q => hb (by simp [q])) (kp b o hb e)
    have kph : ∀ b o, (hideAll h' (env.locals :: Wd)).get? b = some o → (hideAll h₂ (env.locals :: Wd)).get? b = some o := fun b o e => by
      have hb : b ∉ env.locals :: Wd := fun q => by rw [hideAll_none _ q] at e; cases e
      exact hideAll_get _ (kp₂ b o (fun q => hb (by rw [q]; exact .tail _ hW.2.2)) (fun q => hb (by rw [q]; exact .head _)) (of_hideAll _ e)) hb
    have hst₂ : St (j + 1) h₂ := Wk.frame _ _ _ hst₁ fun b hb o e => (sb₂.2 b fun q => hfp.2.2 b hb (by rw [frE, q]; exact .head _)).trans e
    have hE₂ : h₂.get? aE = some (W.listOf evs nE) := kp₂ _ _ ne2 (nL aE (by simp)) hE'
    have hS₂ : h₂.get? aS = some (W.listOf sns nS) := kp₂ _ _ ne3 (nL aS (by simp)) hS'
    have C₂ : Clo h₂ f c' cE cS aE aS := C.keeps fun b hb o e => kps b o (hcl b hb) e
    have fn₂ : FnAt f h₂ := by obtain ⟨a, b, d, e⟩ := C₂.fn; exact ⟨_, _, _, _, e⟩
    have B₂ : Below (A.deeper env) b0 (env :: outer) h₂ := by
      refine ⟨B.stack, fun b o e => ?_, ?_⟩
      · by_cases hb : b ∈ [aE, aS, I, env.locals]
        · simp only [List.mem_cons, List.not_mem_nil, or_false] at hb
          rcases hb with q | q | q | q
          · rw [q, off0.1] at e; cases e
          · rw [q, off0.2.1] at e; cases e
          · rw [q, off0.2.2] at e; cases e
          · rw [q] at e
            obtain ⟨_, ⟨L', _, hf', hn', _⟩, _⟩ := B.frames
            rw [hf] at hf'; cases hf'; rw [hn'] at e; cases e
        · exact kps b o hb (B.stays b o e)
      · refine funFrames_of (fun b hb o e hn => ?_) B.frames
        rw [frE] at hb
        by_cases hq : b = env.locals
        · obtain ⟨o', es, ep, e', hd', _⟩ := ns₂
          exact ⟨o', by rw [hq]; exact e', fun vs q => by rw [hd'] at q; cases q⟩
        · have hb' : b ∈ framesOf (env :: outer) := by rw [frE]; exact hb
          refine ⟨o, kps b o (fun q => ?_) e, hn⟩
          simp only [List.mem_cons, List.not_mem_nil, or_false] at q
          rcases q with q | q | q | q
          · exact hfrm aE (by simp) (q ▸ hb')
          · exact hfrm aS (by simp) (q ▸ hb')
          · exact hfrm I (by simp) (q ▸ hb')
          · exact hq q
    -- the body
    refine wpAny_execs_cons (wpAny_Assign_Name (Call_ (wpAny_Name (wpAny_loadName_local hke k3 ns₂ (v := .ref f) (by rw [if_neg (by decide)]; exact hm2) ?_) (by decide))))
    refine callWith_F fn₂ ?_
    refine spliced_more (wpAny_Name (wpAny_loadName_local hke k4 ns₂ (v := v) (by rw [if_neg (by decide)]; exact hm3) ?_) (by decide))
    refine spliced_more (wpAny_Name (wpAny_loadName_local hke k1 ns₂ (v := vv) (by rw [if_pos rfl]) ?_) (by decide))
    refine spliced_none ⟨fn₂, ?_⟩
    obtain ⟨doc2, pm2, ctv, hfn⟩ := C₂.fn
    obtain ⟨oc, vs9, t9, hcc, hcd, hcv⟩ := C₂.code
    obtain ⟨oE, hcE, dE⟩ := C₂.ce
    obtain ⟨oS, hcS, dS⟩ := C₂.cs
    have hsl := hSn'.length
    rw [List.length_take] at hsl
    refine wpAny_call (codeAny_mono (step_spec (s := { s with heap := h₂, toks := tk₁ + 1 }) (Wd := env.locals :: Wd) X T B₂ (by rw [depth_deeper]; omega) hh' hfn ⟨c', oc, vs9, t9, rfl, hcc, hcd, hcv⟩ hcE hcS dE dS (nE := nE) (nS := nS) (evs := evs) (sns := sns) ?_ ?_ ne1 ⟨.tail _ hW.1, .tail _ hW.2.1⟩ ?_ hsg ⟨?_, ?_⟩ (StV.keeps kph hsv) ?_) fun r s₃ hr => ?_)
    · intro q hq
      simp only [List.mem_cons, List.not_mem_nil, or_false] at hq
      rcases hq with rfl | rfl
      · exact ⟨hE₂, off0.1⟩
      · exact ⟨hS₂, off0.2.1⟩
    · intro env' he a ha q
      simp only [List.map_cons, List.map_nil, List.mem_cons, List.not_mem_nil, or_false] at ha
      have hm : a ∈ framesOf (env :: outer) := List.mem_filterMap.mpr ⟨env', he, q⟩
      rcases ha with ha | ha
      · exact hfrm aE (by simp) (ha ▸ hm)
      · exact hfrm aS (by simp) (ha ▸ hm)
    · intro a ha
      rcases List.mem_cons.mp ha with q | ha
      · obtain ⟨o', _, _, e', _⟩ := ns₂
        exact ⟨o', by rw [q]; exact e'⟩
      · by_cases hq : a ∈ [aE, aS, I, env.locals]
        · simp only [List.mem_cons, List.not_mem_nil, or_false] at hq
          rcases hq with q | q | q | q
          · exact ⟨_, by rw [q]; exact hE₂⟩
          · exact ⟨_, by rw [q]; exact hS₂⟩
          · obtain ⟨o', e'⟩ := S.old _ _ hst₂
            exact ⟨o', by rw [q]; exact e'⟩
          · obtain ⟨o', _, _, e', _⟩ := ns₂
            exact ⟨o', by rw [q]; exact e'⟩
        · obtain ⟨o, e⟩ := hWo a ha
          exact ⟨o, kps a o hq e⟩
    · have : sns.toList.length = sns.size := Array.length_toList
      omega
    · omega
    · intro l e b q
      have := hcz l e b q
      omega
    · have hd : cs.drop j = c :: cs.drop (j + 1) := drop_at hc
      have ht : cs.take (j + 1) = cs.take j ++ [c] := take_at hc
      have kh₂ : ∀ b ∈ framesOf (env :: outer), b ∈ env.locals :: Wd := hLW
      rcases hr with ⟨v', st', ev, rfl, hstep, kb, ⟨n1, hS3⟩, ⟨evs', n2, hE3, hev⟩, hsv3⟩ | ⟨e, l, rfl, hstep, hx⟩
      · obtain ⟨h₃, tk₃, rfl, k₃⟩ := kb
        have ns₃ := ns_keep ns₂ (h' := h₃) fun o e => k₃ _ _ (by
          simp only [List.mem_cons, List.not_mem_nil, or_false]
          rintro (q | q)
          · exact nL aE (by simp) q.symm
          · exact nL aS (by simp) q.symm) e
        refine wpAny_storeName_local k4 ns₃ (fun h₄ ns₄ sb₄ => ?_) hp
        have k34 : ∀ b o, (hideAll h₃ (env.locals :: Wd)).get? b = some o → (hideAll h₄ (env.locals :: Wd)).get? b = some o := fun b o e => by
          have hb : b ∉ env.locals :: Wd := fun q => by rw [hideAll_none _ q] at e; cases e
          exact hideAll_get _ ((sb₄.2 b fun q => hb (by rw [q]; exact .head _)).trans (of_hideAll _ e)) hb
        have k23 : ∀ b o, (hideAll h₂ (env.locals :: Wd)).get? b = some o → (hideAll h₃ (env.locals :: Wd)).get? b = some o := fun b o e => by
          have hb : b ∉ env.locals :: Wd := fun q => by rw [hideAll_none _ q] at e; cases e
          refine hideAll_get _ (k₃ b o (fun q => hb ?_) (of_hideAll _ e)) hb
          simp only [List.mem_cons, List.not_mem_nil, or_false] at q
          rcases q with q | q
          · rw [q]; exact .tail _ hW.1
          · rw [q]; exact .tail _ hW.2.1
        have rd₄ := ReadsAll.keeps (fun b o e => k34 b o (k23 b o (kph b o e))) hEv'
        have st₄ : St (j + 1) h₄ := Wk.frame _ _ _ hst₂ fun b hb o e => by
          refine (sb₄.2 b fun q => hfp.2.2 b hb (by rw [frE, q]; exact .head _)).trans (k₃ b o ?_ e)
          simp only [List.mem_cons, List.not_mem_nil, or_false]
          rintro (q | q)
          · exact hfp.1 (q ▸ hb)
          · exact hfp.2.1 (q ▸ hb)
        have kp₄ : ∀ b o, b ∉ [aE, aS, I, env.locals] → s.heap.get? b = some o → h₄.get? b = some o := fun b o hb e => by
          refine (sb₄.2 b fun q => hb (by simp [q])).trans (k₃ b o (fun q => hb ?_) (kps b o hb e))
          simp only [List.mem_cons, List.not_mem_nil, or_false] at q ⊢
          rcases q with q | q
          · exact .inl q
          · exact .inr (.inl q)
        have hE₄ : h₄.get? aE = some (W.listOf evs' n2) := (sb₄.2 aE (nL aE (by simp))).trans hE3
        have hS₄ : h₄.get? aS = some (W.listOf (sns.push vv) n1) := (sb₄.2 aS (nL aS (by simp))).trans hS3
        have sg₄ : SgAll tx (sns.push vv).toList (cs.take (j + 1)) := by rw [ht, Array.toList_push]; exact hSn'.snoc hsg
        have cz₄ := step_len hstep hcz
        have hsv4 : StV (hideAll h₄ (env.locals :: Wd)) v' st' := StV.keeps k34 hsv3
        have sz := hez'
        rw [hd] at t1 t2
        simp only [runP, hstep] at t1 t2
        match ev, hstep, hev, t1, t2 with
        | none, hstep, hev, t1, t2 =>
          have hev : evs' = evs := hev
          subst hev
          exact wpAny_execs_nil ⟨cs.length + 1 - (j + 1), by omega, j + 1, h₄, _, _, v', st', evs', _, _, _, E, _, rfl, rfl, by omega, by omega, st₄, ns₄, by rw [if_neg (by decide), if_neg (by decide)]; exact hm2, by rw [if_pos rfl], hsv4, hE₄, hS₄, rd₄, sg₄, t1, t2, kp₄, cz₄, by omega⟩
        | some l, hstep, hev, t1, t2 =>
          obtain ⟨x, asx, rfl, rdx⟩ := hev
          obtain ⟨as', rd₅⟩ := ReadsAll.snoc rd₄ (Reads.keeps k34 rdx)
          exact wpAny_execs_nil ⟨cs.length + 1 - (j + 1), by omega, j + 1, h₄, _, _, v', st', evs.push x, _, _, _, E ++ [.list ((zs l).map PyData.int)], as', rfl, rfl, by omega, by omega, st₄, ns₄, by rw [if_neg (by decide), if_neg (by decide)]; exact hm2, by rw [if_pos rfl], hsv4, hE₄, hS₄, by rw [Array.toList_push]; exact rd₅, sg₄, by rw [List.append_assoc]; exact t1, t2, kp₄, cz₄, by rw [Array.size_push]; omega⟩
      · rw [hd] at t1 t2
        simp only [runP, hstep] at t1 t2
        obtain ⟨ea, t, tk₃, u, h₃, Bz, rfl, rfl, fl, tu, tn, x1, x2, ⟨⟨n1, y1⟩, ⟨n2, y2⟩⟩⟩ := hx
        have pass : Exc9 [aE, aS, I, env.locals] (env :: outer) s (msgOf l) (RBad St cs i0 tx aE aS (env.locals :: Wd) tot (msgOf l)) (.ref ea) { s with heap := h₃, toks := tk₃ } := by
          refine ⟨ea, t, tk₃, u, h₃, Bz, rfl, rfl, fl, tu, tn, fun b o hb hfb q => ?_, fun b o hb q hn => ?_, ?_⟩
          · refine x1 b o (fun q' => hb ?_) hfb (kps b o hb q)
            simp only [List.mem_cons, List.not_mem_nil, or_false] at q' ⊢
            rcases q' with q' | q'
            · exact .inl q'
            · exact .inr (.inl q')
          · refine x2 b o (fun q' => hb ?_) (kps b o hb q) hn
            simp only [List.mem_cons, List.not_mem_nil, or_false] at q' ⊢
            rcases q' with q' | q'
            · exact .inl q'
            · exact .inr (.inl q')
          · have kB : ∀ b o, (hideAll h' (env.locals :: Wd)).get? b = some o → (hideAll Bz (env.locals :: Wd)).get? b = some o := fun b o e => by
              have e₂ := kph b o e
              have hb : b ∉ env.locals :: Wd := fun q => by rw [hideAll_none _ q] at e; cases e
              refine hideAll_get _ (x1 b o (fun q => hb ?_) (fun q => hb (hLW b q)) (of_hideAll _ e₂)) hb
              simp only [List.mem_cons, List.not_mem_nil, or_false] at q
              rcases q with q | q
              · rw [q]; exact .tail _ hW.1
              · rw [q]; exact .tail _ hW.2.1
            refine ⟨j, evs, sns.push vv, n2, n1, E, as, hlt, hij, ?_, y2, y1, ReadsAll.keeps kB hEv', ?_, t1, t2, hez'⟩
            · refine Wk.frame _ _ _ hst₂ fun b hb o e => x1 b o ?_ (hfp.2.2 b hb) e
              simp only [List.mem_cons, List.not_mem_nil, or_false]
              rintro (q | q)
              · exact hfp.1 (q ▸ hb)
              · exact hfp.2.1 (q ▸ hb)
            · rw [ht, Array.toList_push]; exact hSn'.snoc hsg
        exact exc_pass B.stack hf pass fun s' hx' => hR _ _ _ hx'
  · have hje : j = cs.length := by omega
    subst hje
    refine Wk.done _ _ _ hst' fun h₁ tk₁ kp₁ => ?_
    refine wpAny_execs_nil ?_
    rw [List.drop_length] at t1 t2
    have t1 : E ++ [] = tot.1 := t1
    have t2 : st = tot.2 := t2
    rw [List.append_nil] at t1
    rw [List.take_length] at hSn'
    have ns₁ := ns_keep hns' (h' := h₁) fun o e => kp₁ _ _ (by simp only [List.mem_singleton]; exact fun q => nL I (by simp) q.symm) e
    have kph : ∀ b o, (hideAll h' (env.locals :: Wd)).get? b = some o → (hideAll h₁ (env.locals :: Wd)).get? b = some o := fun b o e => by
      have hb : b ∉ env.locals :: Wd := fun q => by rw [hideAll_none _ q] at e; cases e
      exact hideAll_get _ (kp₁ b o (by simp only [List.mem_singleton]; exact fun q => hb (by rw [q]; exact .tail _ hW.2.2)) (of_hideAll _ e)) hb
    exact hQ h₁ _ m' v evs sns nE nS as ns₁ hm3 (t2 ▸ StV.keeps kph hsv) (kp₁ _ _ (by simpa using ne2) hE') (kp₁ _ _ (by simpa using ne3) hS') (t1 ▸ ReadsAll.keeps kph hEv') hSn' fun b o hb e => kp₁ _ _ (by simp only [List.mem_singleton]; exact fun q => hb (by simp [q])) (kp b o hb e)
end Mine

namespace Mine

/-- a place where the walker halts -/
structure Stop (P : Prop) : Prop where
  out : P
theorem stop_here {P : Prop} (h : Stop P) : P := h.out

theorem entry_iter : entryFor table "iter" = some Builtin.«iter» := entryFor_of_fast (by kernel_rfl)
theorem args_iter (a : Value) : argsOk "iter" ⟨[a], []⟩ := by unfold argsOk; kernel_rfl
theorem iter_call {prog : Program} {w : World} {A : Around} {v : Value} {Q : Value → Shared → Prop} {E : Value → Shared → Prop} {s : Shared} (h : wpAny (model prog w) A.in1 (pyIter v) Q E s) :
    wpAny (model prog w) A (call (.builtin "iter") [v]) Q E s := by
  refine call_function_entry (by decide +kernel) (by decide +kernel) entry_iter (args_iter _) ?_
  unfold Builtin.«iter»
  refine wpAny_bind (m := someArgs "iter" 1 2 _) (wpAny_of_eq (a := [v]) (by first | rfl | kernel_rfl!) ?_)
  show wpAny _ _ (pyIter v >>= _) _ _ _
  refine wpAny_bind (wpAny_mono h (fun x s' hx => ?_) fun _ _ y => y)
  exact wpAny_pure ⟨_, rfl, hx⟩
theorem iter_self {prog : Program} {w : World} {A : Around} {I : Addr} {fp : List Addr} {tx : Bool} {cs : List Nat} {P : Nat → Value → Prop} {St : Nat → Heap → Prop} {Q : Value → Shared → Prop} {E : Value → Shared → Prop} {s : Shared} {h₀ : Heap} {L : Addr} {m : Str → Option Value} {i0 : Nat}
    (S : Src prog w I fp tx cs P St) (F : Fr h₀ L s.heap m) (hst : St i0 h₀) (hh : A.handled = none) (h : Q (.ref I) s) : wpAny (model prog w) A (call (.builtin "iter") [.ref I]) Q E s :=
  iter_call ((S.walks A.in1 hh).self i0 s Q E ((S.walks A.in1 hh).frame _ _ _ hst fun b _ o e => F.keep b o e) h)

local macro_rules | `(tactic| walk_at "call builtin:iter") => `(tactic| (k_here; (with_reducible show wpAny _ _ (call (Value.builtin "iter") [Value.ref _]) _ _ _); k_dflt (refine' iter_self ?S ?F ?t ?hh ?_; (case S => assumption); (case F => k_asm); (case t => assumption); (case hh => exact rfl); k_whole)))
local macro_rules | `(tactic| walk_at "exec For") => `(tactic| (k_here; k_dflt (refine' stop_here ?_; k_whole)))

/-- what reduce leaves -/
inductive RedPost (Wd : List Addr) (outer : List Env) (aE aS I : Addr) (St : Nat → Heap → Prop) (cs : List Nat) (i0 : Nat) (tx : Bool) (tot : List PyData × Mine.St) (s : Shared) (r : Result) (s' : Shared) : Prop
  | ok (v : Value) (h' : Heap) (tk : Nat) (evs' sns' : Array Value) (nE' nS' : Nat) (as' : List Addr) (a1 : r = .ok (.ret v)) (a2 : s' = { s with heap := h', toks := tk }) (a3 : StV (hideAll h' Wd) v tot.2) (a4 : h'.get? aE = some (W.listOf evs' nE')) (a5 : h'.get? aS = some (W.listOf sns' nS'))
      (a6 : ReadsAll (hideAll h' Wd) evs'.toList tot.1 as') (a7 : SgAll tx sns'.toList cs) (a8 : ∀ b o, b ∉ [aE, aS, I] → s.heap.get? b = some o → h'.get? b = some o) : RedPost Wd outer aE aS I St cs i0 tx tot s r s'
  | err (e : Value) (msg : Str) (a1 : r = .error e) (a2 : Exc9 [aE, aS, I] outer s msg (RBad St cs i0 tx aE aS Wd tot msg) e s') : RedPost Wd outer aE aS I St cs i0 tx tot s r s'

theorem hide_less {h : Heap} {L : Addr} {Wd : List Addr} : ∀ b o, (hideAll h (L :: Wd)).get? b = some o → (hideAll h Wd).get? b = some o := fun b o e => by
  have hb : b ∉ L :: Wd := fun q => by rw [hideAll_none _ q] at e; cases e
  exact hideAll_get _ (of_hideAll _ e) fun q => hb (.tail _ q)

section
variable {w : World} {A : Around} {b0 : Heap} {outer : List Env} {s : Shared} {p : Program} {loose : List Str} {mean : ExcName → Option Value} {mg mb : Str → Option Value}
variable (X : (hd.heap_39 w.params).In b0) (T : Top p loose mean mg mb b0) (B : Below A b0 outer s.heap)
include X T B
theorem reduce_spec (hD : A.depth ≤ 780) (hh : A.handled = none)
    {I f c' cE cS aE aS : Addr} {fp : List Addr} {cs : List Nat} {tx : Bool} {P : Nat → Value → Prop} {St : Nat → Heap → Prop}
    {Wd : List Addr} {i0 : Nat} {tot : List PyData × Mine.St} {evs sns : Array Value} {nE nS : Nat} {E0 : List PyData} {as0 : List Addr}
    (S : Src PySem.Challenge.rw_nq0018_01.row.prog w I fp tx cs P St) (hst : St i0 s.heap) (hi : i0 ≤ cs.length) (hlen : cs.length ≤ 900)
    (C : Clo s.heap f c' cE cS aE aS) (hE : s.heap.get? aE = some (W.listOf evs nE)) (hS : s.heap.get? aS = some (W.listOf sns nS))
    (off0 : b0.get? aE = none ∧ b0.get? aS = none ∧ b0.get? I = none) (hfrm : ∀ a ∈ [aE, aS, I], a ∉ framesOf outer) (ne1 : aE ≠ aS) (ne2 : aE ≠ I) (ne3 : aS ≠ I)
    (hfp : aE ∉ fp ∧ aS ∉ fp ∧ ∀ a ∈ fp, a ∉ framesOf outer) (hfpo : ∀ a ∈ fp, ∃ o, s.heap.get? a = some o) (hcl : ∀ a ∈ [f, c', cE, cS], a ∉ [aE, aS, I])
    (hW : aE ∈ Wd ∧ aS ∈ Wd ∧ I ∈ Wd) (hWf : ∀ a ∈ framesOf outer, a ∈ Wd) (hWo : ∀ a ∈ Wd, ∃ o, s.heap.get? a = some o)
    (hEv : ReadsAll (hideAll s.heap Wd) evs.toList E0 as0) (hSn : SgAll tx sns.toList (cs.take i0)) (hez : evs.size ≤ i0)
    (tot1 : E0 ++ (runP (cs.drop i0) none).1 = tot.1) (tot2 : (runP (cs.drop i0) none).2 = tot.2) :
    codeAny (model PySem.Challenge.rw_nq0018_01.row.prog w) A (.call (.ref 23) ⟨[.ref f, .ref I, .none], []⟩) (RedPost Wd outer aE aS I St cs i0 tx tot s) s := by
  revert S
  revert X
  k_fill
  intro X S
  have hA := B.stack
  obtain ⟨hd9, dp, fr9, gs9, us9⟩ := A
  dsimp only at hh hA hD
  subst hh hA
  refine' enter_pure (binds := [(Str.ofString "function", .ref f), (Str.ofString "sequence", .ref I), (Str.ofString "initial", .none)]) X T B ?k6 ?k7 ?k8 ?k9 ?kB ?_ ?c2 ?c3 ?c4 ?c5
  case k6 => k_is
  case k7 => k_is
  case k8 => unfold recursionLimit; dsimp only; omega
  case k9 => (refine' binds_K (X.keeps B.stays) ?a ?b ?c ?d ?e; (case a => exact rfl); (case b => k_is); (case c => exact rfl); (case d => exact rfl); (case e => exact rfl))
  case kB => exact locs rfl
  case c2 => exact rfl
  case c3 => exact rfl
  case c4 => exact rfl
  case c5 => decide
  intro L' h' F' N' B' X' T'
  (try dsimp only)
  k_steps
  rename_i F' N'
  refine ⟨?_⟩
  have lt : ∀ b o, s.heap.get? b = some o → b ≠ L' := fun b o q => Nat.ne_of_lt (Nat.lt_of_lt_of_le (Heap.lt_size q) F'.above)
  have frE : ∀ a, a ∉ framesOf outer → (∃ o, s.heap.get? a = some o) → a ∉ L' :: framesOf outer := fun a h1 h2 q => by
    rcases List.mem_cons.mp q with q | q
    · obtain ⟨o, e⟩ := h2; exact lt a o e q
    · exact h1 q
  have oldM : ∀ a ∈ [aE, aS, I], ∃ o, s.heap.get? a = some o := fun a ha => by
    simp only [List.mem_cons, List.not_mem_nil, or_false] at ha
    rcases ha with q | q | q
    · exact ⟨_, q ▸ hE⟩
    · exact ⟨_, q ▸ hS⟩
    · obtain ⟨o, e⟩ := S.old _ _ hst; exact ⟨o, q ▸ e⟩
  refine' reduce_loop (tot := tot) (Wd := Wd) (fp := fp) (cs := cs) (tx := tx) (P := P) (St := St) (i0 := i0) (c' := c') (cE := cE) (cS := cS) (aE := aE) (aS := aS) (f := f) (I := I) (L := L') (b0 := b0) (outer := outer) X T ?hD ?hh ?gB ?r1 ?r2 ?r3 ?r4 ?r5 ?r6 ?r7 F'.ns ?m1 ?m2 ?m3 S ?g1 hi hlen ?g2 (F'.keep _ _ hE) (F'.keep _ _ hS) off0 ?g3 ne1 ne2 ne3 ⟨hfp.1, hfp.2.1, ?g4⟩ ?g5 hW hWf ?g6 ?g7 hSn hez tot1 tot2 ?g8 ?g9
  case hD => dsimp only; omega
  case hh => exact rfl
  case gB => exact pushX B' F' rfl rfl
  case r1 => exact rfl
  case r2 => exact rfl
  case r3 => exact rfl
  case r4 => exact rfl
  case r5 => exact rfl
  case r6 => exact rfl
  case r7 => exact rfl
  case m1 => exact rfl
  case m2 => exact rfl
  case m3 => exact rfl
  case g1 => exact (S.walks _ rfl : Walks _ _ { handled := none, depth := 0, frames := none, guards := none, units := 0 } _ _ _ _ _ _).frame _ _ _ hst fun b _ o e => F'.keep b o e
  case g2 => exact C.keeps fun b _ o e => F'.keep b o e
  case g3 => exact fun a ha => frE a (hfrm a ha) (oldM a ha)
  case g4 => exact fun a ha => frE a (hfp.2.2 a ha) (hfpo a ha)
  case g5 =>
    intro a ha q
    have q' : a ∈ [aE, aS, I] ∨ a = L' := by
      simp only [List.mem_cons, List.not_mem_nil, or_false] at q ⊢
      rcases q with q | q | q | q
      · exact .inl (.inl q)
      · exact .inl (.inr (.inl q))
      · exact .inl (.inr (.inr q))
      · exact .inr q
    rcases q' with q' | q'
    · exact hcl a ha q'
    · obtain ⟨o, e⟩ := C.old a ha
      exact lt a o e q'
  case g6 => exact fun a ha => let ⟨o, e⟩ := hWo a ha; ⟨o, F'.keep a o e⟩
  case g7 =>
    refine ReadsAll.keeps (fun b o e => ?_) hEv
    have hb : b ∉ Wd := fun q => by rw [hideAll_none _ q] at e; cases e
    have e' := of_hideAll _ e
    exact hideAll_get _ (F'.keep b o e') fun q => by
      rcases List.mem_cons.mp q with q | q
      · exact lt b o e' q
      · exact hb q
  case g8 =>
    intro h₁ tk₁ m₁ v evs' sns' nE' nS' as' ns₁ hv hsv hE' hS' rd sg kp
    show wpAny _ _ (execs [.Return (some (.Name _ _)) _] _) _ _ _
    refine wpAny_execs_cons (wpAny_Return_some (wpAny_Name (wpAny_loadName_local rfl rfl ns₁ hv ?_) (by decide)))
    exact .ok v h₁ _ evs' sns' nE' nS' as' rfl rfl (StV.keeps hide_less hsv) hE' hS' (ReadsAll.keeps hide_less rd) sg (fun b o hb e => kp b o (fun q => by
      simp only [List.mem_cons, List.not_mem_nil, or_false] at q hb
      rcases q with q | q | q | q
      · exact hb (.inl q)
      · exact hb (.inr (.inl q))
      · exact hb (.inr (.inr q))
      · exact lt b o e q) (F'.keep b o e))
  case g9 =>
    intro msg e s₁ hx
    obtain ⟨ea, t, tk₁, u, h₁, Bz, rfl, rfl, fl, tu, tn, x1, x2, j, evs', sns', nE', nS', E, as, y1, y2, y3, y4, y5, y6, y7, y8, y9, y10⟩ := hx
    have up : ∀ b o, b ∉ [aE, aS, I] → s.heap.get? b = some o → b ∉ [L', aE, aS, I, L'] := fun b o hb e q => by
      simp only [List.mem_cons, List.not_mem_nil, or_false] at q hb
      rcases q with q | q | q | q | q
      · exact lt b o e q
      · exact hb (.inl q)
      · exact hb (.inr (.inl q))
      · exact hb (.inr (.inr q))
      · exact lt b o e q
    exact .err _ msg rfl ⟨ea, t, tk₁, u, h₁, Bz, rfl, rfl, fl, tu, tn, fun b o hb hf e => x1 b o (up b o hb e) hf (F'.keep b o e), fun b o hb e hn => x2 b o (up b o hb e) (F'.keep b o e) hn,
      j, evs', sns', nE', nS', E, as, y1, y2, y3, y4, y5, ReadsAll.keeps hide_less y6, y7, y8, y9, y10⟩
end
end Mine

namespace Mine

def dataOf : Mine.St → PyData
  | none => .none
  | some (cs, e, b) => .tuple [.list ((zs cs).map PyData.int), .bool e, .bool b]
def sgData (tx : Bool) (cs : List Nat) : List PyData := cs.map fun c => if tx then PyData.str ⟨#[c]⟩ else PyData.int (c : Int)
theorem StV.reads {h : Heap} {v : Value} {st : Mine.St} (x : StV h v st) : ∃ as, Reads h v (dataOf st) as := by
  match st, x with
  | none, x => cases x; exact ⟨_, .none⟩
  | some (cs, e, b), ⟨ta, ca, cits, hv, ⟨o, ho, hc, n, hd⟩, hl, hi⟩ =>
    subst hv
    exact ⟨_, .tuple ho hc hd (.cons (reads_of_ints (vs := cits.toList) hl hi) (.cons (.bool _) (.cons (.bool _) .nil)))⟩
theorem SgAll.reads (h : Heap) {tx : Bool} {vs : List Value} {cs : List Nat} (x : SgAll tx vs cs) : ∃ as, ReadsAll h vs (sgData tx cs) as := by
  induction x with
  | nil => exact ⟨_, .nil⟩
  | cons a _ ih =>
    obtain ⟨as, r⟩ := ih
    cases tx with
    | true => obtain ⟨t, rfl⟩ := a; exact ⟨_, .cons (.str _ _) r⟩
    | false => obtain ⟨t, rfl⟩ := a; exact ⟨_, .cons (.int _ _) r⟩

theorem funFrames_old {h base : Heap} : ∀ {l : List Env}, h.FunFrames base l → ∀ a ∈ framesOf l, base.get? a = none ∧ ∃ o, h.get? a = some o ∧ ∀ vs, o.data ≠ .fields vs
  | [], _, a, ha => by cases ha
  | env :: l, ⟨_, ⟨L, o, hf, hn, ho, hd⟩, hr⟩, a, ha => by
    have e : framesOf (env :: l) = L :: framesOf l := by simp [framesOf, hf]
    rw [e] at ha
    rcases List.mem_cons.mp ha with rfl | ha
    · exact ⟨hn, o, ho, hd⟩
    · exact funFrames_old hr a ha

/-- what stands between two turns of the loop of _law_read -/
inductive DInv (St : Nat → Heap → Prop) (cs : List Nat) (tx : Bool) (f aE aS I L J : Addr) (outer : List Env) (Wd : List Addr) (tot : List PyData × Mine.St) (s : Shared) (k : Nat) (s' : Shared) : Prop
  | mk (i j : Nat) (h' : Heap) (tk : Nat) (m' : Str → Option Value) (evs sns : Array Value) (nE nS : Nat) (Ed : List PyData) (as : List Addr) (a1 : s' = { s with heap := h', toks := tk }) (a2 : k = cs.length + 2 - i) (a3 : i ≤ j) (a4 : j ≤ cs.length)
    (a5 : IsRangeIter h' J (0 + (i : Nat) * 1) (((cs.length + 1 : Nat) : Int) - (i : Nat)) 1) (a6 : St j h') (a7 : h'.Ns L m') (a8 : m' (Str.ofString "step") = some (.ref f)) (a9 : m' (Str.ofString "rest") = some (.ref I)) (b1 : m' (Str.ofString "events") = some (.ref aE)) (b2 : m' (Str.ofString "seen") = some (.ref aS))
    (b3 : h'.get? aE = some (W.listOf evs nE)) (b4 : h'.get? aS = some (W.listOf sns nS)) (b5 : ReadsAll (hideAll h' Wd) evs.toList Ed as) (b6 : SgAll tx sns.toList (cs.take j))
    (b7 : Ed ++ (runP (cs.drop j) none).1 = tot.1) (b8 : (runP (cs.drop j) none).2 = tot.2) (b9 : ∀ b o, b ∉ [aE, aS, I, L] → b ∉ framesOf outer → s.heap.get? b = some o → h'.get? b = some o)
    (c1 : ∀ b o, b ∉ [aE, aS, I, L] → s.heap.get? b = some o → (∀ vs, o.data ≠ .fields vs) → ∃ sl, h'.get? b = some { o with slots := sl }) (c2 : evs.size ≤ j) : DInv St cs tx f aE aS I L J outer Wd tot s k s'

theorem read_loop {w : World} {A : Around} {b0 : Heap} {outer : List Env} {s : Shared} {p : Program} {loose : List Str} {mean : ExcName → Option Value} {mg mb : Str → Option Value} {env : Env}
    {L I f c' cE cS aE aS r : Addr} {fp : List Addr} {cs : List Nat} {tx : Bool} {P : Nat → Value → Prop} {St : Nat → Heap → Prop} {tot : List PyData × Mine.St} {N : Int} {tr ur vr : Tok}
    {px q1 q2 q3 q4 q5 q6 q7 q8 q9 q10 q11 q12 q13 q14 q15 q16 q17 q18 q19 q20 q21 q22 : Pos} {k0 k1 : Nat} {m₀ : Str → Option Value} {nE nS : Nat} {Q : Flow → Shared → Prop} {E E' : Value → Shared → Prop}
    (X : (hd.heap_39 w.params).In b0) (T : Top p loose mean mg mb b0) (hD : A.depth ≤ 770) (hu : A.units ≤ 1000) (hh : A.handled = none) (B : Below (A.deeper env) b0 (env :: outer) s.heap)
    (hf : env.frame = some L) (hke : env.scope.kind = .function) (hlo : env.locals = L)
    (kt : env.kindOf (Str.ofString "turn") = some .local) (kst : env.kindOf (Str.ofString "state") = some .local) (kstep : env.kindOf (Str.ofString "step") = some .local) (krest : env.kindOf (Str.ofString "rest") = some .local)
    (kev : env.kindOf (Str.ofString "events") = some .local) (kse : env.kindOf (Str.ofString "seen") = some .local) (ker : env.kindOf (Str.ofString "error") = some .local)
    (hi9 : interactive env = false)
    (hmc : ∃ pl : Sem Bool, eval (.Call (.Attribute (.Name (Str.ofString "events") q14) (Str.ofString "append") q15) [.Call (.Name (Str.ofString "str") q16) [.Name (Str.ofString "error") q17] [] q18] [] q19) env = (do
      let ov ← eval (.Name (Str.ofString "events") q14) env
      standAt q15.atName
      let (f, first) ← holding [ov] (getMethod ov (Str.ofString "append") pl)
      callWith q19 f first (backTo q19 (starEach [.Call (.Name (Str.ofString "str") q16) [.Name (Str.ofString "error") q17] [] q18] env)) []))
    (nRed : ∀ (A' : Around) (Q' : Value → Shared → Prop) (E' : Value → Shared → Prop) (s' : Shared), (∀ b o, b0.get? b = some o → s'.heap.get? b = some o) → Q' (.ref 23) s' → wpAny (model PySem.Challenge.rw_nq0018_01.row.prog w) A' (eval (.Name (Str.ofString "reduce") q2) env) Q' E' s')
    (nVE : ∀ (A' : Around) (Q' : Value → Shared → Prop) (E' : Value → Shared → Prop) (s' : Shared), (∀ b o, b0.get? b = some o → s'.heap.get? b = some o) → Q' (.type "ValueError") s' → wpAny (model PySem.Challenge.rw_nq0018_01.row.prog w) A' (eval (.Name (Str.ofString "ValueError") q13) env) Q' E' s')
    (nStr : ∀ (A' : Around) (Q' : Value → Shared → Prop) (E' : Value → Shared → Prop) (s' : Shared), (∀ b o, b0.get? b = some o → s'.heap.get? b = some o) → Q' (.type "str") s' → wpAny (model PySem.Challenge.rw_nq0018_01.row.prog w) A' (eval (.Name (Str.ofString "str") q16) env) Q' E' s')
    (hkp : keepIn (hd.heap_39 w.params) (.ref 23) = true)
    (hns : s.heap.Ns L m₀) (h1 : m₀ (Str.ofString "step") = some (.ref f)) (h2 : m₀ (Str.ofString "rest") = some (.ref I)) (h3 : m₀ (Str.ofString "events") = some (.ref aE)) (h4 : m₀ (Str.ofString "seen") = some (.ref aS))
    (S : Src PySem.Challenge.rw_nq0018_01.row.prog w I fp tx cs P St) (hst : St 0 s.heap) (hlen : cs.length ≤ 900)
    (C : Clo s.heap f c' cE cS aE aS) (hE : s.heap.get? aE = some (W.listOf #[] nE)) (hS : s.heap.get? aS = some (W.listOf #[] nS))
    (off0 : b0.get? aE = none ∧ b0.get? aS = none ∧ b0.get? I = none) (hfrm : ∀ a ∈ [aE, aS, I], a ∉ framesOf (env :: outer)) (ne1 : aE ≠ aS) (ne2 : aE ≠ I) (ne3 : aS ≠ I)
    (hfp : aE ∉ fp ∧ aS ∉ fp ∧ ∀ a ∈ fp, a ∉ framesOf (env :: outer)) (hfpo : ∀ a ∈ fp, ∃ o, s.heap.get? a = some o) (hcl : ∀ a ∈ [f, c', cE, cS], a ∉ [aE, aS, I] ∧ a ∉ framesOf (env :: outer))
    (tot1 : (runP cs none).1 = tot.1) (tot2 : (runP cs none).2 = tot.2)
    (hr : IsRange s.heap r 0 N 1 tr ur vr) (hsmall : Builtin.Range.small 0 N 1 = true) (hrs : Builtin.Range.rangeSize 0 N 1 = ((cs.length + 1 : Nat) : Int))
    (hQ : ∀ D h' tk as, Reads h' (.ref D) (.tuple [.list tot.1, .list (sgData tx cs), dataOf tot.2]) as → (∀ b o, b ∉ [aE, aS, I, L] → b ∉ framesOf outer → s.heap.get? b = some o → h'.get? b = some o) →
      (∀ b o, b ∉ [aE, aS, I, L] → s.heap.get? b = some o → (∀ vs, o.data ≠ .fields vs) → ∃ sl, h'.get? b = some { o with slots := sl }) → Q (.ret (.ref D)) { s with heap := h', toks := tk }) :
    wpAny (model PySem.Challenge.rw_nq0018_01.row.prog w) (A.deeper env) (pyIter (.ref r)) (fun it s₂ => codeAny (model PySem.Challenge.rw_nq0018_01.row.prog w) (A.deeper env)
      (.forLoop (.Name (Str.ofString "turn") px) it
        [.Try [.Assign [.Name (Str.ofString "state") q1] (.Call (.Name (Str.ofString "reduce") q2) [.Name (Str.ofString "step") q3, .Name (Str.ofString "rest") q4, .Constant .none k0 q5] [] q6) q7,
            .Return (some (.Tuple [.Name (Str.ofString "events") q8, .Name (Str.ofString "seen") q9, .Name (Str.ofString "state") q10] k1 q11)) q12]
          [.ExceptHandler (some (.Name (Str.ofString "ValueError") q13)) (some (Str.ofString "error")) [.Expr (.Call (.Attribute (.Name (Str.ofString "events") q14) (Str.ofString "append") q15) [.Call (.Name (Str.ofString "str") q16) [.Name (Str.ofString "error") q17] [] q18] [] q19) q20] q21] [] [] q22] [] env)
      (fun r s' => match r with | .ok f => Q f s' | .error e => E' e s') s₂) E s := by
  have hh' : (A.deeper env).handled = none := hh
  subst hlo
  have frE : framesOf (env :: outer) = env.locals :: framesOf outer := by simp [framesOf, hf]
  have hp : (env.scope.kind == .class || (env.scope.kind == .module && env.locals != env.globals)) = false := by rw [hke]; rfl
  refine wpAny_pyIter_range hr hsmall ?_
  have ltJ : ∀ b o, s.heap.get? b = some o → b ≠ s.heap.objs.size := fun b o e => Nat.ne_of_lt (Heap.lt_size e)
  have frOld := funFrames_old B.frames
  have hMfr : ∀ a ∈ [aE, aS, I], a ≠ env.locals := fun a ha q => hfrm a ha (by rw [frE, q]; exact .head _)
  have hoI : ∃ o, s.heap.get? I = some o := S.old _ _ hst
  have oldM : ∀ a ∈ [aE, aS, I], ∃ o, s.heap.get? a = some o := fun a ha => by
    simp only [List.mem_cons, List.not_mem_nil, or_false] at ha
    rcases ha with q | q | q
    · exact ⟨_, q ▸ hE⟩
    · exact ⟨_, q ▸ hS⟩
    · rw [q]; exact hoI
  have hMJ : ∀ a ∈ [aE, aS, I], a ≠ s.heap.objs.size := fun a ha => let ⟨o, e⟩ := oldM a ha; ltJ a o e
  have WR := Walks.range (prog := PySem.Challenge.rw_nq0018_01.row.prog) (w := w) (A := A.deeper env) hh' s.heap.objs.size 0 1 (cs.length + 1)
  obtain ⟨Wd, hWd⟩ : ∃ Wd, Wd = s.heap.objs.size :: (aE :: aS :: I :: framesOf (env :: outer)) := ⟨_, rfl⟩
  have wJ : s.heap.objs.size ∈ Wd := by rw [hWd]; exact .head _
  have wM : ∀ a ∈ [aE, aS, I], a ∈ Wd := fun a ha => by
    rw [hWd]
    simp only [List.mem_cons, List.not_mem_nil, or_false] at ha ⊢
    rcases ha with q | q | q
    · exact .inr (.inl q)
    · exact .inr (.inr (.inl q))
    · exact .inr (.inr (.inr (.inl q)))
  have wF : ∀ a ∈ framesOf (env :: outer), a ∈ Wd := fun a ha => by rw [hWd]; exact .tail _ (.tail _ (.tail _ (.tail _ ha)))
  have hLW : env.locals ∈ Wd := wF _ (by rw [frE]; exact .head _)
  refine codeAny_forLoop (DInv St cs tx f aE aS I env.locals s.heap.objs.size outer Wd tot s) ?_ (cs.length + 2)
    ⟨0, 0, _, s.toks, m₀, #[], #[], nE, nS, [], [], rfl, rfl, Nat.le_refl _, Nat.zero_le _, ?_, ?_, hns.push _, h1, h2, h3, h4, Heap.get?_push_of_some _ hE, Heap.get?_push_of_some _ hS, .nil, by rw [List.take_zero]; exact .nil, tot1, tot2,
      fun b o _ _ e => Heap.get?_push_of_some _ e, fun b o _ e _ => ⟨o.slots, Heap.get?_push_of_some _ e⟩, Nat.le_refl _⟩
  case refine_2 => show IsRangeIter _ _ _ _ _; rw [hrs]; simpa using Heap.get?_push_size _ rfl
  case refine_3 => exact (S.walks (A.deeper env) hh').frame _ _ _ hst fun b _ o e => Heap.get?_push_of_some _ e
  rintro k s' ⟨i, j, h', tk, m', evs, sns, nE, nS, Ed, as, rfl, rfl, hij, hj, hR, hst', hns', hm1, hm2, hm3, hm4, hE', hS', hEv, hSn, t1, t2, kp1, kp2, hez⟩
  refine WR.item i _ _ _ (by omega) hR fun vv h₁ tk₁ hPv hR₁ kp₁ => ?_
  show wpAny _ _ _ _ _ _
  k_fold
  have ns₁ := ns_keep hns' (h' := h₁) fun o e => kp₁ _ _ (by
    simp only [List.mem_singleton]
    obtain ⟨o', _, _, e', _⟩ := hns
    exact ltJ _ _ e') e
  refine wpAny_assign_Name (wpAny_storeName_local kt ns₁ (fun h₂ ns₂ sb₂ => ?_) hp)
  show wpAny _ _ _ _ _ _
  k_fold
  have k₂ : ∀ b o, b ≠ s.heap.objs.size → b ≠ env.locals → h'.get? b = some o → h₂.get? b = some o := fun b o q1 q2 e => (sb₂.2 b q2).trans (kp₁ b o (by simpa using q1) e)
  have hR₂ := WR.frame _ _ h₂ hR₁ fun b hb o e => by
    rw [List.mem_singleton] at hb
    refine (sb₂.2 b fun q => ?_).trans e
    obtain ⟨o', _, _, e', _⟩ := hns
    exact ltJ _ _ e' (q.symm.trans hb)
  have ks₂ : ∀ b o, b ∉ [aE, aS, I, env.locals] → b ∉ framesOf outer → s.heap.get? b = some o → h₂.get? b = some o := fun b o hb hfb e => k₂ b o (ltJ b o e) (fun q => hb (by simp [q])) (kp1 b o hb hfb e)
  have ku₂ : ∀ b o, b ∉ [aE, aS, I, env.locals] → s.heap.get? b = some o → (∀ vs, o.data ≠ .fields vs) → ∃ sl, h₂.get? b = some { o with slots := sl } := fun b o hb e hn => by
    obtain ⟨sl, e'⟩ := kp2 b o hb e hn
    exact ⟨sl, k₂ b _ (ltJ b o e) (fun q => hb (by simp [q])) e'⟩
  have hE₂ : h₂.get? aE = some (W.listOf evs nE) := k₂ _ _ (hMJ aE (by simp)) (hMfr aE (by simp)) hE'
  have hS₂ : h₂.get? aS = some (W.listOf sns nS) := k₂ _ _ (hMJ aS (by simp)) (hMfr aS (by simp)) hS'
  have hst₂ : St j h₂ := (S.walks (A.deeper env) hh').frame _ _ _ hst' fun b hb o e => by
    obtain ⟨o', e'⟩ := hfpo b hb
    exact k₂ b o (ltJ b o' e') (fun q => hfp.2.2 b hb (by rw [frE, q]; exact .head _)) e
  have nclo : ∀ b ∈ [f, c', cE, cS], b ∉ [aE, aS, I, env.locals] ∧ b ∉ framesOf outer := fun b hb => by
    obtain ⟨x, y⟩ := hcl b hb
    rw [frE] at y
    refine ⟨fun q => ?_, fun q => y (.tail _ q)⟩
    simp only [List.mem_cons, List.not_mem_nil, or_false] at q x y
    rcases q with q | q | q | q
    · exact x (.inl q)
    · exact x (.inr (.inl q))
    · exact x (.inr (.inr q))
    · exact y (.inl q)
  have C₂ : Clo h₂ f c' cE cS aE aS := C.keeps fun b hb o e => ks₂ b o (nclo b hb).1 (nclo b hb).2 e
  have off : ∀ b o, b0.get? b = some o → b ∉ [aE, aS, I, env.locals] ∧ b ∉ framesOf (env :: outer) := fun b o e => by
    have hfb : b ∉ framesOf (env :: outer) := fun q => by rw [(frOld b q).1] at e; cases e
    refine ⟨fun q => ?_, hfb⟩
    simp only [List.mem_cons, List.not_mem_nil, or_false] at q
    rcases q with q | q | q | q
    · rw [q, off0.1] at e; cases e
    · rw [q, off0.2.1] at e; cases e
    · rw [q, off0.2.2] at e; cases e
    · exact hfb (by rw [frE, q]; exact .head _)
  have inO : ∀ b, b ∉ framesOf (env :: outer) → b ∉ framesOf outer := fun b h q => h (by rw [frE]; exact .tail _ q)
  have b0₂ : ∀ b o, b0.get? b = some o → h₂.get? b = some o := fun b o e => ks₂ b o (off b o e).1 (inO b (off b o e).2) (B.stays b o e)
  have frM : ∀ b ∈ framesOf (env :: outer), b ≠ env.locals → b ∉ [aE, aS, I, env.locals] := fun b hb hq q => by
    simp only [List.mem_cons, List.not_mem_nil, or_false] at q
    rcases q with q | q | q | q
    · exact hfrm aE (by simp) (q ▸ hb)
    · exact hfrm aS (by simp) (q ▸ hb)
    · exact hfrm I (by simp) (q ▸ hb)
    · exact hq q
  have B₂ : Below (A.deeper env) b0 (env :: outer) h₂ := by
    refine ⟨B.stack, b0₂, funFrames_of (fun b hb o e hn => ?_) B.frames⟩
    by_cases hq : b = env.locals
    · obtain ⟨o', es, ep, e', hd', _⟩ := ns₂
      exact ⟨o', by rw [hq]; exact e', fun vs q => by rw [hd'] at q; cases q⟩
    · obtain ⟨sl, e'⟩ := ku₂ b o (frM b hb hq) e hn
      exact ⟨_, e', hn⟩
  have fr₂ : ∀ b ∈ framesOf (env :: outer), ∃ o, h₂.get? b = some o := fun b hb => let ⟨_, o, e, _⟩ := funFrames_old B₂.frames b hb; ⟨o, e⟩
  refine wpAny_execs_cons (wpAny_Try_except (wpAny_execs_cons (wpAny_Assign_Name (Call_ (nRed _ _ _ _ b0₂ ?_)))))
  refine callWith_K (K := hd.heap_39 w.params) X hkp ?_
  refine spliced_more (wpAny_Name (wpAny_loadName_local hke kstep ns₂ (v := .ref f) (by rw [if_neg (by decide)]; exact hm1) ?_) (by decide))
  refine spliced_more (wpAny_Name (wpAny_loadName_local hke krest ns₂ (v := .ref I) (by rw [if_neg (by decide)]; exact hm2) ?_) (by decide))
  refine spliced_more (wpAny_Constant_none ?_)
  refine spliced_none ⟨X.keeps b0₂, ?_⟩
  refine wpAny_call (codeAny_mono (reduce_spec (s := { s with heap := h₂, toks := tk₁ + 1 }) (Wd := Wd) (tot := tot) (i0 := j) (as0 := as) (outer := env :: outer) X T B₂ ?d1 hh' S hst₂ hj hlen C₂ hE₂ hS₂ off0 hfrm ne1 ne2 ne3 hfp ?d2 (fun a ha => (hcl a ha).1) ⟨wM aE (by simp), wM aS (by simp), wM I (by simp)⟩ wF ?d3 ?d4 hSn hez t1 t2) fun r s₃ hr => ?_)
  case d1 => rw [depth_deeper]; omega
  case d2 =>
    intro a ha
    by_cases hq : a = I
    · rw [hq]; exact S.old _ _ hst₂
    · obtain ⟨o, e⟩ := hfpo a ha
      have nf := hfp.2.2 a ha
      refine ⟨o, ks₂ a o (fun q => ?_) (inO a nf) e⟩
      simp only [List.mem_cons, List.not_mem_nil, or_false] at q
      rcases q with q | q | q | q
      · exact hfp.1 (q ▸ ha)
      · exact hfp.2.1 (q ▸ ha)
      · exact hq q
      · exact nf (by rw [frE, q]; exact .head _)
  case d3 =>
    intro a ha
    rw [hWd] at ha
    rcases List.mem_cons.mp ha with q | ha
    · exact ⟨_, by rw [q]; exact hR₂⟩
    · rcases List.mem_cons.mp ha with q | ha
      · exact ⟨_, by rw [q]; exact hE₂⟩
      · rcases List.mem_cons.mp ha with q | ha
        · exact ⟨_, by rw [q]; exact hS₂⟩
        · rcases List.mem_cons.mp ha with q | ha
          · rw [q]; exact S.old _ _ hst₂
          · exact fr₂ a ha
  case d4 =>
    refine ReadsAll.keeps (fun b o e => ?_) hEv
    have hb : b ∉ Wd := fun q => by rw [hideAll_none _ q] at e; cases e
    exact hideAll_get _ (k₂ b o (fun q => hb (q ▸ wJ)) (fun q => hb (q ▸ hLW)) (of_hideAll _ e)) hb
  have hLM : env.locals ∉ [aE, aS, I] := fun q => hMfr _ q rfl
  rcases hr with ⟨v, h₃, tk₃, evs', sns', nE', nS', as', rfl, rfl, hsv, hE₃, hS₃, rd₃, sg₃, k₃⟩ | ⟨e, msg, rfl, hx⟩
  · have ns₃ := ns_keep ns₂ (h' := h₃) fun o e => k₃ _ _ hLM e
    refine wpAny_storeName_local kst ns₃ (fun h₄ ns₄ sb₄ => ?_) hp
    refine wpAny_execs_cons (wpAny_Return_some (Tuple_ ?_))
    refine spliced_more (wpAny_Name (wpAny_loadName_local hke kev ns₄ (v := .ref aE) (by rw [if_neg (by decide), if_neg (by decide)]; exact hm3) ?_) (by decide))
    refine spliced_more (wpAny_Name (wpAny_loadName_local hke kse ns₄ (v := .ref aS) (by rw [if_neg (by decide), if_neg (by decide)]; exact hm4) ?_) (by decide))
    refine spliced_more (wpAny_Name (wpAny_loadName_local hke kst ns₄ (v := v) (by rw [if_pos rfl]) ?_) (by decide))
    refine spliced_none (wpAny_newTuple ?_)
    have k34 : ∀ b o, (hideAll h₃ Wd).get? b = some o → ∀ o', (h₄.push o').get? b = some o := fun b o e o' => by
      have hb : b ∉ Wd := fun q => by rw [hideAll_none _ q] at e; cases e
      exact Heap.get?_push_of_some _ ((sb₄.2 b fun q => hb (q ▸ hLW)).trans (of_hideAll _ e))
    obtain ⟨as1, r1⟩ := StV.reads hsv
    obtain ⟨as2, r2⟩ := SgAll.reads (h₄.push { cls := .type "tuple", data := .seq [Value.ref aE, Value.ref aS, v].toArray }) sg₃
    refine hQ _ _ _ _ (Reads.tuple (Heap.get?_push_size _ rfl) rfl rfl (.cons (Reads.list (Heap.get?_push_of_some _ ((sb₄.2 aE (hMfr aE (by simp))).trans hE₃)) rfl rfl (ReadsAll.keeps (fun b o e => k34 b o e _) rd₃))
      (.cons (Reads.list (Heap.get?_push_of_some _ ((sb₄.2 aS (hMfr aS (by simp))).trans hS₃)) rfl rfl r2) (.cons (Reads.keeps (fun b o e => k34 b o e _) r1) .nil)))) (fun b o hb hfb e => ?_) fun b o hb e hn => ?_
    · refine Heap.get?_push_of_some _ ((sb₄.2 b fun q => hb (by simp [q])).trans (k₃ b o (fun q => hb ?_) (ks₂ b o hb hfb e)))
      simp only [List.mem_cons, List.not_mem_nil, or_false] at q ⊢
      rcases q with q | q | q
      · exact .inl q
      · exact .inr (.inl q)
      · exact .inr (.inr (.inl q))
    · obtain ⟨sl, e'⟩ := ku₂ b o hb e hn
      refine ⟨sl, Heap.get?_push_of_some _ ((sb₄.2 b fun q => hb (by simp [q])).trans (k₃ b _ (fun q => hb ?_) e'))⟩
      simp only [List.mem_cons, List.not_mem_nil, or_false] at q ⊢
      rcases q with q | q | q
      · exact .inl q
      · exact .inr (.inl q)
      · exact .inr (.inr (.inl q))
  · obtain ⟨ea, t, tk₃, u, h₃, Bz, rfl, rfl, fl, tu, tn, x1, x2, jj, evs', sns', nE', nS', E2, as2, y1, y2, y3, y4, y5, y6, y7, y8, y9, y10⟩ := hx
    refine wpAny_looks_onW (s := { s with heap := h₃, toks := tk₃ }) B.stack hf fl fun h₄ hd₄ u₄ => ?_
    refine wpAny_landsW hd₄ fun h₅ fl₅ u₅ => ?_
    obtain ⟨ob, hob, hobc⟩ := fl₅.there
    have b0B : ∀ b o, b0.get? b = some o → Bz.get? b = some o := fun b o e => by
      obtain ⟨n1, n2⟩ := off b o e
      refine x1 b o (fun q => n1 ?_) n2 (b0₂ b o e)
      simp only [List.mem_cons, List.not_mem_nil, or_false] at q ⊢
      rcases q with q | q | q
      · exact .inl q
      · exact .inr (.inl q)
      · exact .inr (.inr (.inl q))
    refine wpAny_handleBy_builtin_as (X := "ValueError") (T := "ValueError") (b := true) PySem.F.isExc_ValueError PySem.F.notTuple_ValueError (by rw [isSubtype_type]; kernel_rfl) (nVE _ _ _ _ (fun b o e => fl₅.1 _ _ (b0B b o e)) ⟨rfl, ⟨ob, hob, hobc⟩, ?_⟩)
    refine lands_againW fl₅ fun h₆ fl₆ u₆ => ?_
    have up := (u₄.trans u₅).trans u₆
    obtain ⟨oL, esL, epL, eL, dL, rL⟩ := ns₂
    obtain ⟨slL, eL₃⟩ := x2 _ oL hLM eL (fun vs q => by rw [dL] at q; cases q)
    have ns₃ : h₃.Ns env.locals (fun x => if x = Str.ofString "turn" then some vv else m' x) := ⟨{ oL with slots := slL }, esL, epL, eL₃, dL, rL⟩
    have ns₆ := up.ns ns₃
    refine wpAny_storeName_local ker ns₆ (fun h₇ ns₇ sb₇ => ?_) hp
    obtain ⟨oe, ws, hoe, hoec, hoed, hoe0⟩ := fl₆.first
    obtain ⟨ot, nt, hot, hotc, hotd⟩ := tu.of_slots up
    have neE : ea ≠ env.locals := fun q => by
      obtain ⟨o', _, _, e', d', _⟩ := ns₆
      rw [q, e'] at hoe; cases hoe; rw [d'] at hoed; cases hoed
    have neT : t ≠ env.locals := fun q => by
      obtain ⟨o', _, _, e', d', _⟩ := ns₆
      rw [q, e'] at hot; cases hot; rw [d'] at hotd; cases hotd
    have exc : h₇.ExcAt ea "ValueError" (.ref t) := ⟨oe, ws, (sb₇.2 _ neE).trans hoe, hoec, hoed, hoe0⟩
    have tup : h₇.TupAt t [.str msg u] := ⟨ot, nt, (sb₇.2 _ neT).trans hot, hotc, hotd⟩
    have kB7 : ∀ b o, b ≠ env.locals → Bz.get? b = some o → h₇.get? b = some o := fun b o q e => (sb₇.2 b q).trans (fl₆.1 b o e)
    have hE₇ : h₇.get? aE = some (W.listOf evs' nE') := kB7 _ _ (hMfr aE (by simp)) y4
    have b0₇ : ∀ b o, b0.get? b = some o → h₇.get? b = some o := fun b o e => kB7 b o (fun q => (off b o e).1 (by simp [q])) (b0B b o e)
    obtain ⟨pl, hmc⟩ := hmc
    refine wpAny_execs_cons (wpAny_Expr (MethodCall_ (he := hmc) (wpAny_Name (wpAny_loadName_local hke kev ns₇ (v := .ref aE) (by rw [if_neg (by decide), if_neg (by decide)]; exact hm3) ?_) (by decide))) hi9 rfl)
    refine getMethod_list_append hE₇ rfl rfl ?_
    refine callWith_method1 (spliced_more (Call_ (nStr _ _ _ _ b0₇ ?_)))
    refine callWith_type1 (spliced_more (wpAny_Name (wpAny_loadName_local hke ker ns₇ (v := .ref ea) (by rw [if_pos rfl]) ?_) (by decide)))
    refine spliced_none ?_
    refine PySem.P.str_of_exc_one PySem.F.excStr_ValueError ?_ exc tup ?_
    · simp only [Around.mark_units, units_deeper]
      unfold cLine
      omega
    refine spliced_none ?_
    refine append_at hE₇ (fun h₈ sb₈ hE₈ => ?_) (by rw [sizeLine_eq]; omega)
    refine wpAny_execs_nil ?_
    have ns₈ := ns_keep ns₇ (h' := h₈) fun o e => (sb₈.2 _ fun q => hMfr aE (by simp) q.symm).trans e
    refine wpAny_nameGoes_keeps ker ns₈ hp fun h₉ vx ns₉ sb₉ => ?_
    refine wpAny_execs_nil ?_
    have k79 : ∀ b o, b ≠ aE → b ≠ env.locals → h₇.get? b = some o → h₉.get? b = some o := fun b o q1 q2 e => (sb₉.2 b q2).trans ((sb₈.2 b q1).trans e)
    have kB9 : ∀ b o, b ≠ aE → b ≠ env.locals → Bz.get? b = some o → h₉.get? b = some o := fun b o q1 q2 e => k79 b o q1 q2 (kB7 b o q2 e)
    have hidB9 : ∀ b o, (hideAll Bz Wd).get? b = some o → (hideAll h₉ Wd).get? b = some o := fun b o e => by
      have hb : b ∉ Wd := fun q => by rw [hideAll_none _ q] at e; cases e
      exact hideAll_get _ (kB9 b o (fun q => hb (q ▸ wM aE (by simp))) (fun q => hb (q ▸ hLW)) (of_hideAll _ e)) hb
    obtain ⟨as3, rd₉⟩ := ReadsAll.snoc (ReadsAll.keeps hidB9 y6) (Reads.str msg u)
    have nJ : s.heap.objs.size ∉ [aE, aS, I] ∧ s.heap.objs.size ∉ framesOf (env :: outer) := ⟨fun q => hMJ _ q rfl, fun q => by
      obtain ⟨_, o, e, _⟩ := frOld _ q
      exact ltJ _ o e rfl⟩
    refine ⟨cs.length + 2 - (i + 1), by omega, i + 1, jj + 1, h₉, _, _, evs'.push (.str msg u), sns', nE' + 1, nS', E2 ++ [.str msg], as3, rfl, rfl, by omega, by omega, ?_, ?_, ns₉, ?_, ?_, ?_, ?_, ?_, ?_, ?_, y7, ?_, y9, ?_, ?_, ?_⟩
    · refine WR.frame _ _ h₉ hR₂ fun b hb o e => ?_
      rw [List.mem_singleton] at hb
      subst hb
      exact kB9 _ o (fun q => hMJ aE (by simp) q.symm) (fun q => nJ.2 (by rw [frE, q]; exact .head _)) (x1 _ o nJ.1 nJ.2 e)
    · refine (S.walks (A.deeper env) hh').frame _ _ _ y3 fun b hb o e => kB9 b o (fun q => hfp.1 (q ▸ hb)) (fun q => hfp.2.2 b hb (by rw [frE, q]; exact .head _)) e
    · rw [if_neg (by decide), if_neg (by decide), if_neg (by decide)]; exact hm1
    · rw [if_neg (by decide), if_neg (by decide), if_neg (by decide)]; exact hm2
    · rw [if_neg (by decide), if_neg (by decide), if_neg (by decide)]; exact hm3
    · rw [if_neg (by decide), if_neg (by decide), if_neg (by decide)]; exact hm4
    · exact (sb₉.2 _ (hMfr aE (by simp))).trans hE₈
    · exact kB9 _ _ (Ne.symm ne1) (hMfr aS (by simp)) y5
    · rw [Array.toList_push]; exact rd₉
    · rw [List.append_assoc]; exact y8
    · intro b o hb hfb e
      have hbL : b ≠ env.locals := fun q => hb (by simp [q])
      refine kB9 b o (fun q => hb (by simp [q])) hbL (x1 b o (fun q => hb ?_) (fun q => ?_) (ks₂ b o hb hfb e))
      · simp only [List.mem_cons, List.not_mem_nil, or_false] at q ⊢
        rcases q with q | q | q
        · exact .inl q
        · exact .inr (.inl q)
        · exact .inr (.inr (.inl q))
      · rw [frE] at q
        rcases List.mem_cons.mp q with q | q
        · exact hbL q
        · exact hfb q
    · intro b o hb e hn
      obtain ⟨sl, e₂⟩ := ku₂ b o hb e hn
      obtain ⟨sl₃, e₃⟩ := x2 b _ (fun q => hb (by
        simp only [List.mem_cons, List.not_mem_nil, or_false] at q ⊢
        rcases q with q | q | q
        · exact .inl q
        · exact .inr (.inl q)
        · exact .inr (.inr (.inl q)))) e₂ hn
      obtain ⟨sl₆, e₆⟩ := up b _ e₃ hn
      have hbL : b ≠ env.locals := fun q => hb (by simp [q])
      exact ⟨sl₆, k79 b _ (fun q => hb (by simp [q])) hbL ((sb₇.2 b hbL).trans e₆)⟩
    · rw [Array.size_push]; omega
end Mine

namespace Mine

theorem ints_at {vs : List Value} {ms : List Int} (h : IntsAre vs ms) : ∀ (i : Nat) (v : Value), vs[i]? = some v → ∃ m t, ms[i]? = some m ∧ v = .int m t := by
  induction h with
  | nil => intro i v q; simp at q
  | cons a b _ ih =>
    intro i v q
    cases i with
    | zero => simp at q; exact ⟨_, _, by simp, q.symm⟩
    | succ i => simp only [List.getElem?_cons_succ] at q ⊢; exact ih i v q
theorem ints_len {vs : List Value} {ms : List Int} (h : IntsAre vs ms) : vs.length = ms.length := by
  induction h with
  | nil => rfl
  | cons _ _ _ ih => simp [ih]

theorem src_list {prog : Program} {w : World} {I l : Addr} {its : Array Value} {cs : List Nat} (hne : l ≠ I) (hI : IntsAre its.toList (zs cs)) :
    Src prog w I [I, l] false cs (fun i v => its[i]? = some v) (fun i h => h.IsListIter I l i ∧ h.IsList l its) where
  walks := fun A' hh => by
    have e : cs.length = its.size := by have := ints_len hI; simp [zs] at this; omega
    rw [e]; exact Walks.list hh I l hne its
  sign := fun i v hv hi => by
    obtain ⟨m, t, hm, rfl⟩ := ints_at hI i v (by rw [Array.getElem?_toList]; exact hv)
    refine ⟨cs[i], by simp [hi], t, ?_⟩
    simp only [zs, List.getElem?_map, List.getElem?_eq_getElem hi] at hm
    cases hm
    rfl
  old := fun i h hs => by obtain ⟨⟨o, e, _⟩, _⟩ := hs; exact ⟨o, e⟩

theorem iter_listK {prog : Program} {w : World} {A : Around} {l : Addr} {its : Array Value} {cs : List Nat} {Q : Value → Shared → Prop} {E : Value → Shared → Prop} {s : Shared} {h₀ : Heap} {L : Addr} {m : Str → Option Value} {news : List (Addr × Obj)}
    (F : Fr h₀ L s.heap m) (N : News h₀ L s.heap news) (hl : h₀.IsList l its) (hI : IntsAre its.toList (zs cs))
    (h : ∀ I o P St h', Src prog w I [I, l] false cs P St → (∀ h'', h''.get? I = some o → (∀ b o, h₀.get? b = some o → h''.get? b = some o) → St 0 h'') → Fr h₀ L h' m → News h₀ L h' ((I, o) :: news) → (∀ q ∈ news, q.1 < I) → Q (.ref I) { s with heap := h' }) :
    wpAny (model prog w) A (call (.builtin "iter") [.ref l]) Q E s := by
  have hl' : s.heap.IsList l its := hl.at fun o e => F.keep _ _ e
  have hne : l ≠ s.heap.objs.size := by
    obtain ⟨o, ho, _⟩ := hl'
    exact Nat.ne_of_lt (Heap.lt_size ho)
  refine iter_call (wpAny_pyIter_list hl' ?_)
  exact h _ _ _ _ _ (src_list hne hI) (fun h'' e k => ⟨⟨_, e, rfl, rfl⟩, hl.at fun o e' => k _ _ e'⟩) (F.push _) (News.push F N _ rfl) fun q hq => Heap.lt_size (N q hq).1


theorem name_fn {M : Model} {env : Env} {b0 : Heap} {K : Frag} {x : Str} {pos : Pos} {v : Value} {mg : Str → Option Value} (X : K.In b0) (G : b0.Ns mainGlobals mg) (e : nsIn K mainGlobals x = some (some v))
    (hk : env.scope.kind = .function) (hx : env.kindOf x = some .globalImplicit) (hg : env.globals = mainGlobals) (hd : (x == ("__debug__" : Str)) = false) :
    ∀ (A' : Around) (Q' : Value → Shared → Prop) (E' : Value → Shared → Prop) (s' : Shared), (∀ b o, b0.get? b = some o → s'.heap.get? b = some o) → Q' v s' → wpAny M A' (eval (.Name x pos) env) Q' E' s' :=
  fun A' Q' E' s' hb hq => Name_function_global hk hx (loadGlobal_global (by rw [hg]; exact G.keeps hb) (mg_of X G e) hq) hd
theorem name_bi {M : Model} {env : Env} {b0 : Heap} {K : Frag} {x : Str} {pos : Pos} {v : Value} {p : Program} {loose : List Str} {mg mb : Str → Option Value} (X : K.In b0) (T : TopRead p loose mg mb b0) (e : nsIn K mainGlobals x = some none) (hv : bootBuiltins x = some v) (hn : x ≠ "__name__")
    (hk : env.scope.kind = .function) (hx : env.kindOf x = some .globalImplicit) (hg : env.globals = mainGlobals) (hb9 : env.builtins = builtinsNs) (hd : (x == ("__debug__" : Str)) = false) :
    ∀ (A' : Around) (Q' : Value → Shared → Prop) (E' : Value → Shared → Prop) (s' : Shared), (∀ b o, b0.get? b = some o → s'.heap.get? b = some o) → Q' v s' → wpAny M A' (eval (.Name x pos) env) Q' E' s' :=
  fun A' Q' E' s' hb hq => Name_function_global hk hx (loadGlobal_builtin (by rw [hg]; exact T.g.keeps hb) (mg_none_of X T.g e) (by rw [hb9]; exact T.b.keeps hb) ((T.builtins x hn).trans hv) hq) hd

theorem nm3 {x a b c : Nat} (h : x ≠ a ∧ x ≠ b ∧ x ≠ c) : x ∉ [a, b, c] := fun q => match q with
  | .head _ => h.1 rfl
  | .tail _ (.head _) => h.2.1 rfl
  | .tail _ (.tail _ (.head _)) => h.2.2 rfl
theorem cl_ne {f c cE cS aE aS I : Nat} (h : (f ≠ aE ∧ f ≠ aS ∧ f ≠ I) ∧ (c ≠ aE ∧ c ≠ aS ∧ c ≠ I) ∧ (cE ≠ aE ∧ cE ≠ aS ∧ cE ≠ I) ∧ (cS ≠ aE ∧ cS ≠ aS ∧ cS ≠ I)) : ∀ a ∈ [f, c, cE, cS], a ∉ [aE, aS, I] :=
  List.forall_mem_cons.mpr ⟨nm3 h.1, List.forall_mem_cons.mpr ⟨nm3 h.2.1, List.forall_mem_cons.mpr ⟨nm3 h.2.2.1, List.forall_mem_cons.mpr ⟨nm3 h.2.2.2, fun _ q => nomatch q⟩⟩⟩⟩
theorem n_ne {x aE aS I L : Nat} (h : x ≠ aE ∧ x ≠ aS ∧ x ≠ I ∧ x ≠ L) : x ∉ [aE, aS, I, L] := fun q => match q with
  | .head _ => h.1 rfl
  | .tail _ q => nm3 h.2 q
theorem news_fr {A : Around} {b0 g h : Heap} {outer : List Env} {L : Addr} {news : List (Addr × Obj)} {env : Env} {q : Addr} {o : Obj} (B : Below A b0 outer g) (N : News g L h news) (hm : (q, o) ∈ news) (hf : env.frame = some L) : q ∉ framesOf (env :: outer) := by
  have frE : framesOf (env :: outer) = L :: framesOf outer := by simp [framesOf, hf]
  rw [frE]
  intro hq
  rcases List.mem_cons.mp hq with e | hq
  · exact (N _ hm).2.1 e
  · obtain ⟨_, o', e, _⟩ := funFrames_old B.frames _ hq
    rw [(N _ hm).2.2] at e; cases e

theorem sub3 {b a1 a2 a3 a4 : Addr} (h : b ∉ [a1, a2, a3, a4]) : b ∉ [a1, a2, a3] := fun q => h (by
  simp only [List.mem_cons, List.not_mem_nil, or_false] at q ⊢
  rcases q with q | q | q
  · exact .inl q
  · exact .inr (.inl q)
  · exact .inr (.inr (.inl q)))

theorem range_size (n : Nat) : Builtin.Range.rangeSize 0 ((n : Int) + 1) 1 = ((n + 1 : Nat) : Int) := by
  simp [Builtin.Range.rangeSize]
theorem range_small (n : Nat) (h : n ≤ 900) : Builtin.Range.small 0 ((n : Int) + 1) 1 = true := by
  have e := range_size n
  unfold Builtin.Range.small
  rw [e]
  simp [Builtin.Range.rangeFitsLong]
  omega

/-- what _law_read leaves -/
inductive ReadPost (outer : List Env) (d : PyData) (s : Shared) (r : Result) (s' : Shared) : Prop
  | mk (D : Addr) (h' : Heap) (tk : Nat) (as : List Addr) (c' : Addr) (a1 : r = .ok (.ret (.ref D))) (a2 : s' = { s with heap := h', toks := tk }) (a3 : Reads h' (.ref D) d as) (a4 : ∀ b o, b ≠ 100 → b ∉ framesOf outer → s.heap.get? b = some o → h'.get? b = some o)
    (a5 : ∀ b o, b ≠ 100 → s.heap.get? b = some o → (∀ vs, o.data ≠ .fields vs) → ∃ sl, h'.get? b = some { o with slots := sl }) (a6 : h'.get? 100 = some (tabObj #[rawInt 99, rawInt 4, .ref c']))
    (a7 : ∃ oc vs t, h'.get? c' = some oc ∧ oc.data = .fields vs ∧ vs[1]? = some (.str stepQ t)) (a8 : c' ∉ framesOf outer) : ReadPost outer d s r s'

theorem read_end {w : World} {A : Around} {b0 g h : Heap} {outer : List Env} {s : Shared} {tk : Nat} {p : Program} {loose : List Str} {mean : ExcName → Option Value} {mg mb : Str → Option Value} {env : Env}
    {L I f c' cE cS aE aS r : Addr} {fp : List Addr} {cs : List Nat} {tx : Bool} {P : Nat → Value → Prop} {St : Nat → Heap → Prop} {N : Int} {tr ur vr : Tok} {m : Str → Option Value} {news : List (Addr × Obj)}
    {px q1 q2 q3 q4 q5 q6 q7 q8 q9 q10 q11 q12 q13 q14 q15 q16 q17 q18 q19 q20 q21 q22 : Pos} {k0 k1 : Nat} {E E' : Value → Shared → Prop} {Q : Flow → Shared → Prop}
    {sp : Arguments} {sb : List Stmt} {ss : Scope} {qq : Str} {doc pm ctv : Value} {oI oE oS : Obj} {ps : Array Value}
    (X : (hd.heap_39 w.params).In b0) (T : Top p loose mean mg mb b0) (hD : A.depth ≤ 770) (hu : A.units ≤ 1000) (hh : A.handled = none) (B : Below A b0 outer g) (G : GoesOn [100] s.heap g) (F : Fr g L h m) (Nw : News g L h news)
    (S : Src PySem.Challenge.rw_nq0018_01.row.prog w I fp tx cs P St) (st0 : ∀ h'', h''.get? I = some oI → (∀ b o, g.get? b = some o → h''.get? b = some o) → St 0 h'') (hlen : cs.length ≤ 900)
    (hr : IsRange h r 0 N 1 tr ur vr)
    (hf : env.frame = some L) (hke : env.scope.kind = .function) (hlo : env.locals = L)
    (kt : env.kindOf (Str.ofString "turn") = some .local) (kst : env.kindOf (Str.ofString "state") = some .local) (kstep : env.kindOf (Str.ofString "step") = some .local) (krest : env.kindOf (Str.ofString "rest") = some .local)
    (kev : env.kindOf (Str.ofString "events") = some .local) (kse : env.kindOf (Str.ofString "seen") = some .local) (ker : env.kindOf (Str.ofString "error") = some .local)
    (hi9 : interactive env = false)
    (hmc : ∃ pl : Sem Bool, eval (.Call (.Attribute (.Name (Str.ofString "events") q14) (Str.ofString "append") q15) [.Call (.Name (Str.ofString "str") q16) [.Name (Str.ofString "error") q17] [] q18] [] q19) env = (do
      let ov ← eval (.Name (Str.ofString "events") q14) env
      standAt q15.atName
      let (f, first) ← holding [ov] (getMethod ov (Str.ofString "append") pl)
      callWith q19 f first (backTo q19 (starEach [.Call (.Name (Str.ofString "str") q16) [.Name (Str.ofString "error") q17] [] q18] env)) []))
    (nRed : ∀ (A' : Around) (Q' : Value → Shared → Prop) (E' : Value → Shared → Prop) (s' : Shared), (∀ b o, b0.get? b = some o → s'.heap.get? b = some o) → Q' (.ref 23) s' → wpAny (model PySem.Challenge.rw_nq0018_01.row.prog w) A' (eval (.Name (Str.ofString "reduce") q2) env) Q' E' s')
    (nVE : ∀ (A' : Around) (Q' : Value → Shared → Prop) (E' : Value → Shared → Prop) (s' : Shared), (∀ b o, b0.get? b = some o → s'.heap.get? b = some o) → Q' (.type "ValueError") s' → wpAny (model PySem.Challenge.rw_nq0018_01.row.prog w) A' (eval (.Name (Str.ofString "ValueError") q13) env) Q' E' s')
    (nStr : ∀ (A' : Around) (Q' : Value → Shared → Prop) (E' : Value → Shared → Prop) (s' : Shared), (∀ b o, b0.get? b = some o → s'.heap.get? b = some o) → Q' (.type "str") s' → wpAny (model PySem.Challenge.rw_nq0018_01.row.prog w) A' (eval (.Name (Str.ofString "str") q16) env) Q' E' s')
    (hkp : keepIn (hd.heap_39 w.params) (.ref 23) = true)
    (h1 : m (Str.ofString "step") = some (.ref f)) (h2 : m (Str.ofString "rest") = some (.ref I)) (h3 : m (Str.ofString "events") = some (.ref aE)) (h4 : m (Str.ofString "seen") = some (.ref aS))
    (nI : (I, oI) ∈ news) (nf : (f, fnMade (Str.ofString "step") qq sp sb ss [(Str.ofString "seen", cS), (Str.ofString "events", cE)] doc pm c' ctv) ∈ news) (ncS : (cS, oS) ∈ news) (ncE : (cE, oE) ∈ news) (naS : (aS, W.listOf #[] 0) ∈ news) (naE : (aE, W.listOf #[] 0) ∈ news) (n100 : (100, tabObj ps) ∈ news)
    (hqq : qq = stepQ) (hsp : sp = stepParams) (hsb : sb = stepBody) (hss : ss = stepScope) (dS : oS.data = .cell (some (.ref aS))) (dE : oE.data = .cell (some (.ref aE)))
    (hcode : ∃ oc vs t, h.get? c' = some oc ∧ oc.data = .fields vs ∧ vs[1]? = some (.str stepQ t)) (hps : ps = #[rawInt 99, rawInt 4, .ref c'])
    (ne1 : @Ne Nat aE aS) (ne2 : @Ne Nat aE I) (ne3 : @Ne Nat aS I) (hcl : ∀ a ∈ [f, c', cE, cS], a ∉ [aE, aS, I]) (cfr : c' ∉ framesOf (env :: outer)) (n9 : (100 : Addr) ∉ [aE, aS, I, L])
    (f100 : ∀ env ∈ outer, env.frame ≠ some 100) (hfp : ∀ a ∈ fp, a = I ∨ ((∃ o, g.get? a = some o) ∧ a ∉ framesOf outer))
    (hN : N = (cs.length : Int) + 1)
    (hQ : ∀ v s', ReadPost outer (.tuple [.list (runP cs none).1, .list (sgData tx cs), dataOf (runP cs none).2]) s (.ok (.ret v)) s' → Q (.ret v) s') :
    wpAny (model PySem.Challenge.rw_nq0018_01.row.prog w) (A.deeper env) (pyIter (.ref r)) (fun it s₂ => codeAny (model PySem.Challenge.rw_nq0018_01.row.prog w) (A.deeper env)
      (.forLoop (.Name (Str.ofString "turn") px) it
        [.Try [.Assign [.Name (Str.ofString "state") q1] (.Call (.Name (Str.ofString "reduce") q2) [.Name (Str.ofString "step") q3, .Name (Str.ofString "rest") q4, .Constant .none k0 q5] [] q6) q7,
            .Return (some (.Tuple [.Name (Str.ofString "events") q8, .Name (Str.ofString "seen") q9, .Name (Str.ofString "state") q10] k1 q11)) q12]
          [.ExceptHandler (some (.Name (Str.ofString "ValueError") q13)) (some (Str.ofString "error")) [.Expr (.Call (.Attribute (.Name (Str.ofString "events") q14) (Str.ofString "append") q15) [.Call (.Name (Str.ofString "str") q16) [.Name (Str.ofString "error") q17] [] q18] [] q19) q20] q21] [] [] q22] [] env)
      (fun r s' => match r with | .ok f => Q f s' | .error e => E' e s') s₂) E { s with heap := h, toks := tk } := by
  subst hqq hsp hsb hss hps hN
  have frE : framesOf (env :: outer) = L :: framesOf outer := by simp [framesOf, hf]
  have frO := funFrames_old B.frames
  have B₁ := pushX B F hf hke
  have newF : ∀ a, g.get? a = none → a ≠ L → a ∉ framesOf (env :: outer) := fun a hg hl q => by
    rw [frE] at q
    rcases List.mem_cons.mp q with q | q
    · exact hl q
    · obtain ⟨_, o, e, _⟩ := frO a q
      rw [hg] at e; cases e
  have newN : ∀ q ∈ news, q.1 ∉ framesOf (env :: outer) := fun q hq => newF _ (Nw q hq).2.2 (Nw q hq).2.1
  have off : ∀ q ∈ news, b0.get? q.1 = none := fun q hq => by
    cases e : b0.get? q.1 with
    | none => rfl
    | some o => have := B.stays _ _ e; rw [(Nw q hq).2.2] at this; cases this
  have oldL : ∀ b o, g.get? b = some o → b ≠ L := fun b o e => Nat.ne_of_lt (Nat.lt_of_lt_of_le (Heap.lt_size e) F.above)
  have oldM : ∀ b o, g.get? b = some o → b ∉ [aE, aS, I, L] := fun b o e q => by
    simp only [List.mem_cons, List.not_mem_nil, or_false] at q
    rcases q with q | q | q | q
    · rw [q, (Nw _ naE).2.2] at e; cases e
    · rw [q, (Nw _ naS).2.2] at e; cases e
    · rw [q, (Nw _ nI).2.2] at e; cases e
    · exact oldL b o e q
  have C : Clo h f c' cE cS aE aS := ⟨⟨doc, pm, ctv, (Nw _ nf).1⟩, hcode, ⟨oE, (Nw _ ncE).1, dE⟩, ⟨oS, (Nw _ ncS).1, dS⟩⟩
  have fr100 : (100 : Addr) ∉ framesOf outer := fun q => by
    obtain ⟨env', he, hb⟩ := List.mem_filterMap.mp q
    exact f100 env' he hb
  refine read_loop (tot := runP cs none) (s := { s with heap := h, toks := tk }) (outer := outer) (L := L) X T hD hu hh B₁ hf hke hlo kt kst kstep krest kev kse ker hi9 hmc nRed nVE nStr hkp F.ns h1 h2 h3 h4 S (st0 h (Nw _ nI).1 F.keep) hlen C (Nw _ naE).1 (Nw _ naS).1
    ⟨off _ naE, off _ naS, off _ nI⟩ ?g1 ne1 ne2 ne3 ⟨?g2, ?g3, ?g4⟩ ?g5 ?g6 rfl rfl hr ?g7 ?g8 ?g9
  case g1 =>
    intro a ha
    simp only [List.mem_cons, List.not_mem_nil, or_false] at ha
    rcases ha with q | q | q
    · rw [q]; exact newN _ naE
    · rw [q]; exact newN _ naS
    · rw [q]; exact newN _ nI
  case g2 =>
    intro q
    rcases hfp _ q with q | ⟨⟨o, e⟩, _⟩
    · exact ne2 q
    · rw [(Nw _ naE).2.2] at e; cases e
  case g3 =>
    intro q
    rcases hfp _ q with q | ⟨⟨o, e⟩, _⟩
    · exact ne3 q
    · rw [(Nw _ naS).2.2] at e; cases e
  case g4 =>
    intro a ha
    rcases hfp _ ha with q | ⟨⟨o, e⟩, n⟩
    · rw [q]; exact newN _ nI
    · rw [frE]
      intro q
      rcases List.mem_cons.mp q with q | q
      · exact oldL _ _ e q
      · exact n q
  case g5 =>
    intro a ha
    rcases hfp _ ha with q | ⟨⟨o, e⟩, n⟩
    · rw [q]; exact ⟨_, (Nw _ nI).1⟩
    · exact ⟨o, F.keep _ _ e⟩
  case g6 =>
    intro a ha
    refine ⟨hcl a ha, ?_⟩
    simp only [List.mem_cons, List.not_mem_nil, or_false] at ha
    rcases ha with q | q | q | q
    · rw [q]; exact newN _ nf
    · rw [q]; exact cfr
    · rw [q]; exact newN _ ncE
    · rw [q]; exact newN _ ncS
  case g7 => exact range_small cs.length hlen
  case g8 => exact range_size cs.length
  case g9 =>
    intro D h' tk' as rd kp ku
    refine hQ _ _ ⟨D, h', tk', as, c', rfl, rfl, rd, fun b o hb hfb e => ?_, fun b o hb e hn => ?_, kp _ _ n9 fr100 (Nw _ n100).1, ?_, fun q => cfr (by rw [frE]; exact .tail _ q)⟩
    · have e' := G b o (by simpa using hb) e
      exact kp b o (oldM b o e') hfb (F.keep b o e')
    · have e' := G b o (by simpa using hb) e
      exact ku b o (oldM b o e') (F.keep b o e') hn
    · obtain ⟨oc, vs, t, e, d, v⟩ := hcode
      refine ⟨oc, vs, t, kp _ _ (fun q => ?_) (fun q => cfr (by rw [frE]; exact .tail _ q)) e, d, v⟩
      have := hcl c' (by simp)
      simp only [List.mem_cons, List.not_mem_nil, or_false] at q this
      rcases q with q | q | q | q
      · exact this (.inl q)
      · exact this (.inr (.inl q))
      · exact this (.inr (.inr q))
      · exact cfr (by rw [frE, q]; exact .head _)

local macro_rules | `(tactic| walk_at "call builtin:iter") => `(tactic| (k_here; (with_reducible show wpAny _ _ (call (Value.builtin "iter") [Value.ref _]) _ _ _); k_dflt (refine' iter_listK ?F ?N ?l ?i ?_; (case F => k_asm); (case N => k_asm); (case l => assumption); (case i => assumption); k_whole; intro I' o' P' St' h' S' st0' F' N' l1; (try k_lt l1); (try k_sweep))))
local macro_rules | `(tactic| walk_at "exec For Name Call cons nil") => `(tactic| (k_here; k_dflt (refine' wpAny_For ?_ ?hs; (case hs => (intro x; exact rfl)); k_whole)))
local macro_rules | `(tactic| walk_at "pyIter ref") => `(tactic| (k_here; k_dflt (refine' stop_here ?_; k_whole)))
local macro_rules | `(tactic| k_room) => `(tactic| (simp only [depth_under_make, depth_under_kw, depth_in1, depth_deeper, recursionLimit] <;> omega))

section
variable {w : World} {A : Around} {b0 : Heap} {outer : List Env} {s : Shared} {p : Program} {loose : List Str} {mean : ExcName → Option Value} {mg mb : Str → Option Value}
variable (X : (hd.heap_39 w.params).In b0) (T : Top p loose mean mg mb b0) (B : Below A b0 outer s.heap)
include X T B
theorem read_list (hD : A.depth ≤ 700) (hu : A.units ≤ 900) (hh : A.handled = none) (C0 : CodeHd b0 104 100) (off : b0.get? 100 = none) (h100 : s.heap.get? 100 = some (tabObj #[])) (f100 : ∀ env ∈ outer, env.frame ≠ some 100)
    {l : Addr} {its : Array Value} {cs : List Nat} (hl : s.heap.IsList l its) (hI : IntsAre its.toList (zs cs)) (hlen : cs.length ≤ 900) (hlf : l ∉ framesOf outer) :
    codeAny (model PySem.Challenge.rw_nq0018_01.row.prog w) A (.call (.ref 112) ⟨[.ref l], []⟩) (ReadPost outer (.tuple [.list (runP cs none).1, .list (sgData false cs), dataOf (runP cs none).2]) s) s := by
  revert X
  k_fill
  intro X
  have hA := B.stack
  obtain ⟨hd9, dp, fr9, gs9, us9⟩ := A
  dsimp only at hh hA hD hu
  subst hh hA
  have hsz : its.size = cs.length := by have := ints_len hI; simp [zs] at this; omega
  have hl100 : l ∉ [100] := fun q => by
    obtain ⟨o, e, _, _, d⟩ := hl
    rw [List.mem_singleton.mp q, h100] at e; cases e; cases d
  refine' enter_led (binds := [(Str.ofString "things", .ref l)]) [(100, tabObj #[])] ?m0 ?m1 X T B ?k6 ?k7 ?k8 ?k9 ?kB ?_ ?c2 ?c3 ?c4 ?c5
  case m0 => intro q hq; cases List.mem_singleton.mp hq; exact ⟨h100, off⟩
  case m1 => intro env he a ha; cases List.mem_singleton.mp ha; exact f100 env he
  case k6 => k_is
  case k7 => k_is
  case k8 => unfold recursionLimit; dsimp only; omega
  case k9 => exact BindsTo.of_eq rfl
  case kB => exact locs rfl
  case c2 => exact rfl
  case c3 => exact rfl
  case c4 => exact rfl
  case c5 => decide
  intro g' L' h' G' F' N' B' X' T' l9
  have lifted : g'.IsList l its := hl.at fun o e => G' _ _ hl100 e
  have l0 : @LT.lt Nat _ 100 L' := l9 _ (.head _)
  clear l9
  (try dsimp only)
  k_steps
  refine ⟨?_⟩
  refine' read_end (w := w) (s := s) (outer := outer) X T ?a1 ?a2 ?a3 ?a4 ?a5 ?a6 ?a7 ?a8 ?a9 hlen ?b1 ?b2 ?b3 ?b4 ?b5 ?b6 ?b7 ?b8 ?b9 ?c1 ?c2 ?c3 ?c4 ?d1 ?d2 ?d3 ?d4 ?e1 ?e2 ?e3 ?e4 ?f1 ?f2 ?f3 ?f4 ?f5 ?f6 ?f7 ?g1 ?g2 ?g3 ?g4 ?g5 ?g6 ?h1 ?h2 ?i1 ?i2 ?i3 ?i4 ?i5 ?i6 f100 ?i7 ?i8 ?i9
  case a6 => k_asm
  case a4 => k_asm
  case a5 => exact G'
  case a7 => k_asm
  case a8 => k_asm
  case a9 => assumption
  case a3 => exact rfl
  case b1 => assumption
  case a1 => dsimp only; omega
  case a2 => dsimp only; omega
  case b2 => exact rfl
  case b3 => exact rfl
  case b4 => exact rfl
  case b5 => exact rfl
  case b6 => exact rfl
  case b7 => exact rfl
  case b8 => exact rfl
  case b9 => exact rfl
  case c1 => exact rfl
  case c2 => exact rfl
  case c3 => exact rfl
  case c4 => exact ⟨_, rfl⟩
  case d1 => (refine' name_fn X T.g ?x1 ?x2 ?x3 ?x4 ?x5; (case x1 => k_is); (case x2 => exact rfl); (case x3 => exact rfl); (case x4 => exact rfl); (case x5 => decide))
  case d2 => (refine' name_bi X (topRead_of T) ?x1 Boot.ValueError ?x6 ?x2 ?x3 ?x4 ?x7 ?x5; (case x1 => k_is); (case x2 => exact rfl); (case x3 => exact rfl); (case x4 => exact rfl); (case x5 => decide); (case x6 => decide); (case x7 => exact rfl))
  case d3 => (refine' name_bi X (topRead_of T) ?x1 boot_str ?x6 ?x2 ?x3 ?x4 ?x7 ?x5; (case x1 => k_is); (case x2 => exact rfl); (case x3 => exact rfl); (case x4 => exact rfl); (case x5 => decide); (case x6 => decide); (case x7 => exact rfl))
  case d4 => k_is
  case e1 => exact rfl
  case e2 => exact rfl
  case e3 => exact rfl
  case e4 => exact rfl
  case f1 => k_mem
  case f2 => k_mem
  case f3 => k_mem
  case f4 => k_mem
  case f5 => k_mem
  case f6 => k_mem
  case f7 => k_mem
  case g1 => exact rfl
  case g2 => exact rfl
  case g3 => exact rfl
  case g4 => exact rfl
  case g5 => assumption
  case g6 => assumption
  case h2 => exact rfl
  case h1 => exact ⟨_, _, _, News.get (by k_asm) (by k_mem), by assumption, by assumption⟩
  case i1 => refine neN ?_; omega
  case i2 => refine neN ?_; omega
  case i3 => refine neN ?_; omega
  case i4 => refine cl_ne ?_; omega
  case i5 => (refine' news_fr ?y1 ?y2 ?y3 ?y4; (case y1 => exact B'); (case y2 => k_asm); (case y3 => k_mem); (case y4 => exact rfl))
  case i6 => refine n_ne ?_; omega
  case i7 =>
    intro a ha
    simp only [List.mem_cons, List.not_mem_nil, or_false] at ha
    rcases ha with q | q
    · exact .inl q
    · refine .inr ⟨?_, by rw [q]; exact hlf⟩
      obtain ⟨o, e, _⟩ := lifted
      exact ⟨o, by rw [q]; exact e⟩
  case i8 => simp [zs]
  case i9 => exact fun v s' h => h
end
end Mine

namespace Mine


theorem src_text {prog : Program} {w : World} {I : Addr} {x : Str} {cs : List Nat} {St : Nat → Heap → Prop} (hx : x.cps.toList = cs) (W : ∀ A' : Around, A'.handled = none → Walks prog w A' I [I] [I] x.cps.size (SignAt x) St)
    (ho : ∀ i h, St i h → ∃ o, h.get? I = some o) : Src prog w I [I] true cs (SignAt x) St where
  walks := fun A' hh => by
    have e : cs.length = x.cps.size := by rw [← hx, Array.length_toList]
    rw [e]; exact W A' hh
  sign := fun i v hv hi => by
    obtain ⟨c, u, hc, rfl⟩ := hv
    exact ⟨c, by rw [← hx, Array.getElem?_toList]; exact hc, u, rfl⟩
  old := ho

theorem iter_textK {prog : Program} {w : World} {A : Around} {x : Str} {t : Tok} {cs : List Nat} {Q : Value → Shared → Prop} {E : Value → Shared → Prop} {s : Shared} {h₀ : Heap} {L : Addr} {m : Str → Option Value} {news : List (Addr × Obj)}
    (F : Fr h₀ L s.heap m) (N : News h₀ L s.heap news) (hx : x.cps.toList = cs)
    (h : ∀ I o P St h', Src prog w I [I] true cs P St → (∀ h'', h''.get? I = some o → (∀ b o, h₀.get? b = some o → h''.get? b = some o) → St 0 h'') → Fr h₀ L h' m → News h₀ L h' ((I, o) :: news) → (∀ q ∈ news, q.1 < I) → Q (.ref I) { s with heap := h' }) :
    wpAny (model prog w) A (call (.builtin "iter") [.str x t]) Q E s := by
  refine iter_call ?_
  cases ha : x.cps.all (· < 128)
  · exact wpAny_pyIter_wide ha (h _ _ _ _ _ (src_text hx (fun A' hA => Walks.strWide hA _ x t) (fun i h ⟨o, e, _⟩ => ⟨o, e⟩)) (fun h'' e _ => ⟨_, e, rfl, rfl⟩) (F.push _) (News.push F N _ rfl) fun q hq => Heap.lt_size (N q hq).1)
  · exact wpAny_pyIter_ascii ha (h _ _ _ _ _ (src_text hx (fun A' hA => Walks.strAscii hA _ x t) (fun i h ⟨o, e, _⟩ => ⟨o, e⟩)) (fun h'' e _ => ⟨_, e, rfl, rfl⟩) (F.push _) (News.push F N _ rfl) fun q hq => Heap.lt_size (N q hq).1)

theorem code_up {g h : Heap} {L c : Addr} {m : Str → Option Value} (x : ∃ oc vs t, g.get? c = some oc ∧ oc.data = .fields vs ∧ vs[1]? = some (.str stepQ t)) (F : Fr g L h m) : ∃ oc vs t, h.get? c = some oc ∧ oc.data = .fields vs ∧ vs[1]? = some (.str stepQ t) :=
  let ⟨oc, vs, t, e, r⟩ := x; ⟨oc, vs, t, F.keep _ _ e, r⟩
theorem news_ne {g h : Heap} {L c q : Addr} {o : Obj} {news : List (Addr × Obj)} (N : News g L h news) (hm : (q, o) ∈ news) (x : ∃ oc vs t, g.get? c = some oc ∧ oc.data = .fields vs ∧ vs[1]? = some (.str stepQ t)) : @Ne Nat c q := fun e => by
  obtain ⟨oc, _, _, e', _⟩ := x
  have := (N _ hm).2.2
  rw [← e, e'] at this; cases this
theorem old_fr {g h : Heap} {L c : Addr} {m : Str → Option Value} {env : Env} {outer : List Env} (cfr : c ∉ framesOf outer) (x : ∃ oc vs t, g.get? c = some oc ∧ oc.data = .fields vs ∧ vs[1]? = some (.str stepQ t)) (F : Fr g L h m) (hf : env.frame = some L) : c ∉ framesOf (env :: outer) := by
  have frE : framesOf (env :: outer) = L :: framesOf outer := by simp [framesOf, hf]
  rw [frE]
  intro hq
  rcases List.mem_cons.mp hq with e | hq
  · obtain ⟨oc, _, _, e', _⟩ := x
    exact Nat.ne_of_lt (Nat.lt_of_lt_of_le (Heap.lt_size e') F.above) e
  · exact cfr hq
theorem cl_ne2 {f c cE cS aE aS I : Nat} (h : (f ≠ aE ∧ f ≠ aS ∧ f ≠ I) ∧ (cE ≠ aE ∧ cE ≠ aS ∧ cE ≠ I) ∧ (cS ≠ aE ∧ cS ≠ aS ∧ cS ≠ I)) (h1 : c ≠ aE) (h2 : c ≠ aS) (h3 : c ≠ I) : ∀ a ∈ [f, c, cE, cS], a ∉ [aE, aS, I] := cl_ne ⟨h.1, ⟨h1, h2, h3⟩, h.2.1, h.2.2⟩

local macro_rules | `(tactic| walk_at "call builtin:iter") => `(tactic| (k_here; (with_reducible show wpAny _ _ (call (Value.builtin "iter") [Value.str _ _]) _ _ _); k_dflt (refine' iter_textK ?F ?N ?l ?_; (case F => k_asm); (case N => k_asm); (case l => assumption); k_whole; intro I' o' P' St' h' S' st0' F' N' l1; (try k_lt l1); (try k_sweep))))
theorem len_strK {prog : Program} {w : World} {A : Around} {E : Value → Shared → Prop} {s : Shared} {x : Str} {t : Tok} {n : Nat} {Q : Value → Shared → Prop} (hx : x.cps.size = n) (hn : n ≤ 900) (h : ∀ t' k, Q (.int (n : Int) t') { s with toks := k }) : wpAny (model prog w) A (call (.builtin "len") [.str x t]) Q E s := by
  have e : x.length = n := hx
  refine len_str (by rw [e]; omega) ?_
  rw [e]
  exact h _ _
local macro_rules | `(tactic| walk_at "call builtin:len") => `(tactic| (k_here; (with_reducible show wpAny _ _ (call (Value.builtin "len") [Value.str _ _]) _ _ _); k_dflt (refine' len_strK ?a ?b ?_; (case a => assumption); (case b => assumption); k_whole; intro t' k')))
local macro_rules | `(tactic| walk_at "exec For Name Call cons nil") => `(tactic| (k_here; k_dflt (refine' wpAny_For ?_ ?hs; (case hs => (intro x; exact rfl)); k_whole)))
local macro_rules | `(tactic| walk_at "pyIter ref") => `(tactic| (k_here; k_dflt (refine' stop_here ?_; k_whole)))
local macro_rules | `(tactic| k_room) => `(tactic| (simp only [depth_under_make, depth_under_kw, depth_in1, depth_deeper, recursionLimit] <;> omega))

section
variable {w : World} {A : Around} {b0 : Heap} {outer : List Env} {s : Shared} {p : Program} {loose : List Str} {mean : ExcName → Option Value} {mg mb : Str → Option Value}
variable (X : (hd.heap_39 w.params).In b0) (T : Top p loose mean mg mb b0) (B : Below A b0 outer s.heap)
include X T B
theorem read_text (hD : A.depth ≤ 700) (hu : A.units ≤ 900) (hh : A.handled = none) (C0 : CodeHd b0 104 100) (off : b0.get? 100 = none) {c' : Addr} (h100 : s.heap.get? 100 = some (tabObj #[rawInt 99, rawInt 4, .ref c'])) (hcode : ∃ oc vs t, s.heap.get? c' = some oc ∧ oc.data = .fields vs ∧ vs[1]? = some (.str stepQ t)) (cfr : c' ∉ framesOf outer) (c100 : @Ne Nat c' 100) (f100 : ∀ env ∈ outer, env.frame ≠ some 100)
    {x : Str} {t : Tok} {cs : List Nat} (hx : x.cps.toList = cs) (hlen : cs.length ≤ 900) :
    codeAny (model PySem.Challenge.rw_nq0018_01.row.prog w) A (.call (.ref 112) ⟨[.str x t], []⟩) (ReadPost outer (.tuple [.list (runP cs none).1, .list (sgData true cs), dataOf (runP cs none).2]) s) s := by
  revert X
  k_fill
  intro X
  have hA := B.stack
  obtain ⟨hd9, dp, fr9, gs9, us9⟩ := A
  dsimp only at hh hA hD hu
  subst hh hA
  have hsz : x.cps.size = cs.length := by rw [← hx, Array.length_toList]
  have hc100 : c' ∉ [100] := fun q => c100 (List.mem_singleton.mp q)
  refine' enter_led (binds := [(Str.ofString "things", .str x t)]) [(100, tabObj #[rawInt 99, rawInt 4, .ref c'])] ?m0 ?m1 X T B ?k6 ?k7 ?k8 ?k9 ?kB ?_ ?c2 ?c3 ?c4 ?c5
  case m0 => intro q hq; cases List.mem_singleton.mp hq; exact ⟨h100, off⟩
  case m1 => intro env he a ha; cases List.mem_singleton.mp ha; exact f100 env he
  case k6 => k_is
  case k7 => k_is
  case k8 => unfold recursionLimit; dsimp only; omega
  case k9 => exact BindsTo.of_eq rfl
  case kB => exact locs rfl
  case c2 => exact rfl
  case c3 => exact rfl
  case c4 => exact rfl
  case c5 => decide
  intro g' L' h' G' F' N' B' X' T' l9
  have hcode' : ∃ oc vs t, g'.get? c' = some oc ∧ oc.data = .fields vs ∧ vs[1]? = some (.str stepQ t) := let ⟨oc, vs, t, e, r⟩ := hcode; ⟨oc, vs, t, G' _ _ hc100 e, r⟩
  have l0 : @LT.lt Nat _ 100 L' := l9 _ (.head _)
  clear l9
  (try dsimp only)
  k_steps
  refine ⟨?_⟩
  refine' read_end (w := w) (s := s) (outer := outer) X T ?a1 ?a2 ?a3 ?a4 ?a5 ?a6 ?a7 ?a8 ?a9 hlen ?b1 ?b2 ?b3 ?b4 ?b5 ?b6 ?b7 ?b8 ?b9 ?c1 ?c2 ?c3 ?c4 ?d1 ?d2 ?d3 ?d4 ?e1 ?e2 ?e3 ?e4 ?f1 ?f2 ?f3 ?f4 ?f5 ?f6 ?f7 ?g1 ?g2 ?g3 ?g4 ?g5 ?g6 ?h1 ?h2 ?i1 ?i2 ?i3 ?i4 ?i5 ?i6 f100 ?i7 ?i8 ?i9
  case a6 => k_asm
  case a4 => k_asm
  case a5 => exact G'
  case a7 => k_asm
  case a8 => k_asm
  case a9 => assumption
  case a3 => exact rfl
  case b1 => assumption
  case a1 => dsimp only; omega
  case a2 => dsimp only; omega
  case b2 => exact rfl
  case b3 => exact rfl
  case b4 => exact rfl
  case b5 => exact rfl
  case b6 => exact rfl
  case b7 => exact rfl
  case b8 => exact rfl
  case b9 => exact rfl
  case c1 => exact rfl
  case c2 => exact rfl
  case c3 => exact rfl
  case c4 => exact ⟨_, rfl⟩
  case d1 => (refine' name_fn X T.g ?x1 ?x2 ?x3 ?x4 ?x5; (case x1 => k_is); (case x2 => exact rfl); (case x3 => exact rfl); (case x4 => exact rfl); (case x5 => decide))
  case d2 => (refine' name_bi X (topRead_of T) ?x1 Boot.ValueError ?x6 ?x2 ?x3 ?x4 ?x7 ?x5; (case x1 => k_is); (case x2 => exact rfl); (case x3 => exact rfl); (case x4 => exact rfl); (case x5 => decide); (case x6 => decide); (case x7 => exact rfl))
  case d3 => (refine' name_bi X (topRead_of T) ?x1 boot_str ?x6 ?x2 ?x3 ?x4 ?x7 ?x5; (case x1 => k_is); (case x2 => exact rfl); (case x3 => exact rfl); (case x4 => exact rfl); (case x5 => decide); (case x6 => decide); (case x7 => exact rfl))
  case d4 => k_is
  case e1 => exact rfl
  case e2 => exact rfl
  case e3 => exact rfl
  case e4 => exact rfl
  case f1 => k_mem
  case f2 => k_mem
  case f3 => k_mem
  case f4 => k_mem
  case f5 => k_mem
  case f6 => k_mem
  case f7 => k_mem
  case g1 => exact rfl
  case g2 => exact rfl
  case g3 => exact rfl
  case g4 => exact rfl
  case g5 => assumption
  case g6 => assumption
  case h2 => exact rfl
  case h1 => exact code_up hcode' (by k_asm)
  case i1 => refine neN ?_; omega
  case i2 => refine neN ?_; omega
  case i3 => refine neN ?_; omega
  case i4 => (refine' cl_ne2 ?z1 ?z2 ?z3 ?z4; (case z1 => omega); (case z2 => exact news_ne (by k_asm) (by k_mem) hcode'); (case z3 => exact news_ne (by k_asm) (by k_mem) hcode'); (case z4 => exact news_ne (by k_asm) (by k_mem) hcode'))
  case i5 => exact old_fr cfr hcode' (F := by k_asm) rfl
  case i6 => refine n_ne ?_; omega
  case i7 => exact fun a ha => .inl (List.mem_singleton.mp ha)
  case i8 => exact rfl
  case i9 => exact fun v s' h => h
end
end Mine

namespace Mine

def grow : Option (List Nat) → Int → List Nat × List PyData × Option (List Nat)
  | none, n => if n % 8 < 4 then ([2], [], some []) else ([if pt (n / 8) = 2 then 26 else pt (n / 8)], [], none)
  | some fr, n => if n % 8 < 5 then (spelledL ((n / 8) % 256).toNat, [], some (fr ++ [((n / 8) % 256).toNat]))
    else if n % 8 = 5 then ([3], [.list ((zs fr).map PyData.int)], none)
    else (faultL ((n / 8) % 4).toNat (pt (n / 8 / 4)), [.str (msgOf (fr ++ [faultC ((n / 8) % 4).toNat (pt (n / 8 / 4))]))], none)
def growAll : List Int → Option (List Nat) → List Nat × List PyData × Option (List Nat)
  | [], f => ([], [], f)
  | n :: ns, f => ((grow f n).1 ++ (growAll ns (grow f n).2.2).1, (grow f n).2.1 ++ (growAll ns (grow f n).2.2).2.1, (growAll ns (grow f n).2.2).2.2)
def stOf : Option (List Nat) → Mine.St
  | none => none
  | some fr => some (fr, false, false)

theorem runP_append (a b : List Nat) (st : Mine.St) : runP (a ++ b) st = ((runP a st).1 ++ (runP b (runP a st).2).1, (runP b (runP a st).2).2) := by
  induction a generalizing st with
  | nil => rfl
  | cons c a ih =>
    rw [List.cons_append]
    simp only [runP]
    cases h : stepP st c with
    | go st' ev =>
      cases ev with
      | none => simp only [ih]
      | some l => simp only [ih, List.cons_append]
    | bad l => simp only [ih, List.cons_append]

theorem run_go {cs : List Nat} {c : Nat} {st st' : Mine.St} (h : stepP st c = .go st' none) : runP (c :: cs) st = runP cs st' := by simp only [runP, h]
theorem run_bad {c : Nat} {st : Mine.St} {l : List Nat} (h : stepP st c = .bad l) : runP [c] st = ([.str (msgOf l)], none) := by simp only [runP, h]

theorem lo32 {y : Nat} (h : ¬ (32 ≤ y ∧ y < 127)) (h3 : y ≠ 127) (h1 : y < 128) : y < 32 := by omega
theorem c64a {y : Nat} (h : y < 32) : ((y + 64 : Nat) : Int) ≠ 33 := by omega
theorem c64b {y : Nat} (h : y < 32) : ((y + 64 : Nat) : Int) ≠ 63 := by omega
theorem c64c {y : Nat} (h : y < 32) : (y + 64) % 32 = y := by omega
theorem c64d {y : Nat} (h : y < 32) : (((y + 64) % 32 : Nat) : Int) + 64 = ((y + 64 : Nat) : Int) := by rw [c64c h]; rfl
theorem c64e {y : Nat} (h : y < 32) : (y + 64) % 128 = y + 64 := Nat.mod_eq_of_lt (by omega)
theorem hi128 {x : Nat} (hx : x < 256) (h1 : ¬ x < 128) : x % 128 % 128 + 128 = x := by omega
theorem spelled_run (fr : List Nat) (x : Nat) (hx : x < 256) : runP (spelledL x) (some (fr, false, false)) = ([], some (fr ++ [x], false, false)) := by
  unfold spelledL
  by_cases h1 : x < 128
  · rw [if_pos h1, List.nil_append, Nat.mod_eq_of_lt h1]
    by_cases h2 : 32 ≤ x ∧ x < 127
    · rw [if_pos h2, run_go (ff_p ⟨h2.1, Nat.le_of_lt_succ h2.2⟩)]; rfl
    · rw [if_neg h2, run_go (ff_d (by decide) (by decide))]
      by_cases h3 : x = 127
      · rw [h3, run_go (tf_q (by decide) (by decide))]; rfl
      · have h4 := lo32 h2 h3 h1
        rw [c64e h4, run_go (tf_c (c64a h4) (c64b h4) (c64d h4)), c64c h4]; rfl
  · have hx2 := hi128 hx h1
    rw [if_neg h1, List.cons_append, List.cons_append, List.nil_append, run_go (ff_d (by decide) (by decide)), run_go (tf_l (by decide))]
    by_cases h2 : 32 ≤ x % 128 ∧ x % 128 < 127
    · rw [if_pos h2, run_go (ft_p ⟨h2.1, Nat.le_of_lt_succ h2.2⟩), hx2]; rfl
    · rw [if_neg h2, run_go (ft_d (by decide) (by decide))]
      by_cases h3 : x % 128 = 127
      · have e : 127 % 128 + 128 = x := by rw [h3] at hx2; exact hx2
        rw [h3, run_go (tt_q (by decide)), e]; rfl
      · have h4 := lo32 h2 h3 (Nat.mod_lt _ (by decide))
        rw [c64e h4, run_go (tt_c (c64b h4) (c64d h4)), c64c h4, hx2]; rfl

theorem nec {a b : Nat} (h : a ≠ b) : (a : Int) ≠ (b : Int) := fun q => h (Int.ofNat.inj q)
theorem nec64 {a : Nat} (h : a % 32 + 64 ≠ a) : ((a % 32 : Nat) : Int) + 64 ≠ (a : Int) := fun q => h (Int.ofNat.inj q)
theorem ctl {c : Nat} (q : c % 32 + 64 = c) : 63 ≤ c ∧ c < 96 := by omega
theorem fr0 (c : Nat) : ¬ (32 ≤ faultC 0 c ∧ faultC 0 c ≤ 126) ∧ faultC 0 c ≠ 16 ∧ faultC 0 c ≠ 3 := by
  rcases fault0 c with ⟨_, e⟩ | ⟨h, e⟩ <;> rw [e]
  · decide
  · exact ⟨fun q => h (.inl ⟨q.1, Nat.lt_succ_of_le q.2⟩), fun q => h (.inr (.inr q)), fun q => h (.inr (.inl q))⟩
theorem fr1 (c : Nat) : faultC 1 c ≠ 33 ∧ faultC 1 c ≠ 63 ∧ faultC 1 c % 32 + 64 ≠ faultC 1 c := by
  rcases fault1 c with ⟨_, e⟩ | ⟨h, e⟩ <;> rw [e]
  · decide
  · exact ⟨fun q => h (.inr q), fun q => h (.inl (by rw [q]; decide)), fun q => h (.inl (ctl q))⟩
theorem fr2 (c : Nat) : ¬ (32 ≤ faultC 2 c ∧ faultC 2 c ≤ 126) ∧ faultC 2 c ≠ 16 := by
  rcases fault2 c with ⟨_, e⟩ | ⟨h, e⟩ <;> rw [e]
  · decide
  · exact ⟨fun q => h (.inl ⟨q.1, Nat.lt_succ_of_le q.2⟩), fun q => h (.inr q)⟩
theorem fr3 (c : Nat) : faultC 3 c ≠ 63 ∧ faultC 3 c % 32 + 64 ≠ faultC 3 c := by
  rcases fault3 c with ⟨_, e⟩ | ⟨h, e⟩ <;> rw [e]
  · decide
  · exact ⟨fun q => h (by rw [q]; decide), fun q => h (ctl q)⟩
theorem fault_run (fr : List Nat) (k c : Nat) (hk : k < 4) : runP (faultL k c) (some (fr, false, false)) = ([.str (msgOf (fr ++ [faultC k c]))], none) := by
  have h4 : k = 0 ∨ k = 1 ∨ k = 2 ∨ k = 3 := by omega
  rcases h4 with rfl | rfl | rfl | rfl
  · have hc := fr0 c
    exact run_bad (ff_b hc.1 (nec (b := 16) hc.2.1) (nec (b := 3) hc.2.2))
  · have hc := fr1 c
    show runP (16 :: [_]) _ = _
    rw [run_go (ff_d (by decide) (by decide))]
    exact run_bad (tf_b (nec (b := 33) hc.1) (nec (b := 63) hc.2.1) (nec64 hc.2.2))
  · have hc := fr2 c
    show runP (16 :: 33 :: [_]) _ = _
    rw [run_go (ff_d (by decide) (by decide)), run_go (tf_l (by decide))]
    exact run_bad (ft_b hc.1 (nec (b := 16) hc.2))
  · have hc := fr3 c
    show runP (16 :: 33 :: 16 :: [_]) _ = _
    rw [run_go (ff_d (by decide) (by decide)), run_go (tf_l (by decide)), run_go (ft_d (by decide) (by decide))]
    exact run_bad (tt_b (nec (b := 63) hc.1) (nec64 hc.2))

theorem grow_run (f : Option (List Nat)) (n : Int) : runP (grow f n).1 (stOf f) = ((grow f n).2.1, stOf (grow f n).2.2) := by
  cases f with
  | none =>
    simp only [grow]
    by_cases h : n % 8 < 4
    · rw [if_pos h]; exact run_go (sp_n2 rfl)
    · rw [if_neg h]
      refine run_go (sp_nn ?_)
      split <;> omega
  | some fr =>
    simp only [grow]
    by_cases h : n % 8 < 5
    · rw [if_pos h]
      exact spelled_run fr _ (by omega)
    · rw [if_neg h]
      by_cases h5 : n % 8 = 5
      · rw [if_pos h5]
        simp only [stOf, runP, ff_e (cs := fr) (c := 3) (by omega) (by omega) (by omega)]
      · rw [if_neg h5]
        exact fault_run fr _ _ (by omega)
theorem growAll_run (ns : List Int) (f : Option (List Nat)) : runP (growAll ns f).1 (stOf f) = ((growAll ns f).2.1, stOf (growAll ns f).2.2) := by
  induction ns generalizing f with
  | nil => rfl
  | cons n ns ih =>
    simp only [growAll]
    rw [runP_append, grow_run, ih]

/-- the line, what is told and the state that _law_grown hands back -/
def lineOf (ns : List Int) (q : Int) : List Nat := match (growAll ns none).2.2 with
  | none => (growAll ns none).1
  | some _ => (growAll ns none).1 ++ headsL (q % 4).toNat
def endOf (ns : List Int) (q : Int) : Mine.St := match (growAll ns none).2.2 with
  | none => none
  | some fr => some (fr, decide (q % 2 = 1), decide (1 < q % 4))
theorem heads_run (fr : List Nat) (k : Nat) (hk : k < 4) : runP (headsL k) (some (fr, false, false)) = ([], some (fr, decide (k % 2 = 1), decide (1 < k))) := by
  have h4 : k = 0 ∨ k = 1 ∨ k = 2 ∨ k = 3 := by omega
  rcases h4 with rfl | rfl | rfl | rfl
  · rfl
  · exact run_go (ff_d (by omega) (by omega))
  · show runP (16 :: 33 :: []) _ = _
    rw [run_go (ff_d (by omega) (by omega)), run_go (tf_l (by omega))]; rfl
  · show runP (16 :: 33 :: 16 :: []) _ = _
    rw [run_go (ff_d (by omega) (by omega)), run_go (tf_l (by omega)), run_go (ft_d (by omega) (by omega))]; rfl
theorem line_run (ns : List Int) (q : Int) : runP (lineOf ns q) none = ((growAll ns none).2.1, endOf ns q) := by
  have h := growAll_run ns none
  unfold lineOf endOf
  cases e : (growAll ns none).2.2 with
  | none => rw [e] at h; exact h
  | some fr =>
    rw [e] at h
    dsimp only
    have h' : runP (growAll ns none).1 none = ((growAll ns none).2.1, some (fr, false, false)) := h
    rw [runP_append, h', heads_run fr _ (by omega)]
    have e1 : (decide ((q % 4).toNat % 2 = 1)) = decide (q % 2 = 1) := by
      rw [decide_eq_decide]; omega
    have e2 : (decide (1 < (q % 4).toNat)) = decide (1 < q % 4) := by
      rw [decide_eq_decide]; omega
    rw [e1, e2, List.append_nil]

theorem spelled_len (x : Nat) : (spelledL x).length ≤ 4 := by
  unfold spelledL
  split <;> split <;> simp
theorem fault_len (k c : Nat) : (faultL k c).length ≤ 4 := by
  unfold faultL headsL
  split <;> simp
theorem grow_len (f : Option (List Nat)) (n : Int) : (grow f n).1.length ≤ 4 ∧ (grow f n).2.1.length ≤ 1 ∧ ∀ fr', (grow f n).2.2 = some fr' → ∀ k, (∀ fr, f = some fr → fr.length ≤ k) → fr'.length ≤ k + 1 := by
  cases f with
  | none =>
    simp only [grow]
    split
    · exact ⟨by simp, by simp, fun fr' e k _ => by cases e; simp⟩
    · exact ⟨by simp, by simp, fun fr' e => by cases e⟩
  | some fr =>
    simp only [grow]
    split
    · exact ⟨spelled_len _, by simp, fun fr' e k h => by cases e; have := h fr rfl; simp; omega⟩
    · split
      · exact ⟨by simp, by simp, fun fr' e => by cases e⟩
      · exact ⟨fault_len _ _, by simp, fun fr' e => by cases e⟩
end Mine

namespace Mine

def Told (olds : List (Addr × Obj)) (v : Value) (d : PyData) : Prop :=
  (∃ x t, v = .str x t ∧ d = .str x) ∨ ∃ a fits n fr, v = .ref a ∧ (a, W.listOf fits n) ∈ olds ∧ IntsAre fits.toList (zs fr) ∧ d = .list ((zs fr).map PyData.int)
inductive ToldAll (olds : List (Addr × Obj)) : List Value → List PyData → Prop
  | nil : ToldAll olds [] []
  | cons {v : Value} {d : PyData} {vs : List Value} {ds : List PyData} : Told olds v d → ToldAll olds vs ds → ToldAll olds (v :: vs) (d :: ds)
theorem Told.more {olds olds' : List (Addr × Obj)} {v : Value} {d : PyData} (h : Told olds v d) (k : ∀ p ∈ olds, p ∈ olds') : Told olds' v d :=
  h.elim .inl fun ⟨a, fits, n, fr, e, m, r⟩ => .inr ⟨a, fits, n, fr, e, k _ m, r⟩
theorem ToldAll.more {olds olds' : List (Addr × Obj)} {vs : List Value} {ds : List PyData} (h : ToldAll olds vs ds) (k : ∀ p ∈ olds, p ∈ olds') : ToldAll olds' vs ds := by
  induction h with
  | nil => exact .nil
  | cons a _ ih => exact .cons (a.more k) ih
theorem ToldAll.snoc {olds : List (Addr × Obj)} {vs : List Value} {ds : List PyData} {v : Value} {d : PyData} (h : ToldAll olds vs ds) (h' : Told olds v d) : ToldAll olds (vs ++ [v]) (ds ++ [d]) := by
  induction h with
  | nil => exact .cons h' .nil
  | cons a _ ih => exact .cons a ih
theorem ToldAll.reads {olds : List (Addr × Obj)} {h : Heap} {vs : List Value} {ds : List PyData} (x : ToldAll olds vs ds) (k : ∀ p ∈ olds, h.get? p.1 = some p.2) : ∃ as, ReadsAll h vs ds as := by
  induction x with
  | nil => exact ⟨_, .nil⟩
  | cons a _ ih =>
    obtain ⟨as, r⟩ := ih
    rcases a with ⟨x, t, rfl, rfl⟩ | ⟨a, fits, n, fr, rfl, m, i, rfl⟩
    · exact ⟨_, .cons (.str _ _) r⟩
    · exact ⟨_, .cons (reads_of_ints (vs := fits.toList) ⟨_, k _ m, rfl, _, rfl⟩ i) r⟩

/-- the locals of _law_grown, as its loop finds them -/
abbrev gm (aL aT l : Addr) (fv : Value) (q : Int) (t : Tok) (u : Str → Option Value) : Str → Option Value := fun y =>
  if y = Str.ofString "line" then some (.ref aL) else if y = Str.ofString "told" then some (.ref aT) else if y = Str.ofString "frame" then some fv else if y = Str.ofString "numbers" then some (.ref l) else if y = Str.ofString "q" then some (.int q t) else u y
theorem gm_of {aL aT l : Addr} {fv : Value} {q : Int} {t : Tok} {m : Str → Option Value} (h1 : m (Str.ofString "line") = some (.ref aL)) (h2 : m (Str.ofString "told") = some (.ref aT)) (h3 : m (Str.ofString "frame") = some fv) (h4 : m (Str.ofString "numbers") = some (.ref l)) (h5 : m (Str.ofString "q") = some (.int q t)) :
    m = gm aL aT l fv q t m := by
  funext y
  unfold gm
  split
  · subst_vars; exact h1
  · split
    · subst_vars; exact h2
    · split
      · subst_vars; exact h3
      · split
        · subst_vars; exact h4
        · split
          · subst_vars; exact h5
          · rfl

/-- what stands between two turns; ex: the iterator, while a turn runs -/
inductive GAt (g : Heap) (L aL aT l : Addr) (q : Int) (t : Tok) (ex : List (Addr × Obj)) (line : List Nat) (told : List PyData) (f : Option (List Nat)) (h : Heap) : Prop
  | mk (m : Str → Option Value) (fv : Value) (fro : List (Addr × Obj)) (lits : Array Value) (nL : Nat) (tits : Array Value) (nT : Nat) (olds : List (Addr × Obj)) (a1 : Fr g L h m) (a2 : m (Str.ofString "line") = some (.ref aL)) (a3 : m (Str.ofString "told") = some (.ref aT)) (a4 : m (Str.ofString "frame") = some fv) (a5 : m (Str.ofString "numbers") = some (.ref l)) (a6 : m (Str.ofString "q") = some (.int q t))
    (a7 : News g L h (fro ++ (aT, W.listOf tits nT) :: (aL, W.listOf lits nL) :: (ex ++ olds))) (a8 : IntsAre lits.toList (zs line)) (a9 : ToldAll olds tits.toList told) (b1 : ∀ p ∈ olds, p.1 ≠ aL) (b2 : ∀ p ∈ olds, p.1 ≠ aT) (b3 : ∀ p ∈ olds, p.2.cls = .type "list")
    (b4 : match f with
      | none => fv = .none ∧ fro = []
      | some fr => ∃ aF fits nF, fv = .ref aF ∧ fro = [(aF, W.listOf fits nF)] ∧ IntsAre fits.toList (zs fr) ∧ @Ne Nat aF aL ∧ @Ne Nat aF aT ∧ (∀ p ∈ olds, p.1 ≠ aF)) : GAt g L aL aT l q t ex line told f h

inductive GT (g : Heap) (L aL aT l : Addr) (q : Int) (t : Tok) (ex : List (Addr × Obj)) (line : List Nat) (told : List PyData) (f : Option (List Nat)) (s : Shared) (fl : Flow) (s' : Shared) : Prop
  | mk (a1 : fl = .next) (h' : Heap) (tk : Nat) (a2 : s' = { s with heap := h', toks := tk }) (a3 : GAt g L aL aT l q t ex line told f h') : GT g L aL aT l q t ex line told f s fl s'

/-- what stands between two turns of the loop of _law_grown -/
inductive GInv (g : Heap) (L aL aT l J : Addr) (q : Int) (t : Tok) (its : Array Value) (ns : List Int) (s : Shared) (k : Nat) (s' : Shared) : Prop
  | mk (i : Nat) (line : List Nat) (told : List PyData) (f : Option (List Nat)) (h' : Heap) (tk' : Nat) (a1 : s' = { s with heap := h', toks := tk' }) (a2 : k = ns.length + 1 - i) (a3 : i ≤ ns.length) (a4 : h'.IsListIter J l i ∧ h'.IsList l its) (a5 : GAt g L aL aT l q t [] line told f h')
    (a6 : line ++ (growAll (ns.drop i) f).1 = (growAll ns none).1) (a7 : told ++ (growAll (ns.drop i) f).2.1 = (growAll ns none).2.1) (a8 : (growAll (ns.drop i) f).2.2 = (growAll ns none).2.2) (a9 : line.length ≤ 4 * i) (b1 : told.length ≤ i) (b2 : ∀ fr, f = some fr → fr.length ≤ i) : GInv g L aL aT l J q t its ns s k s'

/-- the objects of a turn are no iterator -/
theorem GAt.keeps0 {g : Heap} {L aL aT l J : Addr} {q : Int} {t : Tok} {line : List Nat} {told : List PyData} {f : Option (List Nat)} {h h' : Heap} {oJ : Obj} (x : GAt g L aL aT l q t [] line told f h) (hJ : h.get? J = some oJ) (hc : oJ.cls = .type "list_iterator") (hn : g.get? J = none) (hL : J ≠ L)
    (k : ∀ b o, b ≠ J → h.get? b = some o → h'.get? b = some o) : GAt g L aL aT l q t [] line told f h' := by
  obtain ⟨m, fv, fro, lits, nL, tits, nT, olds, F, m1, m2, m3, m4, m5, N, hI, hT, o1, o2, o3, hf⟩ := x
  have neJ : ∀ p ∈ fro ++ (aT, W.listOf tits nT) :: (aL, W.listOf lits nL) :: ([] ++ olds), p.1 ≠ J := fun p hp e => by
    have e1 := (N p hp).1
    rw [e, hJ] at e1
    have hcl : p.2.cls = .type "list" := by
      rcases List.mem_append.mp hp with hp | hp
      · cases f with
        | none => rw [hf.2] at hp; cases hp
        | some fr =>
          obtain ⟨aF, fits, nF, _, e2, _⟩ := hf
          rw [e2] at hp
          cases List.mem_singleton.mp hp
          rfl
      · rcases List.mem_cons.mp hp with rfl | hp
        · rfl
        · rcases List.mem_cons.mp hp with rfl | hp
          · rfl
          · exact o3 p hp
    cases e1
    rw [hc] at hcl
    injection hcl with hcl
    exact absurd hcl (by decide)
  refine ⟨m, fv, fro, lits, nL, tits, nT, olds, ⟨ns_keep F.ns fun o e => k _ _ (Ne.symm hL) e, fun b o e => k b o (fun z => by rw [z, hn] at e; cases e) (F.keep b o e), F.above⟩, m1, m2, m3, m4, m5, fun p hp => ⟨k _ _ (neJ p hp) (N p hp).1, (N p hp).2⟩, hI, hT, o1, o2, o3, hf⟩
theorem GAt.keeps {g : Heap} {L aL aT l J : Addr} {q : Int} {t : Tok} {line : List Nat} {told : List PyData} {f : Option (List Nat)} {h h' : Heap} {oJ oJ' : Obj} (x : GAt g L aL aT l q t [] line told f h) (hJ : h.get? J = some oJ) (hc : oJ.cls = .type "list_iterator") (hn : g.get? J = none) (hL : J ≠ L)
    (hJ' : h'.get? J = some oJ') (k : ∀ b o, b ≠ J → h.get? b = some o → h'.get? b = some o) : GAt g L aL aT l q t [(J, oJ')] line told f h' := by
  obtain ⟨m, fv, fro, lits, nL, tits, nT, olds, F, m1, m2, m3, m4, m5, N, hI, hT, o1, o2, o3, hf⟩ := x
  have neJ : ∀ p ∈ fro ++ (aT, W.listOf tits nT) :: (aL, W.listOf lits nL) :: ([] ++ olds), p.1 ≠ J := fun p hp e => by
    have e1 := (N p hp).1
    rw [e, hJ] at e1
    have hcl : p.2.cls = .type "list" := by
      rcases List.mem_append.mp hp with hp | hp
      · cases f with
        | none => rw [hf.2] at hp; cases hp
        | some fr =>
          obtain ⟨aF, fits, nF, _, e2, _⟩ := hf
          rw [e2] at hp
          cases List.mem_singleton.mp hp
          rfl
      · rcases List.mem_cons.mp hp with rfl | hp
        · rfl
        · rcases List.mem_cons.mp hp with rfl | hp
          · rfl
          · exact o3 p hp
    cases e1
    rw [hc] at hcl
    injection hcl with hcl
    exact absurd hcl (by decide)
  refine ⟨m, fv, fro, lits, nL, tits, nT, olds, ⟨ns_keep F.ns fun o e => k _ _ (Ne.symm hL) e, fun b o e => k b o (fun z => by rw [z, hn] at e; cases e) (F.keep b o e), F.above⟩, m1, m2, m3, m4, m5, fun p hp => ?_, hI, hT, o1, o2, o3, hf⟩
  have old : ∀ p ∈ fro ++ (aT, W.listOf tits nT) :: (aL, W.listOf lits nL) :: ([] ++ olds), h'.get? p.1 = some p.2 ∧ p.1 ≠ L ∧ g.get? p.1 = none := fun p hp => ⟨k _ _ (neJ p hp) (N p hp).1, (N p hp).2⟩
  rcases List.mem_append.mp hp with hp | hp
  · exact old p (List.mem_append_left _ hp)
  · rcases List.mem_cons.mp hp with q | hp
    · exact old p (List.mem_append_right _ (by rw [q]; exact .head _))
    · rcases List.mem_cons.mp hp with q | hp
      · exact old p (List.mem_append_right _ (by rw [q]; exact .tail _ (.head _)))
      · rcases List.mem_cons.mp hp with q | hp
        · rw [q]; exact ⟨hJ', hL, hn⟩
        · exact old p (List.mem_append_right _ (.tail _ (.tail _ hp)))
theorem GAt.drop {g : Heap} {L aL aT l : Addr} {q : Int} {t : Tok} {line : List Nat} {told : List PyData} {f : Option (List Nat)} {h : Heap} {p : Addr × Obj} (x : GAt g L aL aT l q t [p] line told f h) : GAt g L aL aT l q t [] line told f h ∧ h.get? p.1 = some p.2 := by
  obtain ⟨m, fv, fro, lits, nL, tits, nT, olds, F, m1, m2, m3, m4, m5, N, r1, r2, r3, r4, r5, r6⟩ := x
  refine ⟨⟨m, fv, fro, lits, nL, tits, nT, olds, F, m1, m2, m3, m4, m5, fun p' hp => N p' ?_, r1, r2, r3, r4, r5, r6⟩, (N p ?_).1⟩
  · rcases List.mem_append.mp hp with hp | hp
    · exact List.mem_append_left _ hp
    · refine List.mem_append_right _ ?_
      rcases List.mem_cons.mp hp with q | hp
      · rw [q]; exact .head _
      · rcases List.mem_cons.mp hp with q | hp
        · rw [q]; exact .tail _ (.head _)
        · exact .tail _ (.tail _ (.tail _ hp))
  · exact List.mem_append_right _ (.tail _ (.tail _ (.head _)))

theorem take_one {ns : List Int} {i : Nat} {n : Int} (h : ns[i]? = some n) (f : Option (List Nat)) :
    growAll (ns.drop i) f = ((grow f n).1 ++ (growAll (ns.drop (i + 1)) (grow f n).2.2).1, (grow f n).2.1 ++ (growAll (ns.drop (i + 1)) (grow f n).2.2).2.1, (growAll (ns.drop (i + 1)) (grow f n).2.2).2.2) := by
  obtain ⟨hl, rfl⟩ := List.getElem?_eq_some_iff.mp h
  rw [List.drop_eq_getElem_cons hl]
  rfl

theorem grown_for {w : World} {A : Around} {env : Env} {g h : Heap} {L aL aT l D : Addr} {oD : Obj} {its : Array Value} {ns : List Int} {m₀ : Str → Option Value} {body : List Stmt} {px pi pos : Pos} {Q : Flow → Shared → Prop} {E : Value → Shared → Prop} {q : Int} {t : Tok} {s : Shared} {tk : Nat}
    (hh : A.handled = none) (hl : g.IsList l its) (hI : IntsAre its.toList ns) (hlen : ns.length ≤ 60) (F : Fr g L h m₀) (N : News g L h [(D, oD), (aT, W.listOf #[] 0), (aL, W.listOf #[] 0)])
    (hlo : env.locals = L) (hke : env.scope.kind = .function) (kn : env.kindOf (Str.ofString "n") = some .local) (knum : env.kindOf (Str.ofString "numbers") = some .local)
    (m1 : m₀ (Str.ofString "line") = some (.ref aL)) (m2 : m₀ (Str.ofString "told") = some (.ref aT)) (m3 : m₀ (Str.ofString "frame") = some .none) (m4 : m₀ (Str.ofString "numbers") = some (.ref l)) (m5 : m₀ (Str.ofString "q") = some (.int q t))
    (turn : ∀ (n : Int) (tn : Tok) (J : Addr) (oJ : Obj) line told f (u : Str → Option Value) fv fro lits nL tits nT olds h' tk' E', (line.length ≤ 400 ∧ told.length ≤ 100 ∧ ∀ fr, f = some fr → fr.length ≤ 100) →
      Fr g L h' (fun y => if y = Str.ofString "n" then some (.int n tn) else gm aL aT l fv q t u y) → News g L h' (fro ++ (aT, W.listOf tits nT) :: (aL, W.listOf lits nL) :: (J, oJ) :: olds) → IntsAre lits.toList (zs line) → ToldAll olds tits.toList told → (∀ p ∈ olds, p.1 ≠ aL) → (∀ p ∈ olds, p.1 ≠ aT) → (∀ p ∈ olds, p.2.cls = .type "list") →
      (match f with
        | none => fv = .none ∧ fro = []
        | some fr => ∃ aF fits nF, fv = .ref aF ∧ fro = [(aF, W.listOf fits nF)] ∧ IntsAre fits.toList (zs fr) ∧ @Ne Nat aF aL ∧ @Ne Nat aF aT ∧ (∀ p ∈ olds, p.1 ≠ aF)) → @Ne Nat J aL → @Ne Nat J aT → (∀ p ∈ fro, @Ne Nat J p.1) → (∀ p ∈ olds, p.1 ≠ J) →
      wpAny (model PySem.Challenge.rw_nq0018_01.row.prog w) A (execs body env) (GT g L aL aT l q t [(J, oJ)] (line ++ (grow f n).1) (told ++ (grow f n).2.1) (grow f n).2.2 s) E' { s with heap := h', toks := tk' })
    (done : ∀ h' tk', GAt g L aL aT l q t [] (growAll ns none).1 (growAll ns none).2.1 (growAll ns none).2.2 h' → Q .next { s with heap := h', toks := tk' }) :
    wpAny (model PySem.Challenge.rw_nq0018_01.row.prog w) A (exec (.For (.Name (Str.ofString "n") px) (.Name (Str.ofString "numbers") pi) body [] pos) env) Q E { s with heap := h, toks := tk } := by
  subst hlo
  have hp : (env.scope.kind == .class || (env.scope.kind == .module && env.locals != env.globals)) = false := by rw [hke]; rfl
  refine wpAny_For (wpAny_Name (wpAny_loadName_local hke knum F.ns m4 ?_) (by decide))
  have hl' : h.IsList l its := hl.at fun o e => F.keep _ _ e
  have lt : ∀ b o, h.get? b = some o → b ≠ h.objs.size := fun b o e => Nat.ne_of_lt (Heap.lt_size e)
  have hne : l ≠ h.objs.size := by
    obtain ⟨o, ho, _⟩ := hl'
    exact lt _ _ ho
  refine wpAny_pyIter_list (s := { s with heap := h, toks := tk }) hl' ?_
  have Wk := Walks.list (prog := PySem.Challenge.rw_nq0018_01.row.prog) (w := w) hh h.objs.size l hne its
  have hsz : its.size = ns.length := by have := ints_len hI; simpa using this
  have hJg : g.get? h.objs.size = none := by
    cases e : g.get? h.objs.size with
    | none => rfl
    | some o => exact absurd rfl (lt _ o (F.keep _ _ e))
  have hJL : h.objs.size ≠ env.locals := by
    obtain ⟨o, _, _, e, _⟩ := F.ns
    exact Ne.symm (lt _ _ e)
  refine codeAny_forLoop (GInv g env.locals aL aT l h.objs.size q t its ns s) ?_ (ns.length + 1)
    ⟨0, [], [], none, _, tk, rfl, rfl, Nat.zero_le _, ⟨⟨_, Heap.get?_push_size _ rfl, rfl, rfl⟩, hl'.at fun o e => Heap.get?_push_of_some _ e⟩, ?_, rfl, rfl, rfl, Nat.le_refl _, Nat.le_refl _, fun _ e => by cases e⟩
  case refine_2 =>
    refine ⟨m₀, .none, [], #[], 0, #[], 0, [], F.push _, m1, m2, m3, m4, m5, fun p hp => ?_, .nil, .nil, (fun _ h => (nomatch h)), (fun _ h => (nomatch h)), (fun _ h => (nomatch h)), rfl, rfl⟩
    have hp' : p ∈ [(D, oD), (aT, W.listOf #[] 0), (aL, W.listOf #[] 0)] := .tail _ hp
    exact ⟨Heap.get?_push_of_some _ (N p hp').1, (N p hp').2⟩
  rintro k s' ⟨i, line, told, f, h', tk', rfl, rfl, hi, hst, hG, t1, t2, t3, z1, z2, z3⟩
  by_cases hlt : i < ns.length
  · refine Wk.item i _ _ _ (by rw [hsz]; exact hlt) hst fun v h₁ tk₁ hP hst₁ kp₁ => ?_
    show wpAny _ _ _ _ _ _
    k_fold
    obtain ⟨n, tn, hn, rfl⟩ := ints_at hI i v (by rw [Array.getElem?_toList]; exact hP)
    obtain ⟨⟨⟨oJ0, eJ0, cJ0, _⟩, _⟩, _⟩ := And.intro hst hst₁
    obtain ⟨⟨oJ, eJ, cJ, dJ⟩, hl₁⟩ := hst₁
    have G₁ : GAt g env.locals aL aT l q t [(h.objs.size, oJ)] line told f h₁ := hG.keeps eJ0 cJ0 hJg hJL eJ fun b o hb e => kp₁ b o (by simpa using hb) e
    obtain ⟨m, fv, fro, lits, nL, tits, nT, olds, F₁, a1, a2, a3, a4, a5, N₁, hIn, hT, o1, o2, o3, hf⟩ := G₁
    refine wpAny_assign_Name (wpAny_storeName_local kn F₁.ns (fun h₂ ns₂ sb₂ => ?_) hp)
    have F₂ : Fr g env.locals h₂ (fun y => if y = Str.ofString "n" then some (.int n tn) else m y) := ⟨ns₂, fun b o e => (sb₂.2 b (Nat.ne_of_lt (Nat.lt_of_lt_of_le (Heap.lt_size e) F₁.above))).trans (F₁.keep b o e), F₁.above⟩
    have N₂ : News g env.locals h₂ (fro ++ (aT, W.listOf tits nT) :: (aL, W.listOf lits nL) :: (h.objs.size, oJ) :: olds) := fun p hp => ⟨(sb₂.2 _ (N₁ p hp).2.1).trans (N₁ p hp).1, (N₁ p hp).2⟩
    rw [gm_of a1 a2 a3 a4 a5] at F₂
    have cl : ∀ p ∈ fro ++ (aT, W.listOf tits nT) :: (aL, W.listOf lits nL) :: olds, p ∈ fro ++ (aT, W.listOf tits nT) :: (aL, W.listOf lits nL) :: (h.objs.size, oJ) :: olds → p.2.cls = .type "list" → p.1 ≠ h.objs.size := fun p _ hp hc e => by
      have e1 := (N₁ p hp).1
      rw [e, eJ] at e1
      cases e1
      rw [cJ] at hc
      injection hc with hc
      exact absurd hc (by decide)
    have inT : (aT, W.listOf tits nT) ∈ fro ++ (aT, W.listOf tits nT) :: (aL, W.listOf lits nL) :: (h.objs.size, oJ) :: olds := List.mem_append_right _ (.head _)
    have inL : (aL, W.listOf lits nL) ∈ fro ++ (aT, W.listOf tits nT) :: (aL, W.listOf lits nL) :: (h.objs.size, oJ) :: olds := List.mem_append_right _ (.tail _ (.head _))
    refine wpAny_mono (turn n tn h.objs.size oJ line told f m fv fro lits nL tits nT olds h₂ _ _ ⟨by omega, by omega, fun fr e => by have := z3 fr e; omega⟩ F₂ N₂ hIn hT o1 o2 o3 hf ?_ ?_ ?_ ?_) (fun fl s₃ hs₃ => ?_) fun _ _ x => x
    · exact Ne.symm (cl _ (List.mem_append_right _ (.tail _ (.head _))) inL rfl)
    · exact Ne.symm (cl _ (List.mem_append_right _ (.head _)) inT rfl)
    · intro p hp
      have hcl : p.2.cls = .type "list" := by
        cases f with
        | none => rw [hf.2] at hp; cases hp
        | some fr =>
          obtain ⟨aF, fits, nF, _, e2, _⟩ := hf
          rw [e2] at hp
          cases List.mem_singleton.mp hp
          rfl
      exact Ne.symm (cl p (List.mem_append_left _ hp) (List.mem_append_left _ hp) hcl)
    · intro p hp
      exact cl p (List.mem_append_right _ (.tail _ (.tail _ hp))) (List.mem_append_right _ (.tail _ (.tail _ (.tail _ hp)))) (o3 p hp)
    · obtain ⟨rfl, h₃, tk₃, rfl, hG₃⟩ := hs₃
      obtain ⟨hG₃, eJ₃⟩ := hG₃.drop
      have hl₃ : h₃.IsList l its := by
        obtain ⟨_, _, _, _, _, _, _, _, F₃, _⟩ := hG₃
        exact hl.at fun o e => F₃.keep _ _ e
      have step := take_one hn f
      rw [step] at t1 t2 t3
      obtain ⟨gl1, gl2, gl3⟩ := grow_len f n
      exact ⟨ns.length + 1 - (i + 1), by omega, i + 1, _, _, _, h₃, tk₃, rfl, rfl, by omega, ⟨⟨oJ, eJ₃, cJ, dJ⟩, hl₃⟩, hG₃, by rw [List.append_assoc]; exact t1, by rw [List.append_assoc]; exact t2, t3, by rw [List.length_append]; omega, by rw [List.length_append]; omega, fun fr e => gl3 fr e i z3⟩
  · have hie : i = ns.length := by omega
    subst hie
    refine Wk.done _ _ _ (by rw [hsz]; exact hst) fun h₁ tk₁ kp₁ => ?_
    refine wpAny_execs_nil ?_
    rw [List.drop_length] at t1 t2 t3
    have t1 : line ++ [] = _ := t1
    have t2 : told ++ [] = _ := t2
    have t3 : f = _ := t3
    rw [List.append_nil] at t1 t2
    rw [← t1, ← t2, ← t3] at done
    obtain ⟨⟨oJ, eJ, cJ, _⟩, _⟩ := hst
    exact done h₁ _ (hG.keeps0 eJ cJ hJg hJL fun b o hb e => kp₁ b o (by simpa using hb) e)
end Mine

namespace Mine

theorem ToldAll.length {olds : List (Addr × Obj)} {vs : List Value} {ds : List PyData} (h : ToldAll olds vs ds) : vs.length = ds.length := by
  induction h with
  | nil => rfl
  | cons _ _ ih => simp [ih]
def AllNe (d : Nat) : List (Addr × Obj) → Prop
  | [] => True
  | p :: r => @Ne Nat p.1 d ∧ AllNe d r
theorem allNe_of {d : Addr} : ∀ {l : List (Addr × Obj)}, (∀ p ∈ l, p.1 ≠ d) → AllNe d l
  | [], _ => trivial
  | p :: _, h => ⟨h p (.head _), allNe_of fun q hq => h q (.tail _ hq)⟩
theorem AllNe.all {d : Addr} {l : List (Addr × Obj)} (h : AllNe d l) : ∀ p ∈ l, p.1 ≠ d := by
  induction l with
  | nil => intro p hp; cases hp
  | cons x l ih =>
    intro p hp
    rcases List.mem_cons.mp hp with q | hp
    · rw [q]; exact h.1
    · exact ih h.2 p hp
theorem allLt_ne {d : Addr} {l : List (Addr × Obj)} (h : AllLt d l) : ∀ p ∈ l, p.1 ≠ d := by
  induction l with
  | nil => intro p hp; cases hp
  | cons x l ih =>
    intro p hp
    rcases List.mem_cons.mp hp with q | hp
    · rw [q]; exact Nat.ne_of_lt h.1
    · exact ih h.2 p hp

section
variable {w : World} {A : Around} {b0 h₀ : Heap} {outer : List Env} {s : Shared} {p : Program} {loose : List Str} {mean : ExcName → Option Value} {mg mb : Str → Option Value} {L : Addr} {m : Str → Option Value} {news : List (Addr × Obj)} {env : Env} {E : Value → Shared → Prop} {Q : Value → Shared → Prop}
theorem use_nats {prog : Program} {f : Value} {args : List Value} {ns : List Nat} (B : Below A b0 outer h₀) (F : Fr h₀ L s.heap m) (N : News h₀ L s.heap news) (hf : env.frame = some L) (hke : env.scope.kind = .function)
    (spec : Below (A.deeper env) b0 (env :: outer) s.heap → codeAny (model prog w) (A.deeper env) (.call f ⟨args, []⟩) (Post fun v s' => RetNats s ns v s' ∧ Keeps s s') s)
    (hn : ns.length ≤ 4) (h : ∀ l its n h' tk, Fr h₀ L h' m → News h₀ L h' ((l, W.listOf its n) :: news) → AllNe l news → IntsAre its.toList (zs ns) → its.size ≤ 4 → Q (.ref l) { s with heap := h', toks := tk }) :
    wpAny (model prog w) (A.deeper env) (call f args) Q E s := by
  refine use_pure (P := fun v s' => RetNats s ns v s') B F N hf hke spec fun v h' tk hv F' N' k => ?_
  obtain ⟨l, its, n, rfl, e, hi, fr⟩ := hv
  refine h l its n h' tk F' (fun q hq => ?_) (allNe_of fun q hq e' => ?_) hi (by have := ints_len hi; simp [zs] at this; omega)
  · rcases List.mem_cons.mp hq with rfl | hq
    · exact ⟨e, fresh_ne F fr, fresh_old F fr⟩
    · exact N' q hq
  · have := (N q hq).1
    rw [e', fr] at this; cases this
variable (X : (hd.heap_39 w.params).In b0) (T : Top p loose mean mg mb b0) (B : Below A b0 outer h₀) (F : Fr h₀ L s.heap m) (N : News h₀ L s.heap news)
include X T B F N
theorem use_point (hD : A.depth ≤ 890) {q : Int} {t : Tok} (h : ∀ t' h' tk, Fr h₀ L h' m → News h₀ L h' news → Q (.int (pt q : Nat) t') { s with heap := h', toks := tk }) (hf : env.frame = some L) (hke : env.scope.kind = .function) :
    wpAny (model PySem.Challenge.rw_nq0018_01.row.prog w) (A.deeper env) (call (.ref 65) [.int q t]) Q E s :=
  use_pure (P := fun v _ => ∃ t', v = .int (pt q : Nat) t') B F N hf hke (fun B' => point_spec X T B' (by rw [depth_deeper]; omega) q t) fun v h' tk ⟨t', e⟩ F' N' _ => e ▸ h t' h' tk F' N'
theorem use_spelled (hD : A.depth ≤ 890) {q : Int} {t : Tok} (h : ∀ l its n h' tk, Fr h₀ L h' m → News h₀ L h' ((l, W.listOf its n) :: news) → AllNe l news → IntsAre its.toList (zs (spelledL (q % 256).toNat)) → its.size ≤ 4 → Q (.ref l) { s with heap := h', toks := tk }) (hf : env.frame = some L) (hke : env.scope.kind = .function) :
    wpAny (model PySem.Challenge.rw_nq0018_01.row.prog w) (A.deeper env) (call (.ref 72) [.int (q.fmod 256) t]) Q E s := by
  have e : q.fmod 256 = ((q % 256).toNat : Int) := by rw [Int.fmod_eq_emod_of_nonneg _ (by omega)]; omega
  rw [e]
  exact use_nats B F N hf hke (fun B' => spelled_spec X T B' (by rw [depth_deeper]; omega) _ (by omega) t) (spelled_len _) h
theorem use_fault (hD : A.depth ≤ 880) {q : Int} {c : Nat} {t u : Tok} (h : ∀ l its n h' tk, Fr h₀ L h' m → News h₀ L h' ((l, W.listOf its n) :: news) → AllNe l news → IntsAre its.toList (zs (faultL (q % 4).toNat c)) → its.size ≤ 4 → Q (.ref l) { s with heap := h', toks := tk }) (hf : env.frame = some L) (hke : env.scope.kind = .function) :
    wpAny (model PySem.Challenge.rw_nq0018_01.row.prog w) (A.deeper env) (call (.ref 93) [.int (q.fmod 4) u, .int (c : Int) t]) Q E s := by
  have e : q.fmod 4 = ((q % 4).toNat : Int) := by rw [Int.fmod_eq_emod_of_nonneg _ (by omega)]; omega
  rw [e]
  exact use_nats B F N hf hke (fun B' => fault_spec X T B' (by rw [depth_deeper]; omega) _ c (by omega) t u) (fault_len _ _) h
end

theorem fm8 (n : Int) : n.fmod 8 = n % 8 := Int.fmod_eq_emod_of_nonneg _ (by omega)
theorem fd8 (n : Int) : n.fdiv 8 = n / 8 := Int.fdiv_eq_ediv_of_nonneg _ (by omega)
theorem fm4 (n : Int) : n.fmod 4 = n % 4 := Int.fmod_eq_emod_of_nonneg _ (by omega)
theorem fd4 (n : Int) : n.fdiv 4 = n / 4 := Int.fdiv_eq_ediv_of_nonneg _ (by omega)
theorem fm256 (n : Int) : n.fmod 256 = n % 256 := Int.fmod_eq_emod_of_nonneg _ (by omega)
section
variable {n : Int} {fr : List Nat}
theorem g_open (h : n.fmod 8 < 4) : grow none n = ([2], [], some []) := by rw [fm8] at h; simp only [grow]; rw [if_pos h]
theorem g_junk (h : ¬ n.fmod 8 < 4) : grow none n = ([if pt (n.fdiv 8) = 2 then 26 else pt (n.fdiv 8)], [], none) := by rw [fm8] at h; rw [fd8]; simp only [grow]; rw [if_neg h]
theorem g_code (h : n.fmod 8 < 5) : grow (some fr) n = (spelledL ((n.fdiv 8) % 256).toNat, [], some (fr ++ [((n.fdiv 8) % 256).toNat])) := by rw [fm8] at h; rw [fd8]; simp only [grow]; rw [if_pos h]
theorem g_end (h : ¬ n.fmod 8 < 5) (h5 : n.fmod 8 = 5) : grow (some fr) n = ([3], [.list ((zs fr).map PyData.int)], none) := by rw [fm8] at h h5; simp only [grow]; rw [if_neg h, if_pos h5]
theorem g_bad (h : ¬ n.fmod 8 < 5) (h5 : n.fmod 8 ≠ 5) : grow (some fr) n = (faultL ((n.fdiv 8) % 4).toNat (pt ((n.fdiv 8).fdiv 4)), [.str (msgOf (fr ++ [faultC ((n.fdiv 8) % 4).toNat (pt ((n.fdiv 8).fdiv 4))]))], none) := by
  rw [fm8] at h h5; rw [fd4, fd8]; simp only [grow]; rw [if_neg h, if_neg h5]
end
theorem ints_snocN {vs : List Value} {cs : List Nat} {n : Nat} {t : Tok} (h : IntsAre vs (zs cs)) : IntsAre (vs ++ [.int (n : Int) t]) (zs (cs ++ [n])) := ints_snoc h rfl
theorem ints_app {a b : Array Value} {x y : List Nat} (h : IntsAre a.toList (zs x)) (h' : IntsAre b.toList (zs y)) : IntsAre (a ++ b).toList (zs (x ++ y)) := by
  rw [Array.toList_append, show zs (x ++ y) = zs x ++ zs y from List.map_append ..]; exact h.append h'
theorem fm256N (q : Int) : q.fmod 256 = ((q % 256).toNat : Int) := by rw [fm256]; omega
theorem junk_a {q : Int} (h : ((pt q : Nat) : Int) = 2) : (26 : Int) = ((if pt q = 2 then 26 else pt q : Nat) : Int) := by rw [if_pos (by omega)]; rfl
theorem junk_b {q : Int} (h : ((pt q : Nat) : Int) ≠ 2) : ((pt q : Nat) : Int) = ((if pt q = 2 then 26 else pt q : Nat) : Int) := by rw [if_neg (by omega)]
theorem ints_push {its : Array Value} {cs : List Nat} {x : Int} {c : Nat} {t : Tok} (h : IntsAre its.toList (zs cs)) (e : x = (c : Int)) : IntsAre (its.push (.int x t)).toList (zs (cs ++ [c])) := by
  rw [Array.toList_push]; exact ints_snoc h e
theorem gt_of {g h : Heap} {L aL aT l J : Addr} {oJ : Obj} {q n : Int} {t : Tok} {line dl : List Nat} {told dt : List PyData} {f f' : Option (List Nat)} {s : Shared} {tk : Nat} {m : Str → Option Value} {news : List (Addr × Obj)} {fv : Value} {fro olds : List (Addr × Obj)} {lits tits : Array Value} {nL nT : Nat}
    (F : Fr g L h m) (N : News g L h news) (m1 : m (Str.ofString "line") = some (.ref aL)) (m2 : m (Str.ofString "told") = some (.ref aT)) (m3 : m (Str.ofString "frame") = some fv) (m4 : m (Str.ofString "numbers") = some (.ref l)) (m5 : m (Str.ofString "q") = some (.int q t))
    (k : ∀ p ∈ fro ++ (aT, W.listOf tits nT) :: (aL, W.listOf lits nL) :: (J, oJ) :: olds, p ∈ news)
    (hf : match f' with
      | none => fv = .none ∧ fro = []
      | some fr => ∃ aF fits nF, fv = .ref aF ∧ fro = [(aF, W.listOf fits nF)] ∧ IntsAre fits.toList (zs fr) ∧ @Ne Nat aF aL ∧ @Ne Nat aF aT ∧ (∀ p ∈ olds, p.1 ≠ aF))
    (e : grow f n = (dl, dt, f')) (hI : IntsAre lits.toList (zs (line ++ dl))) (hT : ToldAll olds tits.toList (told ++ dt)) (o1 : ∀ p ∈ olds, p.1 ≠ aL) (o2 : ∀ p ∈ olds, p.1 ≠ aT) (o3 : ∀ p ∈ olds, p.2.cls = .type "list") :
    GT g L aL aT l q t [(J, oJ)] (line ++ (grow f n).1) (told ++ (grow f n).2.1) (grow f n).2.2 s .next { s with heap := h, toks := tk } := by
  rw [e]
  exact ⟨rfl, h, tk, rfl, m, fv, fro, lits, nL, tits, nT, olds, F, m1, m2, m3, m4, m5, fun p hp => N p (k p hp), hI, hT, o1, o2, o3, hf⟩

/-- the state that is handed back, as the ledger has it -/
def SvIs (olds : List (Addr × Obj)) (sv : Value) : Mine.St → Prop
  | none => sv = .none
  | some (fr, e, b) => ∃ tS aF fits n, sv = .ref tS ∧ (tS, ({ cls := .type "tuple", data := .seq #[.ref aF, .bool e, .bool b] } : Obj)) ∈ olds ∧ (aF, W.listOf fits n) ∈ olds ∧ IntsAre fits.toList (zs fr)
/-- what _law_grown hands back -/
def GrownRet (ns : List Int) (q : Int) (s : Shared) (v : Value) (s' : Shared) : Prop :=
  ∃ D aL aT sv lits nL tits nT olds, v = .ref D ∧ (∀ p ∈ (D, ({ cls := .type "tuple", data := .seq #[.ref aL, .ref aT, sv] } : Obj)) :: (aL, W.listOf lits nL) :: olds, s'.heap.get? p.1 = some p.2 ∧ s.heap.get? p.1 = none) ∧
    IntsAre lits.toList (zs (lineOf ns q)) ∧ (aT, W.listOf tits nT) ∈ olds ∧ ToldAll olds tits.toList (growAll ns none).2.1 ∧ SvIs olds sv (endOf ns q)
theorem grown_none {ns : List Int} {q : Int} (e : (growAll ns none).2.2 = none) : lineOf ns q = (growAll ns none).1 ∧ endOf ns q = none := by
  unfold lineOf endOf
  rw [e]
  exact ⟨rfl, rfl⟩
theorem grown_some {ns : List Int} {q : Int} {fr : List Nat} {k : Nat} (e : (growAll ns none).2.2 = some fr) (h : q.fmod 4 = (k : Int)) : lineOf ns q = (growAll ns none).1 ++ headsL k ∧ endOf ns q = some (fr, decide (k % 2 = 1), decide (1 < k)) := by
  unfold lineOf endOf
  rw [e]
  rw [fm4] at h
  have h1 : (q % 4).toNat = k := by omega
  have e1 : decide (q % 2 = 1) = decide (k % 2 = 1) := by rw [decide_eq_decide]; omega
  have e2 : decide (1 < q % 4) = decide (1 < k) := by rw [decide_eq_decide]; omega
  exact ⟨by dsimp only; rw [h1], by dsimp only; rw [e1, e2]⟩
theorem mod_lit {prog : Program} {w : World} {A : Around} {E : Value → Shared → Prop} {s : Shared} {Q : Value → Shared → Prop} {a b k : Int} {t u : Tok} (hk : a.fmod b = k) (hb : b ≠ 0) (h : Q (.int k s.toks) { s with toks := s.toks + 1 }) : wpAny (model prog w) A (binaryOp .Mod (.int a t) (.int b u)) Q E s :=
  mod_int' hb (by rw [hk]; exact h)
theorem all_len (ns : List Int) (f : Option (List Nat)) (k : Nat) (hf : ∀ fr, f = some fr → fr.length ≤ k) : (growAll ns f).1.length ≤ 4 * ns.length ∧ (growAll ns f).2.1.length ≤ ns.length ∧ ∀ fr, (growAll ns f).2.2 = some fr → fr.length ≤ k + ns.length := by
  induction ns generalizing f k with
  | nil => exact ⟨Nat.le_refl _, Nat.le_refl _, fun fr e => by have := hf fr e; simpa using this⟩
  | cons n ns ih =>
    obtain ⟨a, b, c⟩ := grow_len f n
    obtain ⟨x, y, z⟩ := ih (grow f n).2.2 (k + 1) (fun fr e => c fr e k hf)
    simp only [growAll, List.length_append, List.length_cons]
    exact ⟨by omega, by omega, fun fr e => by have := z fr e; omega⟩

theorem grown_end {ns : List Int} {q : Int} {s : Shared} {h : Heap} {L D aL aT : Addr} {sv : Value} {m : Str → Option Value} {news olds : List (Addr × Obj)} {lits tits : Array Value} {nL nT tk : Nat} (F : Fr s.heap L h m) (N : News s.heap L h news)
    (k : ∀ p ∈ (D, ({ cls := .type "tuple", data := .seq #[.ref aL, .ref aT, sv] } : Obj)) :: (aL, W.listOf lits nL) :: olds, p ∈ news) (hm : (aT, W.listOf tits nT) ∈ olds) (hI : IntsAre lits.toList (zs (lineOf ns q))) (hT : ToldAll olds tits.toList (growAll ns none).2.1) (hS : SvIs olds sv (endOf ns q)) :
    Post (fun v s' => GrownRet ns q s v s' ∧ Keeps s s') (.ok (.ret (.ref D))) { s with heap := h, toks := tk } :=
  ⟨_, rfl, ⟨D, aL, aT, sv, lits, nL, tits, nT, olds, rfl, fun p hp => ⟨(N p (k p hp)).1, (N p (k p hp)).2.2⟩, hI, hm, hT, hS⟩, h, tk, rfl, F.keep⟩
theorem svis_some {ns : List Int} {q : Int} {fr : List Nat} {k : Nat} {e' b' : Bool} {tS aF : Addr} {fits : Array Value} {n : Nat} {olds : List (Addr × Obj)} (e : (growAll ns none).2.2 = some fr) (h : q.fmod 4 = (k : Int)) (m1 : (tS, ({ cls := .type "tuple", data := .seq #[.ref aF, .bool e', .bool b'] } : Obj)) ∈ olds)
    (m2 : (aF, W.listOf fits n) ∈ olds) (he : e' = decide (k % 2 = 1)) (hb : b' = decide (1 < k)) (hi : IntsAre fits.toList (zs fr)) : SvIs olds (.ref tS) (endOf ns q) := by
  rw [(grown_some e h).2, ← he, ← hb]
  exact ⟨tS, aF, fits, n, rfl, m1, m2, hi⟩
theorem line_some {ns : List Int} {q : Int} {fr : List Nat} {k : Nat} {vs ws : List Value} (e : (growAll ns none).2.2 = some fr) (h : q.fmod 4 = (k : Int)) (h1 : IntsAre vs (zs (growAll ns none).1)) (h2 : IntsAre ws (zs (headsL k))) : IntsAre (vs ++ ws) (zs (lineOf ns q)) := by
  rw [(grown_some e h).1, show zs ((growAll ns none).1 ++ headsL k) = zs (growAll ns none).1 ++ zs (headsL k) from List.map_append ..]
  exact h1.append h2

theorem iadd_lists {prog : Program} {w : World} {A : Around} {E : Value → Shared → Prop} {s : Shared} {D b : Addr} {Q : Value → Shared → Prop} (ha : s.TypeIs (.ref D) "list") (hb : s.TypeIs (.ref b) "list")
    (hc : wpAny (model prog w) A (call (.builtin "list.__iadd__") [.ref D, .ref b]) Q E s) : wpAny (model prog w) A (inplaceOp .Add (.ref D) (.ref b)) Q E s := by
  unfold inplaceOp
  refine wpAny_holding ?_
  have hl := PySem.F.slot_list_iadd.lookup
  have hs9 : isSeqSlot (some (.builtin "list.__iadd__")) = true := by decide +kernel
  have hfi : fillsInplaceSlot (.type "list") "add" (Operator.Add == .Add) = pure false := by
    unfold fillsInplaceSlot
    show (typeLookup (.type "list") (dunderI "add") >>= fun fi => pure (fi.isSome && !isSeqSlot fi)) = pure false
    rw [hl]
    show (pure (true && !isSeqSlot (some (.builtin "list.__iadd__"))) : Sem Bool) = pure false
    rw [hs9]; rfl
  have hsi : seqSlot? (.type "list") (dunderI "add") = pure (some (.builtin "list.__iadd__")) := PySem.seqSlot_of hl hs9
  refine wpAny_bind (wpAny_typeOf ha (wpAny_bind (wpAny_of_eq hfi ?_)))
  show wpAny _ A (if false = true then _ else _) Q E s
  rw [if_neg Bool.false_ne_true]
  refine wpAny_bind (wpAny_binaryOp1_none (nm := "add") ha hb noFill_list_add ?_)
  refine wpAny_bind (wpAny_of_eq hsi ?_)
  exact wpAny_bind (wpAny_rule hc)
theorem iadd_K {prog : Program} {w : World} {A : Around} {E : Value → Shared → Prop} {s : Shared} {h₀ : Heap} {L D b : Addr} {m : Str → Option Value} {news news' : List (Addr × Obj)} {its its2 : Array Value} {n n2 : Nat} {Q : Value → Shared → Prop}
    (F : Fr h₀ L s.heap m) (N : News h₀ L s.heap news) (hb : (b, W.listOf its2 n2) ∈ news) (U : Upd D (W.listOf its n) (W.listOf (its ++ its2) (if (its ++ its2).size == its.size then n else n + 1)) news news')
    (h : ∀ h', Fr h₀ L h' m → News h₀ L h' news' → Q (.ref D) { s with heap := h' }) (hz : its.size + its2.size ≤ sizeLine) : wpAny (model prog w) A (inplaceOp .Add (.ref D) (.ref b)) Q E s := by
  obtain ⟨pre, post, rfl, rfl, a, c⟩ := U.split
  have z := N (D, W.listOf its n) (List.mem_append.mpr (.inr (.head _)))
  refine iadd_lists ⟨_, z.1, rfl⟩ ⟨_, (N _ hb).1, rfl⟩ ?_
  refine call_meets PySem.F.slot_list_iadd ⟨_, z.1, rfl⟩ PySem.F.entry_list_iadd (PySem.F.args_list_iadd_2 _ _) (PySem.AutoSeq1.list___iadd___list_list_0 D its n b its2 n2 (extend_door hz) (by omega) (by omega)) ⟨z.1, (N _ hb).1, ?_⟩
  exact h _ (F.change (Heap.SameBut.update ..) z.2.1 z.2.2) (news_set N a c (Heap.SameBut.update ..) (PySem.IsL.update z.1 (fun x => x ++ its2)))
local macro_rules | `(tactic| walk_at "inplaceOp Add ref ref") => `(tactic| (k_here; k_dflt (refine' iadd_K ?k1 ?k2 ?kb ?k3 ?_ ?z; (case k1 => k_asm); (case k2 => k_asm); (case kb => k_mem); (case k3 => k_upd); (case z => (rw [sizeLine_eq]; omega)); k_whole); intro h' F' N'; (try k_sweep)))
theorem compAt_sh {w : World} {A : Around} {b0 h₀ : Heap} {outer : List Env} {s₁ : Shared} {p : Program} {loose : List Str} {mean : ExcName → Option Value} {mg mb : Str → Option Value}
    {L l : Addr} {m : Str → Option Value} {news : List (Addr × Obj)} {env : Env} {its : Array Value} {cs : List Nat} {Q : Value → Shared → Prop}
    (X : (hd.heap_39 w.params).In b0) (T : Top p loose mean mg mb b0) (B : Below A b0 outer h₀) (F : Fr h₀ L s₁.heap m) (N : News h₀ L s₁.heap news) (hD : A.depth ≤ 879) (hf : env.frame = some L)
    (hl : s₁.heap.IsList l its) (hz : its.size ≤ sizeLine) (hs : IntsAre its.toList (zs cs))
    (h : ∀ D ys n h' tk, Fr h₀ L h' m → News h₀ L h' ((D, W.listOf ys n) :: news) → AllNe D news → StrsAre ys.toList (cs.map shown) → Q (.ref D) { s₁ with heap := h', toks := tk }) :
    CompAt PySem.Challenge.rw_nq0018_01.row.prog w A b0 outer env 79 ShowsAs Q (.ref l) s₁ := by
  refine ⟨h₀, L, m, news, l, its, rfl, B, F, N, hf, hl, hz, fun v hv s₃ B₃ => ?_, fun D ys n h' tk F' N' hn hp => h D ys n h' tk F' N' (allNe_of hn) (shows_strs hp (Sgs.of_ints hs))⟩
  have hv' : v ∈ its.toList := by simpa using hv
  obtain ⟨i, hi⟩ := List.getElem?_of_mem hv'
  obtain ⟨c, t, hc, rfl⟩ := ints_at hs i v hi
  have hc' : ∃ k : Nat, c = (k : Int) := by
    simp only [zs, List.getElem?_map] at hc
    cases q : cs[i]? with
    | none => rw [q] at hc; cases hc
    | some k => rw [q] at hc; exact ⟨k, by cases hc; rfl⟩
  obtain ⟨k, rfl⟩ := hc'
  refine codeAny_mono (shown_spec X T B₃ (by rw [depth_deeper]; omega) k t) fun r s' hr => ?_
  obtain ⟨y, e, ⟨t', ht⟩, kp⟩ := hr.out
  exact ⟨y, e, fun tx' c' hc' => ⟨t', by rw [ht, Sg.unique (tx := false) ⟨t, rfl⟩ hc']⟩, kp⟩

theorem slice_last {prog : Program} {w : World} {A : Around} {E : Value → Shared → Prop} {s : Shared} {h₀ : Heap} {L l : Addr} {m : Str → Option Value} {news : List (Addr × Obj)} {value slice : PySem.Expr} {its : Array Value} {vl vu : Value} {Q : Value → Shared → Prop} {cs : List Nat} {c : Nat}
    (F : Fr h₀ L s.heap m) (N : News h₀ L s.heap news) (hl : s.heap.IsList l its) (hI : IntsAre its.toList (zs (cs ++ [c]))) (pl : IsPart vl (some (-1))) (pu : IsPart vu none)
    (h : ∀ D t h', Fr h₀ L h' m → News h₀ L h' ((D, W.listOf #[.int (c : Int) t] 0) :: news) → (∀ p ∈ news, p.1 < D) → Q (.ref D) { s with heap := h' })
    (hs : subscripted slice false (.ref l) (.ref s.heap.objs.size) = operate [.ref s.heap.objs.size, .ref l] (getItem (.ref l) (.ref s.heap.objs.size))) (ht : ∀ r, letTemporaryGo value (.ref l) r = pure ()) (hz : its.size ≤ sizeLine) :
    wpAny (model prog w) A (subscriptTail value slice (.ref l) (.ref s.heap.objs.size)) Q E { s with heap := s.heap.push { cls := .type "slice", data := .fields #[vl, vu, .none] } } := by
  refine kmk_slice F N hl pl pu (fun D h' F' N' l1 => ?_) hs ht hz
  have e := kmk_from_neg (x := -1) hI (by decide)
  rw [Array.toArray_toList] at e
  have e2 : (zs (cs ++ [c])).drop ((zs (cs ++ [c])).length - (- (-1 : Int)).toNat) = [(c : Int)] := by simp [zs]
  rw [e2] at e
  have e3 : ∃ t, slicePick its (some (-1)) none none = #[.int (c : Int) t] := by
    generalize hq : (slicePick its (some (-1)) none none).toList = vs at e
    cases e with
    | cons _ t r =>
      cases r
      exact ⟨t, Array.toList_inj.mp hq⟩
  obtain ⟨t, e3⟩ := e3
  rw [e3] at N'
  exact h D t h' F' N' l1
local macro_rules | `(tactic| walk_at "subscriptTail Name Slice ref ref") => `(tactic| (k_here; k_dflt (refine' slice_last ?F ?N ?l ?i ?p ?q ?_ ?s ?t ?z; (case F => k_asm); (case N => k_asm); (case l => kmk_list); (case p => kmk_part); (case q => kmk_part); (case i => assumption); (case s => with_unfolding_all rfl); (case t => kmk_pure); (case z => (rw [sizeLine_eq]; omega)); k_whole); intro D' t' h' F' N' l1; (try k_lt l1); (try k_sweep)))
local macro_rules | `(tactic| walk_at "binaryOp Add ref ref") => `(tactic| (k_here; (with_reducible show wpAny _ _ (binaryOp _ (Value.ref _) (Value.ref _)) _ _ _); k_dflt (refine' kmk_add_lit ?F ?N ?a ?b ?e ?_ ?z; (case F => k_asm); (case N => k_asm); (case a => kmk_list); (case b => kmk_list); (case e => exact rfl); (case z => (simp only [Array.length_toList, List.length_cons, List.length_nil, sizeLine_eq]; omega))); intro D' h' F' N' l1; (try k_lt l1); (try k_sweep)))
local macro_rules | `(tactic| walk_at "eval ListComp") => `(tactic| (k_here; k_dflt (refine' comp_call (fa := 79) ShowsAs ?kB ?kX ?kT ?hh ?c1 ?c2 ?c3 ?c4 ?c5 ?c6 ?c7 ?c8 ?c9 ?d1 ?d2 ?_ ?d3 ?d4 ?d5; (case kB => k_asm); (case kX => k_asm); (case d1 => k_is); (case d2 => k_is); (case kT => k_asm); (case hh => exact rfl); (case c1 => exact rfl); (case c2 => exact rfl); (case c3 => exact rfl); (case c4 => decide); (case c5 => exact rfl); (case c6 => decide); (case c7 => exact rfl); (case c8 => intro C; exact rfl); (case c9 => intro C; exact rfl); (case d3 => intro x; exact rfl); (case d4 => decide); (case d5 => decide); k_whole)))
local macro_rules | `(tactic| walk_at "CompAt") => `(tactic| (k_here; k_dflt (refine' compAt_sh ?kX ?kT ?kB ?kF ?kN ?kD ?kf ?kl ?kz ?ks ?_; (case kf => exact rfl); (case kB => k_asm); (case kX => k_asm); (case kT => k_asm); (case kF => k_asm); (case kN => k_asm); (case kD => first | omega | (dsimp only; omega)); (case kl => kmk_list); (case kz => (simp only [List.size_toArray, List.length_append, Array.length_toList, List.length_cons, List.length_nil, sizeLine_eq]; omega)); (case ks => exact ints_snocN (by assumption)); k_whole; intro D' ys' n' h' tk' F' N' l1 hS'; (try simp only [AllNe, and_true] at l1); (try k_sweep))))
local macro_rules | `(tactic| walk_at "call builtin:str.join") => `(tactic| (k_here; k_dflt (refine' join_list ?kl ?ki ?kz ?_; (case ki => assumption); (case kl => kmk_list); (case kz => exact msg_join_fit (by (simp only [List.length_append, List.length_cons, List.length_nil]; omega))); k_whole; intro t' k')))
local macro_rules | `(tactic| walk_at "binaryOp Add str str") => `(tactic| (k_here; k_dflt (refine' PyProof.Rows.add_str ?_ ?kz; (case kz => exact msg_fit (by (simp only [List.length_append, List.length_cons, List.length_nil]; omega))); k_whole; intro t' k')))

local macro_rules | `(tactic| walk_at "call ref") => `(tactic| (k_here; k_dflt ((with_reducible show wpAny _ _ (call (Value.ref 65) [_]) _ _ _); refine' use_point ?kX ?kT ?kB ?kF ?kN ?kD ?_ ?kf ?kk; (case kf => exact rfl); (case kk => exact rfl); (case kB => k_asm); (case kX => k_asm); (case kT => k_asm); (case kF => k_asm); (case kN => k_asm); (case kD => first | omega | (dsimp only; omega)); k_whole; intro t' h' tk' F' N'; (try k_sweep))))
local macro_rules | `(tactic| walk_at "call ref") => `(tactic| (k_here; k_dflt ((with_reducible show wpAny _ _ (call (Value.ref 72) [_]) _ _ _); refine' use_spelled ?kX ?kT ?kB ?kF ?kN ?kD ?_ ?kf ?kk; (case kf => exact rfl); (case kk => exact rfl); (case kB => k_asm); (case kX => k_asm); (case kT => k_asm); (case kF => k_asm); (case kN => k_asm); (case kD => first | omega | (dsimp only; omega)); k_whole; intro l' its' n' h' tk' F' N' l1 hI' hz'; (try simp only [AllNe, and_true] at l1); (try k_sweep))))
local macro_rules | `(tactic| walk_at "call ref") => `(tactic| (k_here; k_dflt ((with_reducible show wpAny _ _ (call (Value.ref 93) [_, _]) _ _ _); refine' use_fault ?kX ?kT ?kB ?kF ?kN ?kD ?_ ?kf ?kk; (case kf => exact rfl); (case kk => exact rfl); (case kB => k_asm); (case kX => k_asm); (case kT => k_asm); (case kF => k_asm); (case kN => k_asm); (case kD => first | omega | (dsimp only; omega)); k_whole; intro l' its' n' h' tk' F' N' l1 hI' hz'; (try simp only [AllNe, and_true] at l1); (try k_sweep))))
local macro_rules | `(tactic| walk_at "call builtin:list.append") => `(tactic| (k_here; (with_reducible show wpAny _ _ (call (Value.builtin _) [Value.ref _, _]) _ _ _); k_dflt (refine' append_K ?k1 ?k2 ?k3 ?_ ?z; (case k1 => k_asm); (case k2 => k_asm); (case k3 => k_upd); (case z => (rw [sizeLine_eq]; omega)); k_whole); intro h' F' N'; (try k_sweep)))
local macro_rules | `(tactic| walk_at "binaryOp Mod int int") => `(tactic| (k_here; (with_reducible show wpAny _ _ (binaryOp _ (Value.int _ _) (Value.int _ _)) _ _ _); k_dflt (refine' mod_lit ?k ?z ?_; (case k => assumption); (case z => decide); k_whole)))
local macro_rules | `(tactic| walk_at "call ref") => `(tactic| (k_here; k_dflt ((with_reducible show wpAny _ _ (call (Value.ref 86) _) _ _ _); refine' use_heads ?kX ?kT ?kB ?kF ?kN ?kD ?_ ?kf ?kk; (case kf => exact rfl); (case kk => exact rfl); (case kB => k_asm); (case kX => k_asm); (case kT => k_asm); (case kF => k_asm); (case kN => k_asm); (case kD => first | omega | (dsimp only; omega)); k_whole; intro l' a0' a1' a2' a3' t1' t2' t3' t4' t5' t6' n' h' tk' F' N'; (try k_sweep))))
local macro_rules | `(tactic| walk_at "exec For Name Name cons nil") => `(tactic| (k_here; k_dflt (refine' stop_here ?_; k_whole)))
local macro_rules | `(tactic| k_all) => `(tactic| assumption)
local macro_rules | `(tactic| k_room) => `(tactic| (simp only [depth_under_make, depth_under_kw, depth_in1, depth_deeper, recursionLimit] <;> omega))
section
variable {w : World} {A : Around} {b0 : Heap} {outer : List Env} {s : Shared} {p : Program} {loose : List Str} {mean : ExcName → Option Value} {mg mb : Str → Option Value}
variable (X : (hd.heap_39 w.params).In b0) (T : Top p loose mean mg mb b0) (B : Below A b0 outer s.heap)
include X T B
theorem grown_spec (hD : A.depth ≤ 800) (hh : A.handled = none)
    {l : Addr} {its : Array Value} {ns : List Int} {q : Int} {t : Tok} (hl : s.heap.IsList l its) (hI : IntsAre its.toList ns) (hlen : ns.length ≤ 60) :
    codeAny (model PySem.Challenge.rw_nq0018_01.row.prog w) A (.call (.ref 98) ⟨[.ref l, .int q t], []⟩) (Post fun v s' => GrownRet ns q s v s' ∧ Keeps s s') s := by
  revert X
  k_fill
  intro X
  have hA := B.stack
  obtain ⟨hd9, dp, fr9, gs9, us9⟩ := A
  dsimp only at hh hA hD
  subst hh hA
  refine' enter_pure (binds := [(Str.ofString "numbers", .ref l), (Str.ofString "q", .int q t)]) X T B ?k6 ?k7 ?k8 ?k9 ?kB ?_ ?c2 ?c3 ?c4 ?c5
  case k6 => k_is
  case k7 => k_is
  case k8 => unfold recursionLimit; dsimp only; omega
  case k9 => exact BindsTo.of_eq rfl
  case kB => exact locs rfl
  case c2 => exact rfl
  case c3 => exact rfl
  case c4 => exact rfl
  case c5 => decide
  intro L' h' F' N' B' X' T'
  (try dsimp only)
  k_steps
  refine ⟨?_⟩
  refine' grown_for (s := s) ?a1 hl hI hlen ?a2 ?a3 ?a4 ?a5 ?a6 ?a7 ?b1 ?b2 ?b3 ?b4 ?b5 ?t ?d
  case a2 => k_asm
  case a3 => k_asm
  case a1 => exact rfl
  case a4 => exact rfl
  case a5 => exact rfl
  case a6 => exact rfl
  case a7 => exact rfl
  case b1 => exact rfl
  case b2 => exact rfl
  case b3 => exact rfl
  case b4 => exact rfl
  case b5 => exact rfl
  case t =>
    rename Fr _ _ _ _ => F9
    rename News _ _ _ _ => N9
    clear N9 F9
    intro n tn J oJ line told f u fv fro lits nL tits nT olds h2 tk2 E2 hz F2 N2 hIn hT o1 o2 o3 hf j1 j2 j3 j4
    cases f with
    | none =>
      obtain ⟨rfl, rfl⟩ := hf
      rw [List.nil_append] at N2
      k_fold
      k_steps
      · refine' gt_of ?F ?N ?m1 ?m2 ?m3 ?m4 ?m5 ?k ?hf (g_open (by assumption)) ?i ?t o1 o2 o3
        case F => assumption
        case N => assumption
        case m1 => exact rfl
        case m2 => exact rfl
        case m3 => exact rfl
        case m4 => exact rfl
        case m5 => exact rfl
        case hf => exact ⟨_, _, 0, rfl, rfl, .nil, (by omega), (by omega), allLt_ne (‹_ ∧ _ ∧ _ ∧ _ ∧ AllLt _ olds›).2.2.2.2⟩
        case k => exact List.forall_mem_cons.mpr ⟨by k_mem, List.forall_mem_cons.mpr ⟨by k_mem, List.forall_mem_cons.mpr ⟨by k_mem, List.forall_mem_cons.mpr ⟨by k_mem, fun p hp => by repeat (first | exact hp | refine List.Mem.tail _ ?_)⟩⟩⟩⟩
        case i => exact ints_push hIn rfl
        case t => exact (by rw [List.append_nil]; exact hT)
      · refine' gt_of (fro := []) ?F ?N ?m1 ?m2 ?m3 ?m4 ?m5 ?k ?hf (g_junk (by assumption)) ?i ?t o1 o2 o3
        case F => assumption
        case N => assumption
        case m1 => exact rfl
        case m2 => exact rfl
        case m3 => exact rfl
        case m4 => exact rfl
        case m5 => exact rfl
        case hf => exact ⟨rfl, rfl⟩
        case k => exact List.forall_mem_cons.mpr ⟨by k_mem, List.forall_mem_cons.mpr ⟨by k_mem, List.forall_mem_cons.mpr ⟨by k_mem, fun p hp => by repeat (first | exact hp | refine List.Mem.tail _ ?_)⟩⟩⟩
        case i => exact ints_push hIn (junk_a (by assumption))
        case t => exact (by rw [List.append_nil]; exact hT)
      · refine' gt_of (fro := []) ?F ?N ?m1 ?m2 ?m3 ?m4 ?m5 ?k ?hf (g_junk (by assumption)) ?i ?t o1 o2 o3
        case F => assumption
        case N => assumption
        case m1 => exact rfl
        case m2 => exact rfl
        case m3 => exact rfl
        case m4 => exact rfl
        case m5 => exact rfl
        case hf => exact ⟨rfl, rfl⟩
        case k => exact List.forall_mem_cons.mpr ⟨by k_mem, List.forall_mem_cons.mpr ⟨by k_mem, List.forall_mem_cons.mpr ⟨by k_mem, fun p hp => by repeat (first | exact hp | refine List.Mem.tail _ ?_)⟩⟩⟩
        case i => exact ints_push hIn (junk_b (by assumption))
        case t => exact (by rw [List.append_nil]; exact hT)
    | some fr =>
      k_fold
      obtain ⟨aF, fits, nF, rfl, rfl, hFi, nFL, nFT, oF⟩ := hf
      rw [List.cons_append, List.nil_append] at N2
      have j5 := j3 _ (.head _)
      have hfr := hz.2.2 fr rfl
      have hfs : fits.size = fr.length := by have := ints_len hFi; simpa using this
      have hls : lits.size = line.length := by have := ints_len hIn; simpa using this
      have hts : tits.size = told.length := by have := hT.length; simpa using this
      clear j3
      k_steps
      · refine' gt_of (fro := [(aF, _)]) ?F ?N ?m1 ?m2 ?m3 ?m4 ?m5 ?k ?hf (g_code (by assumption)) ?i ?t o1 o2 o3
        case F => assumption
        case N => assumption
        case m1 => exact rfl
        case m2 => exact rfl
        case m3 => exact rfl
        case m4 => exact rfl
        case m5 => exact rfl
        case k => exact List.forall_mem_cons.mpr ⟨by k_mem, List.forall_mem_cons.mpr ⟨by k_mem, List.forall_mem_cons.mpr ⟨by k_mem, List.forall_mem_cons.mpr ⟨by k_mem, fun p hp => by repeat (first | exact hp | refine List.Mem.tail _ ?_)⟩⟩⟩⟩
        case hf => exact ⟨aF, _, _, rfl, rfl, ints_push hFi (fm256N _), nFL, nFT, oF⟩
        case i => exact ints_app hIn (by assumption)
        case t => exact (by rw [List.append_nil]; exact hT)
      · refine' gt_of (fro := []) (olds := (aF, W.listOf fits nF) :: olds) ?F ?N ?m1 ?m2 ?m3 ?m4 ?m5 ?k ?hf (g_end (by assumption) (by assumption)) ?i ?t (List.forall_mem_cons.mpr ⟨nFL, o1⟩) (List.forall_mem_cons.mpr ⟨nFT, o2⟩) (List.forall_mem_cons.mpr ⟨rfl, o3⟩)
        case F => assumption
        case N => assumption
        case m1 => exact rfl
        case m2 => exact rfl
        case m3 => exact rfl
        case m4 => exact rfl
        case m5 => exact rfl
        case hf => exact ⟨rfl, rfl⟩
        case k => exact List.forall_mem_cons.mpr ⟨by k_mem, List.forall_mem_cons.mpr ⟨by k_mem, List.forall_mem_cons.mpr ⟨by k_mem, List.forall_mem_cons.mpr ⟨by k_mem, fun p hp => by repeat (first | exact hp | refine List.Mem.tail _ ?_)⟩⟩⟩⟩
        case i => exact ints_push hIn rfl
        case t => exact (by rw [Array.toList_push]; exact (hT.more fun p hp => .tail _ hp).snoc (.inr ⟨aF, fits, nF, fr, rfl, .head _, hFi, rfl⟩))
      · refine' gt_of (fro := []) ?F ?N ?m1 ?m2 ?m3 ?m4 ?m5 ?k ?hf (g_bad (by assumption) (by assumption)) ?i ?t o1 o2 o3
        case F => assumption
        case N => assumption
        case m1 => exact rfl
        case m2 => exact rfl
        case m3 => exact rfl
        case m4 => exact rfl
        case m5 => exact rfl
        case hf => exact ⟨rfl, rfl⟩
        case k => exact List.forall_mem_cons.mpr ⟨by k_mem, List.forall_mem_cons.mpr ⟨by k_mem, List.forall_mem_cons.mpr ⟨by k_mem, fun p hp => by repeat (first | exact hp | refine List.Mem.tail _ ?_)⟩⟩⟩
        case i => exact ints_app hIn (by assumption)
        case t => exact (by rw [Array.toList_push]; exact hT.snoc (.inl ⟨_, _, rfl, rfl⟩))
  case d =>
    rename Fr _ _ _ _ => F9
    rename News _ _ _ _ => N9
    clear N9 F9
    intro h2 tk2 hG
    dsimp only
    k_fold
    obtain ⟨m, fv, fro, lits, nL, tits, nT, olds, F2, a1, a2, a3, a4, a5, N2, hIn, hT, o1, o2, o3, hf⟩ := hG
    rw [gm_of a1 a2 a3 a4 a5] at F2
    clear a1 a2 a3 a4 a5
    obtain ⟨z1, z2, z3⟩ := all_len ns none 0 (fun _ e => by cases e)
    have hls : lits.size = (growAll ns none).1.length := by have := ints_len hIn; simpa using this
    cases eF : (growAll ns none).2.2 with
    | none =>
      rw [eF] at hf
      obtain ⟨rfl, rfl⟩ := hf
      rw [List.nil_append, List.nil_append] at N2
      k_steps
      show Post (fun v s' => GrownRet ns q s v s' ∧ Keeps s s') (.ok (.ret _)) _
      dsimp only
      refine' grown_end (olds := (_, W.listOf tits nT) :: olds) ?F ?N ?k (.head _) ?i (hT.more fun p hp => .tail _ hp) ?s
      case F => assumption
      case N => assumption
      case k => exact List.forall_mem_cons.mpr ⟨by k_mem, List.forall_mem_cons.mpr ⟨by k_mem, List.forall_mem_cons.mpr ⟨by k_mem, fun p hp => by repeat (first | exact hp | refine List.Mem.tail _ ?_)⟩⟩⟩
      case i => rw [(grown_none eF).1]; exact hIn
      case s => rw [(grown_none eF).2]; exact rfl
    | some fr =>
      rw [eF] at hf
      obtain ⟨aF, fits, nF, rfl, rfl, hFi, nFL, nFT, oF⟩ := hf
      rw [List.cons_append, List.nil_append, List.nil_append] at N2
      have h4 : q.fmod 4 = 0 ∧ q.fmod 2 = 0 ∨ q.fmod 4 = 1 ∧ q.fmod 2 = 1 ∨ q.fmod 4 = 2 ∧ q.fmod 2 = 0 ∨ q.fmod 4 = 3 ∧ q.fmod 2 = 1 := by
        have e2 : q.fmod 2 = q % 2 := Int.fmod_eq_emod_of_nonneg _ (by omega)
        rw [fm4, e2]; omega
      rcases h4 with ⟨h4, h2'⟩ | ⟨h4, h2'⟩ | ⟨h4, h2'⟩ | ⟨h4, h2'⟩
      · k_steps
        show Post (fun v s' => GrownRet ns q s v s' ∧ Keeps s s') (.ok (.ret _)) _
        dsimp only
        refine' grown_end (olds := (_, _) :: (aF, W.listOf fits nF) :: (_, W.listOf tits nT) :: olds) ?F ?N ?k (.tail _ (.tail _ (.head _))) ?i (hT.more fun p hp => .tail _ (.tail _ (.tail _ hp))) (svis_some (k := 0) eF h4 (.head _) (.tail _ (.head _)) ?e ?b hFi)
        case F => assumption
        case N => assumption
        case k => exact List.forall_mem_cons.mpr ⟨by k_mem, List.forall_mem_cons.mpr ⟨by k_mem, List.forall_mem_cons.mpr ⟨by k_mem, List.forall_mem_cons.mpr ⟨by k_mem, List.forall_mem_cons.mpr ⟨by k_mem, fun p hp => by repeat (first | exact hp | refine List.Mem.tail _ ?_)⟩⟩⟩⟩⟩
        case i => exact line_some (k := 0) eF h4 hIn (.nil)
        case e => decide
        case b => decide
      · k_steps
        show Post (fun v s' => GrownRet ns q s v s' ∧ Keeps s s') (.ok (.ret _)) _
        dsimp only
        refine' grown_end (olds := (_, _) :: (aF, W.listOf fits nF) :: (_, W.listOf tits nT) :: olds) ?F ?N ?k (.tail _ (.tail _ (.head _))) ?i (hT.more fun p hp => .tail _ (.tail _ (.tail _ hp))) (svis_some (k := 1) eF h4 (.head _) (.tail _ (.head _)) ?e ?b hFi)
        case F => assumption
        case N => assumption
        case k => exact List.forall_mem_cons.mpr ⟨by k_mem, List.forall_mem_cons.mpr ⟨by k_mem, List.forall_mem_cons.mpr ⟨by k_mem, List.forall_mem_cons.mpr ⟨by k_mem, List.forall_mem_cons.mpr ⟨by k_mem, fun p hp => by repeat (first | exact hp | refine List.Mem.tail _ ?_)⟩⟩⟩⟩⟩
        case i => exact line_some (k := 1) eF h4 hIn (iac rfl .nil)
        case e => decide
        case b => decide
      · k_steps
        show Post (fun v s' => GrownRet ns q s v s' ∧ Keeps s s') (.ok (.ret _)) _
        dsimp only
        refine' grown_end (olds := (_, _) :: (aF, W.listOf fits nF) :: (_, W.listOf tits nT) :: olds) ?F ?N ?k (.tail _ (.tail _ (.head _))) ?i (hT.more fun p hp => .tail _ (.tail _ (.tail _ hp))) (svis_some (k := 2) eF h4 (.head _) (.tail _ (.head _)) ?e ?b hFi)
        case F => assumption
        case N => assumption
        case k => exact List.forall_mem_cons.mpr ⟨by k_mem, List.forall_mem_cons.mpr ⟨by k_mem, List.forall_mem_cons.mpr ⟨by k_mem, List.forall_mem_cons.mpr ⟨by k_mem, List.forall_mem_cons.mpr ⟨by k_mem, fun p hp => by repeat (first | exact hp | refine List.Mem.tail _ ?_)⟩⟩⟩⟩⟩
        case i => exact line_some (k := 2) eF h4 hIn (iac rfl (iac rfl .nil))
        case e => decide
        case b => decide
      · k_steps
        show Post (fun v s' => GrownRet ns q s v s' ∧ Keeps s s') (.ok (.ret _)) _
        dsimp only
        refine' grown_end (olds := (_, _) :: (aF, W.listOf fits nF) :: (_, W.listOf tits nT) :: olds) ?F ?N ?k (.tail _ (.tail _ (.head _))) ?i (hT.more fun p hp => .tail _ (.tail _ (.tail _ hp))) (svis_some (k := 3) eF h4 (.head _) (.tail _ (.head _)) ?e ?b hFi)
        case F => assumption
        case N => assumption
        case k => exact List.forall_mem_cons.mpr ⟨by k_mem, List.forall_mem_cons.mpr ⟨by k_mem, List.forall_mem_cons.mpr ⟨by k_mem, List.forall_mem_cons.mpr ⟨by k_mem, List.forall_mem_cons.mpr ⟨by k_mem, fun p hp => by repeat (first | exact hp | refine List.Mem.tail _ ?_)⟩⟩⟩⟩⟩
        case i => exact line_some (k := 3) eF h4 hIn (iac rfl (iac rfl (iac rfl .nil)))
        case e => decide
        case b => decide
end
end Mine

namespace Mine

def okS (x : Str) : Bool := x.cps.all (· < 0x110000)
def Nice (d : PyData) : Prop := d.canLay0 = true ∧ d.depth ≤ 1
theorem lay_all : ∀ {ds : List PyData}, (∀ d ∈ ds, d.canLay0 = true) → PyData.canLayAll0 ds = true
  | [], _ => rfl
  | d :: ds, h => by
    simp only [PyData.canLayAll0, Bool.and_eq_true]
    exact ⟨h d (.head _), lay_all fun x hx => h x (.tail _ hx)⟩
theorem deep_all {k : Nat} : ∀ {ds : List PyData}, (∀ d ∈ ds, d.depth ≤ k) → PyData.depthAll ds ≤ k
  | [], _ => Nat.zero_le _
  | d :: ds, h => by
    simp only [PyData.depthAll]
    exact Nat.max_le.mpr ⟨h d (.head _), deep_all fun x hx => h x (.tail _ hx)⟩
theorem strOk_append {x y : Str} (hx : okS x = true) (hy : okS y = true) : okS (x ++ y) = true := by
  unfold okS at *
  show (x.cps ++ y.cps).all _ = true
  rw [Array.all_append, hx, hy]; rfl
theorem strOk_join {sep : Str} (hs : okS sep = true) : ∀ {ys : List Str}, (∀ y ∈ ys, okS y = true) → okS (Str.join sep ys) = true
  | [], _ => by show okS Str.empty = true; decide +kernel
  | [y], h => h y (.head _)
  | y :: z :: r, h => by
    have ih := strOk_join hs (ys := z :: r) fun x hx => h x (.tail _ hx)
    simp only [Str.join] at ih ⊢
    exact strOk_append (strOk_append (h y (.head _)) hs) ih
theorem strOk_of {l : List Nat} (h : ∀ c ∈ l, c < 1114112) : okS (⟨l.toArray⟩ : Str) = true := by
  unfold okS
  simp only [List.all_toArray, List.all_eq_true, decide_eq_true_eq]
  exact h
theorem shown_ok (c : Nat) : okS (shown c) = true := by
  refine strOk_of fun x hx => ?_
  unfold shownL at hx
  rcases List.mem_append.mp hx with hx | hx
  · split at hx <;> simp at hx
    omega
  · split at hx
    · simp at hx; omega
    · split at hx
      · simp at hx; omega
      · simp only [List.mem_cons, List.not_mem_nil, or_false] at hx
        rcases hx with rfl | rfl
        · omega
        · split <;> omega
theorem msg_ok (cs : List Nat) : okS (msgOf cs) = true := by
  unfold msgOf
  refine strOk_append ?_ (by decide +kernel)
  show okS (Builtin.Str.glued (Str.ofString " ") (cs.map shown)) = true
  rw [StrLaws.glued_eq_join]
  refine strOk_join (by decide +kernel) fun y hy => ?_
  obtain ⟨c, _, rfl⟩ := List.mem_map.mp hy
  exact shown_ok c
theorem nice_ints (l : List Int) : Nice (.list (l.map PyData.int)) := by
  refine ⟨?_, ?_⟩
  · simp only [PyData.canLay0]
    refine lay_all fun d hd => ?_
    obtain ⟨x, _, rfl⟩ := List.mem_map.mp hd
    rfl
  · simp only [PyData.depth]
    have : PyData.depthAll (l.map PyData.int) ≤ 0 := deep_all fun d hd => by
      obtain ⟨x, _, rfl⟩ := List.mem_map.mp hd
      exact Nat.le_refl _
    omega
theorem nice_msg (cs : List Nat) : Nice (.str (msgOf cs)) := ⟨msg_ok cs, Nat.zero_le _⟩
theorem grow_nice (f : Option (List Nat)) (n : Int) : ∀ d ∈ (grow f n).2.1, Nice d := by
  intro d hd
  cases f with
  | none =>
    simp only [grow] at hd
    split at hd <;> cases hd
  | some fr =>
    simp only [grow] at hd
    split at hd
    · cases hd
    · split at hd
      · cases List.mem_singleton.mp hd; exact nice_ints _
      · cases List.mem_singleton.mp hd; exact nice_msg _
theorem told_nice (ns : List Int) : ∀ (f : Option (List Nat)), ∀ d ∈ (growAll ns f).2.1, Nice d := by
  induction ns with
  | nil => intro f d hd; cases hd
  | cons n ns ih =>
    intro f d hd
    simp only [growAll] at hd
    rcases List.mem_append.mp hd with hd | hd
    · exact grow_nice f n d hd
    · exact ih _ d hd
theorem dataOf_nice (st : Mine.St) : (dataOf st).canLay0 = true ∧ (dataOf st).depth ≤ 2 := by
  match st with
  | none => exact ⟨rfl, Nat.zero_le _⟩
  | some (cs, e, b) =>
    have h := nice_ints (zs cs)
    simp only [dataOf, PyData.canLay0, PyData.canLayAll0, PyData.depth, PyData.depthAll] at h ⊢
    refine ⟨by simp only [Bool.and_true]; exact h.1, ?_⟩
    have := h.2
    simp only [PyData.depth] at this
    omega
theorem sg_nice (tx : Bool) {cs : List Nat} (h : ∀ c ∈ cs, c < 1114112) : ∀ d ∈ sgData tx cs, d.canLay0 = true ∧ d.depth ≤ 0 := by
  intro d hd
  obtain ⟨c, hc, rfl⟩ := List.mem_map.mp hd
  cases tx with
  | false => exact ⟨rfl, Nat.zero_le _⟩
  | true => exact ⟨strOk_of (l := [c]) fun x hx => by cases List.mem_singleton.mp hx; exact h c hc, Nat.zero_le _⟩
theorem all_nice {tx : Bool} {cs : List Nat} {ns : List Int} {st : Mine.St} (h : ∀ c ∈ cs, c < 1114112) :
    (PyData.tuple [.list (growAll ns none).2.1, .list (sgData tx cs), dataOf st]).canLay0 = true ∧ (PyData.tuple [.list (growAll ns none).2.1, .list (sgData tx cs), dataOf st]).depth ≤ 3 := by
  have a := told_nice ns none
  have b := sg_nice tx h
  obtain ⟨c1, c2⟩ := dataOf_nice st
  simp only [PyData.canLay0, PyData.canLayAll0, PyData.depth, PyData.depthAll, Bool.and_eq_true, and_true]
  have d1 : PyData.depthAll (growAll ns none).2.1 ≤ 1 := deep_all fun d hd => (a d hd).2
  have d2 : PyData.depthAll (sgData tx cs) ≤ 0 := deep_all fun d hd => (b d hd).2
  exact ⟨⟨lay_all fun d hd => (a d hd).1, lay_all fun d hd => (b d hd).1, c1⟩, by omega⟩

theorem spelled_lt (x : Nat) : ∀ c ∈ spelledL x, c < 1114112 := by
  intro c hc
  unfold spelledL at hc
  rcases List.mem_append.mp hc with hc | hc
  · split at hc <;> simp at hc; omega
  · split at hc <;> simp at hc <;> omega
theorem heads_lt (k : Nat) : ∀ c ∈ headsL k, c < 1114112 := by
  intro c hc
  unfold headsL at hc
  split at hc <;> simp at hc <;> omega
theorem grow_lt (f : Option (List Nat)) (n : Int) : ∀ c ∈ (grow f n).1, c < 1114112 := by
  intro c hc
  cases f with
  | none =>
    simp only [grow] at hc
    split at hc
    · simp at hc; omega
    · cases List.mem_singleton.mp hc
      have := pt_lt (n / 8)
      split <;> omega
  | some fr =>
    simp only [grow] at hc
    split at hc
    · exact spelled_lt _ c hc
    · split at hc
      · simp at hc; omega
      · rcases List.mem_append.mp hc with hc | hc
        · exact heads_lt _ c hc
        · cases List.mem_singleton.mp hc
          have := pt_lt (n / 8 / 4)
          unfold faultC
          split <;> omega
theorem all_lt (ns : List Int) : ∀ (f : Option (List Nat)), ∀ c ∈ (growAll ns f).1, c < 1114112 := by
  induction ns with
  | nil => intro f c hc; cases hc
  | cons n ns ih =>
    intro f c hc
    simp only [growAll] at hc
    rcases List.mem_append.mp hc with hc | hc
    · exact grow_lt f n c hc
    · exact ih _ c hc
theorem line_lt (ns : List Int) (q : Int) : ∀ c ∈ lineOf ns q, c < 1114112 := by
  intro c hc
  unfold lineOf at hc
  split at hc
  · exact all_lt ns none c hc
  · rcases List.mem_append.mp hc with hc | hc
    · exact all_lt ns none c hc
    · exact heads_lt _ c hc
theorem line_len (ns : List Int) (q : Int) (h : ns.length ≤ 60) : (lineOf ns q).length ≤ 900 := by
  obtain ⟨a, _, _⟩ := all_len ns none 0 (fun _ e => by cases e)
  unfold lineOf
  split
  · omega
  · rw [List.length_append]
    have : (headsL (q % 4).toNat).length ≤ 3 := by unfold headsL; split <;> simp
    omega

/-- the line as a text -/
def chr1 (c : Nat) : Str := ⟨#[c]⟩
theorem join_chr : ∀ cs : List Nat, (Txt.join (Str.ofString "") (cs.map chr1)).cps.toList = cs := by
  intro cs
  show (Builtin.Str.glued (Str.ofString "") (cs.map chr1)).cps.toList = cs
  rw [StrLaws.glued_eq_join]
  induction cs with
  | nil => decide +kernel
  | cons c cs ih =>
    cases cs with
    | nil => rfl
    | cons d cs =>
      have e : Str.join (Str.ofString "") ((c :: d :: cs).map chr1) = chr1 c ++ Str.ofString "" ++ Str.join (Str.ofString "") ((d :: cs).map chr1) := rfl
      rw [e]
      show ((chr1 c).cps ++ (Str.ofString "").cps ++ (Str.join (Str.ofString "") ((d :: cs).map chr1)).cps).toList = _
      rw [Array.toList_append, Array.toList_append, ih]
      have : (Str.ofString "").cps = #[] := by decide +kernel
      rw [this]; rfl
theorem chr_fit {cs : List Nat} (h : cs.length ≤ 900) : ((cs.map chr1).map (·.length)).sum + (cs.map chr1).length * (Str.ofString "").length ≤ 16777216 := by
  have e : (Str.ofString "").length = 0 := by decide +kernel
  have e2 : ∀ l : List Nat, ((l.map chr1).map (·.length)).sum = l.length := by
    intro l
    induction l with
    | nil => rfl
    | cons a l ih => simp only [List.map_cons, List.sum_cons, List.length_cons, ih]; show 1 + _ = _; omega
  rw [e2, e]; omega
end Mine

namespace Mine

/-- what is known of the things that _law_grown handed back -/
structure GrownIs (ns : List Int) (q : Int) (news : List (Addr × Obj)) (aL aT : Addr) (sv : Value) (lits : Array Value) (nL : Nat) (olds : List (Addr × Obj)) : Prop where
  line : IntsAre lits.toList (zs (lineOf ns q))
  told : ∃ tits nT, (aT, W.listOf tits nT) ∈ olds ∧ ToldAll olds tits.toList (growAll ns none).2.1
  state : SvIs olds sv (endOf ns q)
  ne : ∀ p ∈ (aL, W.listOf lits nL) :: olds, ∀ r ∈ news, p.1 ≠ r.1

section
variable {w : World} {A : Around} {b0 h₀ : Heap} {outer : List Env} {s : Shared} {p : Program} {loose : List Str} {mean : ExcName → Option Value} {mg mb : Str → Option Value} {L : Addr} {m : Str → Option Value} {news : List (Addr × Obj)} {env : Env} {E : Value → Shared → Prop} {Q : Value → Shared → Prop}
theorem use_grown (X : (hd.heap_39 w.params).In b0) (T : Top p loose mean mg mb b0) (B : Below A b0 outer h₀) (F : Fr h₀ L s.heap m) (N : News h₀ L s.heap news) (hD : A.depth ≤ 799) (hh : A.handled = none)
    {l : Addr} {its : Array Value} {ns : List Int} {q : Int} {t : Tok} (hl : s.heap.IsList l its) (hI : IntsAre its.toList ns) (hlen : ns.length ≤ 60)
    (h : ∀ D aL aT sv lits nL olds h' tk, Fr h₀ L h' m → News h₀ L h' ((D, { cls := .type "tuple", data := .seq #[.ref aL, .ref aT, sv] }) :: (aL, W.listOf lits nL) :: (news ++ olds)) → GrownIs ns q news aL aT sv lits nL olds → Q (.ref D) { s with heap := h', toks := tk })
    (hf : env.frame = some L) (hke : env.scope.kind = .function) :
    wpAny (model PySem.Challenge.rw_nq0018_01.row.prog w) (A.deeper env) (call (.ref 98) [.ref l, .int q t]) Q E s := by
  refine use_pure (P := GrownRet ns q s) B F N hf hke (fun B' => grown_spec X T B' (by rw [depth_deeper]; omega) hh hl hI hlen) fun v h' tk hv F' N' k => ?_
  obtain ⟨D, aL, aT, sv, lits, nL, tits, nT, olds, rfl, hN, hLi, hTm, hT, hS⟩ := hv
  refine h D aL aT sv lits nL olds h' tk F' (fun r hr => ?_) ⟨hLi, ⟨tits, nT, hTm, hT⟩, hS, fun p hp r hr e => ?_⟩
  · have new : ∀ p ∈ (D, ({ cls := .type "tuple", data := .seq #[.ref aL, .ref aT, sv] } : Obj)) :: (aL, W.listOf lits nL) :: olds, h'.get? p.1 = some p.2 ∧ p.1 ≠ L ∧ h₀.get? p.1 = none := fun p hp => ⟨(hN p hp).1, fresh_ne F (hN p hp).2, fresh_old F (hN p hp).2⟩
    rcases List.mem_cons.mp hr with rfl | hr
    · exact new _ (.head _)
    · rcases List.mem_cons.mp hr with rfl | hr
      · exact new _ (.tail _ (.head _))
      · rcases List.mem_append.mp hr with hr | hr
        · exact N' r hr
        · exact new r (.tail _ (.tail _ hr))
  · have h1 := (hN p (.tail _ hp)).2
    rw [e, (N r hr).1] at h1
    cases h1
end

theorem elt_chr {prog : Program} {w : World} {A : Around} {cenv : Env} {E : Value → Shared → Prop} {s : Shared} {K : Frag} {mg mb m : Str → Option Value} {x : Str} {p1 p2 p3 : Pos} {c : Nat} {t : Tok} {p : Program} {loose : List Str}
    (hk : cenv.scope.kind = .function) (hfn : cenv.kindOf (Str.ofString "chr") = some .globalImplicit) (hx : cenv.kindOf x = some .local) (hg : cenv.globals = mainGlobals) (hb9 : cenv.builtins = builtinsNs)
    (X : K.In s.heap) (T : TopRead p loose mg mb s.heap) (e : nsIn K mainGlobals (Str.ofString "chr") = some none) (hn : s.heap.Ns cenv.locals m) (hv : m x = some (.int (c : Int) t)) (hc : c < 1114112)
    (hd2 : (x == ("__debug__" : Str)) = false) :
    wpAny (model prog w) A (eval (.Call (.Name (Str.ofString "chr") p1) [.Name x p2] [] p3) cenv) (fun y s' => (∃ t', y = .str (chr1 c) t') ∧ Keeps s s') E s := by
  refine Call_ (name_bi X T e boot_chr (by decide) hk hfn hg hb9 (by decide) _ _ _ _ (fun _ _ e => e) ?_)
  refine PyProof.Rows.callWith_builtin1 ?_
  refine spliced_more (wpAny_Name (wpAny_loadName_local hk hx hn hv ?_) hd2)
  refine spliced_none ?_
  refine chr_of_range (by omega) (by omega) ?_
  exact ⟨⟨_, by rw [Int.toNat_natCast]; rfl⟩, s.heap, _, rfl, fun _ _ e => e⟩

def ChrAs (v y : Value) : Prop := ∀ (c : Nat) t, v = .int (c : Int) t → ∃ t', y = .str (chr1 c) t'
theorem chr_strs : ∀ {vs ys : List Value} {cs : List Nat}, Paired ChrAs vs ys → IntsAre vs (zs cs) → StrsAre ys (cs.map chr1)
  | _, _, [], .nil, _ => .nil
  | _, _, [], .cons _ _, h => by cases h
  | _, _, c :: cs, .nil, h => by cases h
  | _, _, c :: cs, .cons a r, h => by
    cases h with
    | cons _ t r' =>
      obtain ⟨t', rfl⟩ := a c t rfl
      exact .cons _ t' (chr_strs r r')

/-- what stands behind the source of the comprehension of chr -/
structure ChrAt (A : Around) (b0 : Heap) (outer : List Env) (env : Env) (Q : Value → Shared → Prop) (xv : Value) (s₁ : Shared) : Prop where
  out : ∃ h₀ L m news l its cs, xv = .ref l ∧ Below A b0 outer h₀ ∧ Fr h₀ L s₁.heap m ∧ News h₀ L s₁.heap news ∧ env.frame = some L ∧ s₁.heap.IsList l its ∧ its.size ≤ sizeLine ∧ IntsAre its.toList (zs cs) ∧ (∀ c ∈ cs, c < 1114112) ∧
    (∀ D ys n h' tk, Fr h₀ L h' m → News h₀ L h' ((D, W.listOf ys n) :: news) → AllNe D news → StrsAre ys.toList (cs.map chr1) → Q (.ref D) { s₁ with heap := h', toks := tk })

theorem comp_chr {prog : Program} {w : World} {A : Around} {b0 : Heap} {outer : List Env} {s : Shared} {p : Program} {loose : List Str} {mean : ExcName → Option Value} {mg mb : Str → Option Value} {K : Frag} {env : Env} {E : Value → Shared → Prop} {Q : Value → Shared → Prop}
    {x : Str} {p1 p2 p3 px pos : Pos} {iter : Expr} {scope : Scope}
    (X : K.In b0) (T : Top p loose mean mg mb b0) (hh : A.handled = none) (hke : env.scope.kind = .function) (hge : env.globals = mainGlobals) (hbe : env.builtins = builtinsNs)
    (hclos : closureFor scope env = pure []) (hcell : ∀ y ∈ scope.names, y.2 ≠ .cell) (hkind : scope.kind = .function)
    (hnames : ∀ y ∈ scope.names, y.2 = .local → scope.names.lookup y.1 = some .local) (hx : scope.names.lookup x = some .local)
    (hfn : ∀ C, (compEnvC scope [] C env).kindOf (Str.ofString "chr") = some .globalImplicit) (hxk : ∀ C, (compEnvC scope [] C env).kindOf x = some .local)
    (e : nsIn K mainGlobals (Str.ofString "chr") = some none)
    (h : wpAny (model prog w) (A.deeper env) (eval iter env) (fun xv s₁ => ChrAt A b0 outer env Q xv s₁) E s)
    (hs : ∀ x, foldedSetIterable iter env x = pure x) (hd2 : (x == ("__debug__" : Str)) = false) :
    wpAny (model prog w) (A.deeper env) (eval (.ListComp (.Call (.Name (Str.ofString "chr") p1) [.Name x p2] [] p3) [⟨.Name x px, iter, [], 0⟩] scope pos) env) Q E s := by
  refine wpAny_ListComp_free (fun _ => true) ChrAs hclos hcell hkind hnames hx (wpAny_mono h (fun xv s₁ h₁ => ?_) fun _ _ y => y) hs
  obtain ⟨h₀, L, m, news, l, its, cs, rfl, B, F, N, hf, hl, hz, hI, hc, hQ⟩ := h₁.out
  have hne : l ≠ s₁.heap.objs.size := by
    obtain ⟨o, ho, _⟩ := hl
    exact Nat.ne_of_lt (Heap.lt_size ho)
  refine wpAny_pyIter_list hl ?_
  have old : ∀ b o, s₁.heap.get? b = some o → (s₁.heap.push { cls := .type "list_iterator", data := .fields #[.ref l, .int 0 0] }).get? b = some o := fun b o e => Heap.get?_push_of_some _ e
  have B₁ := pushX B F hf hke
  refine ⟨s₁.heap.objs.size, _, _, its.size, _, _, rfl, Walks.list (A := A.deeper env) hh s₁.heap.objs.size l hne its, hz, ⟨⟨_, Heap.get?_push_size _ rfl, rfl, rfl⟩, hl.at fun o e => old _ _ e⟩, ?_, ⟨?_, ?_⟩, ?_⟩
  · intro b hb
    simp only [List.mem_cons, List.not_mem_nil, or_false] at hb
    rw [Heap.size_push]
    rcases hb with rfl | rfl
    · exact Nat.lt_succ_self _
    · obtain ⟨o, ho, _⟩ := hl
      exact Nat.lt_succ_of_lt (Heap.lt_size ho)
  · intro C i v s₃ m₃ E' _ _ _ _ _ _
    exact wpAny_tests_nil ⟨rfl, s₃.heap, s₃.toks, rfl, fun _ _ e => e⟩
  · intro C i v s₃ m₃ E' _ hv _ hn hm hk _
    have k3 : ∀ b o, s₁.heap.get? b = some o → s₃.heap.get? b = some o := fun b o e' => hk b o (fun hb => by
      have := List.mem_singleton.mp hb
      exact absurd (Heap.lt_size e') (this ▸ Nat.lt_irrefl _)) (old b o e')
    have B₃ : Below (A.deeper env) b0 (env :: outer) s₃.heap := ⟨B₁.stack, fun b o e' => k3 b o (B₁.stays b o e'), B₁.frames.of_keeps fun b o e' _ => ⟨o, k3 b o e', rfl⟩⟩
    obtain ⟨z, t, hz', rfl⟩ := ints_at hI i v (by rw [Array.getElem?_toList]; exact hv)
    have hz2 : ∃ k : Nat, cs[i]? = some k ∧ z = (k : Int) := by
      simp only [zs, List.getElem?_map] at hz'
      cases q : cs[i]? with
      | none => rw [q] at hz'; cases hz'
      | some k => rw [q] at hz'; exact ⟨k, rfl, by cases hz'; rfl⟩
    obtain ⟨k, hk', rfl⟩ := hz2
    refine wpAny_mono (elt_chr (K := K) (mg := mg) (mb := mb) (by show (relabel scope env).kind = _; exact hkind) (hfn C) (hxk C) hge hbe (X.keeps B₃.stays) (topRead_of (T.keeps B₃.stays)) e hn hm (hc k (List.mem_of_getElem? hk')) hd2) (fun y s' hy => ?_) fun _ _ y => y
    obtain ⟨⟨t', rfl⟩, kp⟩ := hy
    refine ⟨fun c t₂ e₂ => ⟨t', ?_⟩, kp⟩
    injection e₂ with e₂ _
    have : k = c := by omega
    rw [this]
  · intro D h' tk ys vs hD hlD hpl hlen hP hF hk
    have hvs : vs = its.toList := list_of_idx hlen hP
    have hfil : vs.filter (fun _ => true) = vs := List.filter_eq_self.mpr fun _ _ => rfl
    rw [hfil, hvs] at hF
    have k' : ∀ b o, s₁.heap.get? b = some o → h'.get? b = some o := fun b o e' => hk b o (fun hb => by
      have := List.mem_singleton.mp hb
      exact absurd (Heap.lt_size e') (this ▸ Nat.lt_irrefl _)) (old b o e')
    have hDn : s₁.heap.get? D = none := by
      cases q : s₁.heap.get? D with
      | none => rfl
      | some o => have := old D o q; rw [hD] at this; cases this
    obtain ⟨n, hn⟩ := hpl
    refine hQ D ys n h' tk (Fr.keepsTo F k') (fun q hq => ?_) (allNe_of fun q hq e' => ?_) (chr_strs hF hI)
    · rcases List.mem_cons.mp hq with rfl | hq
      · exact ⟨hn, fresh_ne F hDn, fresh_old F hDn⟩
      · exact News.keepsTo N k' q hq
    · have := (N q hq).1
      rw [e', hDn] at this; cases this
end Mine

namespace Mine

theorem sgAll_of {tx : Bool} : ∀ {vs : List Value} {cs : List Nat}, vs.length = cs.length → (∀ (j : Nat) v, vs[j]? = some v → ∃ c, cs[j]? = some c ∧ Sg tx c v) → SgAll tx vs cs
  | [], [], _, _ => .nil
  | [], _ :: _, e, _ => by simp at e
  | _ :: _, [], e, _ => by simp at e
  | v :: vs, c :: cs, e, h => by
    obtain ⟨c', h1, h2⟩ := h 0 v (by simp)
    simp at h1
    subst h1
    exact .cons h2 (sgAll_of (by simpa using e) fun j v hv => by
      have := h (j + 1) v (by simpa using hv)
      simpa using this)
theorem items_sg {x : Str} {acc : Array Value} {cs : List Nat} (hx : x.cps.toList = cs) (h : ItemsOf (SignAt x) acc x.cps.size) : SgAll true acc.toList cs := by
  refine sgAll_of ?_ fun j v hv => ?_
  · rw [← hx, Array.length_toList, Array.length_toList, h.1]
  · obtain ⟨c, u, hc, rfl⟩ := h.2 j v (by rw [← Array.getElem?_toList]; exact hv)
    exact ⟨c, by rw [← hx, Array.getElem?_toList]; exact hc, u, rfl⟩
theorem sgData_ints (cs : List Nat) : sgData false cs = (zs cs).map PyData.int := by
  simp only [sgData, zs, List.map_map]
  rfl
theorem SvIs.reads {olds : List (Addr × Obj)} {sv : Value} {st : Mine.St} {h : Heap} (x : SvIs olds sv st) (k : ∀ p ∈ olds, h.get? p.1 = some p.2) : ∃ as, Reads h sv (dataOf st) as := by
  match st, x with
  | none, x => cases x; exact ⟨_, .none⟩
  | some (fr, e, b), ⟨tS, aF, fits, n, hv, m1, m2, hi⟩ =>
    subst hv
    exact ⟨_, .tuple (k _ m1) rfl rfl (.cons (reads_of_ints (vs := fits.toList) ⟨_, k _ m2, rfl, _, rfl⟩ hi) (.cons (.bool _) (.cons (.bool _) .nil)))⟩
theorem ns_slots {h h' : Heap} {a : Addr} {m : Str → Option Value} (ns : h.Ns a m) (k : ∀ o, h.get? a = some o → (∀ vs, o.data ≠ .fields vs) → ∃ sl, h'.get? a = some { o with slots := sl }) : h'.Ns a m := by
  obtain ⟨o, es, ep, e, d, r⟩ := ns
  obtain ⟨sl, e'⟩ := k o e fun vs q => by rw [d] at q; cases q
  exact ⟨{ o with slots := sl }, es, ep, e', d, r⟩

theorem law_end {w : World} {A : Around} {g h : Heap} {s : Shared} {tk : Nat} {p : Program} {loose : List Str} {mean : ExcName → Option Value} {mg mb : Str → Option Value} {env : Env} {L aL aT : Addr} {sv : Value} {x : Str} {t : Tok}
    {lits : Array Value} {nL : Nat} {olds news : List (Addr × Obj)} {ns : List Int} {q : Int} {m : Str → Option Value} {p1 p2 p3 p4 p5 p6 p7 p8 p9 p10 p11 p12 p13 p14 p15 p16 p17 p18 p19 pos : Pos} {k1 k2 : Nat} {Q : Flow → Shared → Prop} {E : Value → Shared → Prop}
    (X : (hd.heap_39 w.params).In g) (T : Top p loose mean mg mb g) (B : Below A g [] g) (hD : A.depth ≤ 600) (hu : A.units ≤ 800) (hh : A.handled = none) (C0 : CodeHd g 104 100) (g100 : g.get? 100 = none)
    (F : Fr g L h m) (h100 : h.get? 100 = some (tabObj #[])) (L100 : @Ne Nat L 100)
    (hN : ∀ p ∈ (aL, W.listOf lits nL) :: olds, h.get? p.1 = some p.2 ∧ p.1 ≠ L ∧ p.1 ≠ 100) (G : GrownIs ns q news aL aT sv lits nL olds) (hlen : ns.length ≤ 60) (hx : x.cps.toList = lineOf ns q)
    (hf : env.frame = some L) (hke : env.scope.kind = .function) (hlo : env.locals = L)
    (kl : env.kindOf (Str.ofString "line") = some .local) (kt : env.kindOf (Str.ofString "told") = some .local) (ks : env.kindOf (Str.ofString "state") = some .local) (kx : env.kindOf (Str.ofString "text") = some .local)
    (m1 : m (Str.ofString "line") = some (.ref aL)) (m2 : m (Str.ofString "told") = some (.ref aT)) (m3 : m (Str.ofString "state") = some sv) (m4 : m (Str.ofString "text") = some (.str x t))
    (nR : ∀ pos, ∀ (A' : Around) (Q' : Value → Shared → Prop) (E' : Value → Shared → Prop) (s' : Shared), (∀ b o, g.get? b = some o → s'.heap.get? b = some o) → Q' (.ref 112) s' → wpAny (model PySem.Challenge.rw_nq0018_01.row.prog w) A' (eval (.Name (Str.ofString "_law_read") pos) env) Q' E' s')
    (nL' : ∀ pos, ∀ (A' : Around) (Q' : Value → Shared → Prop) (E' : Value → Shared → Prop) (s' : Shared), (∀ b o, g.get? b = some o → s'.heap.get? b = some o) → Q' (.type "list") s' → wpAny (model PySem.Challenge.rw_nq0018_01.row.prog w) A' (eval (.Name (Str.ofString "list") pos) env) Q' E' s')
    (hkp : keepIn (hd.heap_39 w.params) (.ref 112) = true)
    (hQ : ∀ h' tk', Fr g L h' m → (∃ ps, h'.get? 100 = some (tabObj ps)) → Q (.ret (.bool true)) { s with heap := h', toks := tk' }) :
    wpAny (model PySem.Challenge.rw_nq0018_01.row.prog w) (A.deeper env)
      (exec (.Return (some (.BoolOp .And [
        .Compare (.Call (.Name (Str.ofString "_law_read") p1) [.Name (Str.ofString "line") p2] [] p3) [.Eq] [.Tuple [.Name (Str.ofString "told") p4, .Name (Str.ofString "line") p5, .Name (Str.ofString "state") p6] k1 p7] p8,
        .Compare (.Call (.Name (Str.ofString "_law_read") p9) [.Name (Str.ofString "text") p10] [] p11) [.Eq] [.Tuple [.Name (Str.ofString "told") p12, .Call (.Name (Str.ofString "list") p13) [.Name (Str.ofString "text") p14] [] p15, .Name (Str.ofString "state") p16] k2 p17] p18] p19)) pos) env)
      Q E { s with heap := h, toks := tk } := by
  subst hlo
  have hh' : (A.deeper env).handled = none := hh
  have hu' : (A.deeper env).units ≤ 900 := by rw [units_deeper]; omega
  have hD' : (A.deeper env).depth ≤ 700 := by rw [depth_deeper]; omega
  have frE : framesOf [env] = [env.locals] := by simp [framesOf, hf]
  have f100 : ∀ e ∈ [env], e.frame ≠ some 100 := fun e he => by
    cases List.mem_singleton.mp he
    rw [hf]
    intro q
    injection q with q
    exact L100 q
  obtain ⟨tits, nT, hTm, hT⟩ := G.told
  have hlt := line_lt ns q
  have hll := line_len ns q hlen
  have gL : ∀ b o, g.get? b = some o → b ≠ 100 ∧ b ∉ framesOf [env] := fun b o e => by
    refine ⟨fun q => (by rw [q, g100] at e; cases e), ?_⟩
    rw [frE]
    intro q
    exact Nat.ne_of_lt (Nat.lt_of_lt_of_le (Heap.lt_size e) F.above) (List.mem_singleton.mp q)
  have B₁ := pushX B F hf hke
  -- the reading of the line
  refine wpAny_Return_some (BoolOp_and (wpAny_Compare1 (Call_ (nR _ _ _ _ _ F.keep ?_))))
  refine callWith_K (K := hd.heap_39 w.params) X hkp ?_
  refine spliced_more (wpAny_Name (wpAny_loadName_local hke kl F.ns m1 ?_) (by decide))
  refine spliced_none ⟨X.keeps F.keep, ?_⟩
  have hl : h.IsList aL lits := ⟨_, (hN _ (.head _)).1, rfl, _, rfl⟩
  refine wpAny_call (codeAny_mono (read_list (s := { s with heap := h, toks := tk }) (outer := [env]) X T B₁ hD' hu' hh' C0 g100 h100 f100 hl G.line hll (by rw [frE]; exact fun q => (hN _ (.head _)).2.1 (List.mem_singleton.mp q))) fun r s₁ hr => ?_)
  obtain ⟨D, h₁, tk₁, as, c', rfl, rfl, rd, ka, kb, t100, hcode, cfr⟩ := hr
  rw [line_run] at rd
  have ns₁ : h₁.Ns env.locals m := ns_slots F.ns fun o e hn => kb _ o (fun q => L100 q) e hn
  have ob₁ : ∀ p ∈ (aL, W.listOf lits nL) :: olds, h₁.get? p.1 = some p.2 := fun p hp => ka _ _ (hN p hp).2.2 (by rw [frE]; exact fun q => (hN p hp).2.1 (List.mem_singleton.mp q)) (hN p hp).1
  have kg₁ : ∀ b o, g.get? b = some o → h₁.get? b = some o := fun b o e => ka b o (gL b o e).1 (gL b o e).2 (F.keep b o e)
  refine Tuple_ ?_
  refine spliced_more (wpAny_Name (wpAny_loadName_local hke kt ns₁ m2 ?_) (by decide))
  refine spliced_more (wpAny_Name (wpAny_loadName_local hke kl ns₁ m1 ?_) (by decide))
  refine spliced_more (wpAny_Name (wpAny_loadName_local hke ks ns₁ m3 ?_) (by decide))
  refine spliced_none (wpAny_newTuple ?_)
  have up₁ : ∀ o' b o, h₁.get? b = some o → (h₁.push o').get? b = some o := fun o' b o e => Heap.get?_push_of_some _ e
  obtain ⟨a1, r1⟩ := hT.reads (h := h₁.push { cls := .type "tuple", data := .seq [Value.ref aT, Value.ref aL, sv].toArray }) fun p hp => up₁ _ _ _ (ob₁ p (.tail _ hp))
  obtain ⟨a2, r2⟩ := G.state.reads (h := h₁.push { cls := .type "tuple", data := .seq [Value.ref aT, Value.ref aL, sv].toArray }) fun p hp => up₁ _ _ _ (ob₁ p (.tail _ hp))
  have r3 : Reads (h₁.push { cls := .type "tuple", data := .seq [Value.ref aT, Value.ref aL, sv].toArray }) (.ref aL) (.list (sgData false (lineOf ns q))) [aL] := by
    rw [sgData_ints]
    exact reads_of_ints (vs := lits.toList) ⟨_, up₁ _ _ _ (ob₁ _ (.head _)), rfl, _, rfl⟩ G.line
  have lay₁ := all_nice (tx := false) (ns := ns) (st := endOf ns q) hlt
  refine PySem.SeqAt.compareEq_reads (Reads.keeps (up₁ _) rd) (Reads.tuple (Heap.get?_push_size _ rfl) rfl rfl (.cons (Reads.list (up₁ _ _ _ (ob₁ _ (.tail _ hTm))) rfl rfl r1) (.cons r3 (.cons r2 .nil)))) lay₁.1 lay₁.1 (by unfold cLine; have := lay₁.2; omega) ?_
  rw [PySem.SeqAt.eqv_refl _ lay₁.1]
  refine wpAny_truthy_bool ?_
  rw [if_pos rfl]
  -- the reading of the text
  have ns₂ : (h₁.push { cls := .type "tuple", data := .seq [Value.ref aT, Value.ref aL, sv].toArray }).Ns env.locals m := ns_keep ns₁ fun o e => up₁ _ _ _ e
  have F₂ : Fr g env.locals (h₁.push { cls := .type "tuple", data := .seq [Value.ref aT, Value.ref aL, sv].toArray }) m := ⟨ns₂, fun b o e => up₁ _ _ _ (kg₁ b o e), F.above⟩
  have B₂ := pushX B F₂ hf hke
  have hcode₂ : ∃ oc vs t, (h₁.push { cls := .type "tuple", data := .seq [Value.ref aT, Value.ref aL, sv].toArray }).get? c' = some oc ∧ oc.data = .fields vs ∧ vs[1]? = some (.str stepQ t) := let ⟨oc, vs, t, e, r⟩ := hcode; ⟨oc, vs, t, up₁ _ _ _ e, r⟩
  have c100 : @Ne Nat c' 100 := fun e => by
    obtain ⟨oc, vs, t, e1, e2, e3⟩ := hcode
    rw [show c' = 100 from e, t100] at e1
    cases e1
    cases e2
    simp [rawInt] at e3
  refine BoolOp_one (wpAny_Compare1 (Call_ (nR _ _ _ _ _ F₂.keep ?_)))
  refine callWith_K (K := hd.heap_39 w.params) X hkp ?_
  refine spliced_more (wpAny_Name (wpAny_loadName_local hke kx ns₂ m4 ?_) (by decide))
  refine spliced_none ⟨X.keeps F₂.keep, ?_⟩
  refine wpAny_call (codeAny_mono (read_text (s := { s with heap := h₁.push { cls := .type "tuple", data := .seq [Value.ref aT, Value.ref aL, sv].toArray }, toks := tk₁ }) (outer := [env]) X T B₂ hD' hu' hh' C0 g100 (up₁ _ _ _ t100) hcode₂ cfr c100 f100 hx hll) fun r s₃ hr => ?_)
  obtain ⟨D₂, h₃, tk₃, as₃, c'', rfl, rfl, rd₃, ka₃, kb₃, t100₃, hcode₃, cfr₃⟩ := hr
  rw [line_run] at rd₃
  have ns₃ : h₃.Ns env.locals m := ns_slots ns₂ fun o e hn => kb₃ _ o (fun q => L100 q) e hn
  have ob₃ : ∀ p ∈ (aL, W.listOf lits nL) :: olds, h₃.get? p.1 = some p.2 := fun p hp => ka₃ _ _ (hN p hp).2.2 (by rw [frE]; exact fun q => (hN p hp).2.1 (List.mem_singleton.mp q)) (up₁ _ _ _ (ob₁ p hp))
  have kg₃ : ∀ b o, g.get? b = some o → h₃.get? b = some o := fun b o e => ka₃ b o (gL b o e).1 (gL b o e).2 (F₂.keep b o e)
  refine Tuple_ ?_
  refine spliced_more (wpAny_Name (wpAny_loadName_local hke kt ns₃ m2 ?_) (by decide))
  refine spliced_more (Call_ (nL' _ _ _ _ _ kg₃ ?_))
  refine PyProof.Rows.callWith_type1 (spliced_more (wpAny_Name (wpAny_loadName_local hke kx ns₃ m4 ?_) (by decide)))
  refine spliced_none ?_
  refine call_list_str hh' x t (fun h₄ tk₄ acc n₄ k₄ o₄ it₄ => ?_) (by have := congrArg List.length hx; rw [Array.length_toList] at this; rw [sizeLine_eq]; omega)
  have ns₄ : h₄.Ns env.locals m := ns_keep ns₃ fun o e => k₄ _ _ e
  refine spliced_more (wpAny_Name (wpAny_loadName_local hke ks ns₄ m3 ?_) (by decide))
  refine spliced_none (wpAny_newTuple ?_)
  have up₄ : ∀ o' b o, h₄.get? b = some o → (h₄.push o').get? b = some o := fun o' b o e => Heap.get?_push_of_some _ e
  obtain ⟨b1, s1⟩ := hT.reads (h := h₄) fun p hp => k₄ _ _ (ob₃ p (.tail _ hp))
  obtain ⟨b2, s2⟩ := G.state.reads (h := h₄) fun p hp => k₄ _ _ (ob₃ p (.tail _ hp))
  obtain ⟨b3, s3⟩ := SgAll.reads h₄ (items_sg hx it₄)
  have lay₂ := all_nice (tx := true) (ns := ns) (st := endOf ns q) hlt
  refine PySem.SeqAt.compareEq_reads (Reads.keeps (up₄ _) (Reads.keeps k₄ rd₃)) (Reads.tuple (Heap.get?_push_size _ rfl) rfl rfl (.cons (Reads.list (up₄ _ _ _ (k₄ _ _ (ob₃ _ (.tail _ hTm)))) rfl rfl (ReadsAll.keeps (up₄ _) s1)) (.cons (Reads.list (up₄ _ _ _ o₄) rfl rfl (ReadsAll.keeps (up₄ _) s3)) (.cons (Reads.keeps (up₄ _) s2) .nil)))) lay₂.1 lay₂.1 (by unfold cLine; have := lay₂.2; omega) ?_
  rw [PySem.SeqAt.eqv_refl _ lay₂.1]
  exact hQ _ _ ⟨ns_keep ns₄ fun o e => up₄ _ _ _ e, fun b o e => up₄ _ _ _ (k₄ _ _ (kg₃ b o e)), F.above⟩ ⟨_, up₄ _ _ _ (k₄ _ _ t100₃)⟩
end Mine

namespace Mine

theorem chrAt_grown {A : Around} {b0 h₀ : Heap} {outer : List Env} {s₁ : Shared} {L aL aT : Addr} {m : Str → Option Value} {news news9 olds : List (Addr × Obj)} {env : Env} {lits : Array Value} {nL : Nat} {ns : List Int} {q : Int} {sv : Value} {Q : Value → Shared → Prop}
    (B : Below A b0 outer h₀) (F : Fr h₀ L s₁.heap m) (N : News h₀ L s₁.heap news) (hf : env.frame = some L) (hl : s₁.heap.IsList aL lits) (G : GrownIs ns q news9 aL aT sv lits nL olds) (hlen : ns.length ≤ 60)
    (h : ∀ D ys n h' tk, Fr h₀ L h' m → News h₀ L h' ((D, W.listOf ys n) :: news) → AllNe D news → StrsAre ys.toList ((lineOf ns q).map chr1) → Q (.ref D) { s₁ with heap := h', toks := tk }) :
    ChrAt A b0 outer env Q (.ref aL) s₁ := by
  have h1 := ints_len G.line
  have h2 := line_len ns q hlen
  simp only [zs, List.length_map, Array.length_toList] at h1
  exact ⟨h₀, L, m, news, aL, lits, lineOf ns q, rfl, B, F, N, hf, hl, by rw [sizeLine_eq]; omega, G.line, line_lt ns q, h⟩

local macro_rules | `(tactic| walk_at "call ref") => `(tactic| (k_here; k_dflt ((with_reducible show wpAny _ _ (call (Value.ref 98) _) _ _ _); refine' use_grown ?kX ?kT ?kB ?kF ?kN ?kD ?kh ?kl ?ki ?kz ?_ ?kf ?kk; (case kf => exact rfl); (case kk => exact rfl); (case kB => k_asm); (case kX => k_asm); (case kT => k_asm); (case kF => k_asm); (case kN => k_asm); (case kD => decide +kernel); (case kh => exact rfl); (case kl => kmk_list); (case ki => assumption); (case kz => (simp only [List.length_append, List.length_cons, List.length_nil, List.length_take]; omega)); k_whole; intro D' aL' aT' sv' lits' nL' olds' h' tk' F' N' G'; (simp only [List.cons_append, List.nil_append] at N'); (try k_sweep))))
local macro_rules | `(tactic| walk_at "eval ListComp") => `(tactic| (k_here; k_dflt (refine' comp_chr ?kX ?kT ?hh ?c1 ?c2 ?cb ?c3 ?c4 ?c5 ?c6 ?c7 ?c8 ?c9 ?d1 ?_ ?d3 ?d5; (case kX => k_asm); (case d1 => k_is); (case kT => k_asm); (case hh => exact rfl); (case c1 => exact rfl); (case c2 => exact rfl); (case cb => exact rfl); (case c3 => exact rfl); (case c4 => decide); (case c5 => exact rfl); (case c6 => decide); (case c7 => exact rfl); (case c8 => intro C; exact rfl); (case c9 => intro C; exact rfl); (case d3 => intro x; exact rfl); (case d5 => decide))))
local macro_rules | `(tactic| walk_at "ChrAt") => `(tactic| (k_here; k_dflt (refine' chrAt_grown ?kB ?kF ?kN ?kf ?kl ?kG ?kz ?_; (case kf => exact rfl); (case kB => k_asm); (case kF => k_asm); (case kN => k_asm); (case kl => kmk_list); (case kG => assumption); (case kz => (simp only [List.length_append, List.length_cons, List.length_nil, List.length_take]; omega)); k_whole; intro D' ys' n' h' tk' F' N' l1 hS'; (try simp only [AllNe, and_true] at l1); (try k_sweep))))
local macro_rules | `(tactic| walk_at "call builtin:str.join") => `(tactic| (k_here; k_dflt (refine' join_list ?kl ?ki ?kz ?_; (case ki => assumption); (case kl => kmk_list); (case kz => exact chr_fit (line_len _ _ (by (simp only [List.length_append, List.length_cons, List.length_nil, List.length_take]; omega)))); k_whole; intro t' k')))
local macro_rules | `(tactic| walk_at "exec Return some") => `(tactic| (k_here; k_dflt (refine' stop_here ?_; k_whole)))
theorem law_objs {ns : List Int} {q : Int} {g h : Heap} {L aL aT : Addr} {sv : Value} {lits : Array Value} {nL : Nat} {news news9 olds : List (Addr × Obj)} {o9 : Obj} (N : News g L h news) (G : GrownIs ns q news9 aL aT sv lits nL olds) (k : ∀ p ∈ (aL, W.listOf lits nL) :: olds, p ∈ news) (h9 : (100, o9) ∈ news9) :
    ∀ p ∈ (aL, W.listOf lits nL) :: olds, h.get? p.1 = some p.2 ∧ p.1 ≠ L ∧ p.1 ≠ 100 := fun p hp => ⟨(N p (k p hp)).1, (N p (k p hp)).2.1, G.ne p hp _ h9⟩
theorem law_holds : PySem.Challenge.rw_nq0018_01.Holds := hd (by
  k_go0
  all_goals (try k_fold)
  k_steps
  refine ⟨?_⟩
  refine' law_end ?zzX ?zzT ?zzB ?zzhD ?zzhu ?zzhh ?zzC ?zzg1 ?zzF ?zzt1 ?zzL1 ?zzN ?zzG ?zzlen ?zzhx ?zzf ?zzk ?zzlo ?zze1 ?zze2 ?zze3 ?zze4 ?zzm1 ?zzm2 ?zzm3 ?zzm4 ?zznR ?zznL ?zzkp ?zzQ
  case zzF => assumption
  case zzX => k_asm
  case zzT => k_asm
  case zzB => k_asm
  case zzhD => decide +kernel
  case zzhu => decide +kernel
  case zzhh => exact rfl
  case zzC => assumption
  case zzt1 => exact News.get (by assumption) (show (100, tabObj #[]) ∈ _ from by k_mem)
  case zzg1 => exact News.fresh (by assumption) (show (100, tabObj #[]) ∈ _ from by k_mem)
  case zzL1 => exact Ne.symm (‹News _ _ _ _› (100, tabObj #[]) (by k_mem)).2.1
  case zzm1 => exact rfl
  case zzm2 => exact rfl
  case zzm3 => exact rfl
  case zzm4 => exact rfl
  case zzG => assumption
  case zzlen => (simp only [List.length_append, List.length_cons, List.length_nil, List.length_take]; omega)
  case zzhx => exact join_chr _
  case zzN => exact law_objs (by assumption) (by assumption) (List.forall_mem_cons.mpr ⟨by k_mem, fun p hp => by repeat (first | exact hp | refine List.Mem.tail _ ?_)⟩) (show (100, tabObj #[]) ∈ _ from by k_mem)
  case zzf => exact rfl
  case zzk => exact rfl
  case zzlo => exact rfl
  case zze1 => exact rfl
  case zze2 => exact rfl
  case zze3 => exact rfl
  case zze4 => exact rfl
  case zznR => (intro pos; refine' name_fn ?x0 (Top.g ?x9) ?x1 ?x2 ?x3 ?x4 ?x5; (case x0 => k_asm); (case x9 => k_asm); (case x1 => k_is); (case x2 => exact rfl); (case x3 => exact rfl); (case x4 => exact rfl); (case x5 => decide))
  case zznL => (intro pos; refine' name_bi ?x0 (topRead_of ?x9) ?x1 PyProof.Rows.boot_list ?x6 ?x2 ?x3 ?x4 ?x7 ?x5; (case x0 => k_asm); (case x9 => k_asm); (case x1 => k_is); (case x2 => exact rfl); (case x3 => exact rfl); (case x4 => exact rfl); (case x5 => decide); (case x6 => decide); (case x7 => exact rfl))
  case zzkp => k_is
  case zzQ =>
    intro h9 tk9 F9 t9
    show GoodW _ _ _ _ _ (.ok (.ret (.bool true))) _ ∧ GrownAll _ _
    refine ⟨goodW_bool F9 (by assumption) (raisesW_false ?_) ?_, t9, trivial⟩
    · wrow_none_raised
    · wrow_post)
end Mine
theorem PySem.Challenge.cw_nq0018_01_holds : PySem.Challenge.rw_nq0018_01.Holds := by
  exact Mine.law_holds
