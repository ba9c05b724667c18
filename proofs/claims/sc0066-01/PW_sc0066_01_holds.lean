import PyProof.Rows.All
import Wide.All
import OpenK.AllK
import Wide.FinOn
import PySem.Challenge.RW_sc0066_01
set_option Elab.async false
set_option compiler.extract_closed false

local macro_rules | `(tactic| omega) => `(tactic| first | ((fail_if_success (fail_if_success omega (config := {}))); first | (with_reducible assumption) | safely lia) | omega (config := {}))
section
open PySem PySem.W PyProof.Rows
namespace Mine
section
local macro_rules | `(tactic| refine $f:ident $xs*) => do
  if xs.size < 20 then Lean.Macro.throwUnsupported
  let ys ← xs.mapM fun x => do
    let n := (x.raw.getArg 1).getId.eraseMacroScopes.toString
    if x.raw.isOfKind ``Lean.Parser.Term.syntheticHole && n == "hl" then return ⟨(← `(And.left p)).raw⟩
    if x.raw.isOfKind ``Lean.Parser.Term.syntheticHole && n == "hc" then return ⟨(← `(And.right p)).raw⟩
    return x
  `(tactic| refine' (fun p => $f $ys*) ?hc)
set_option maxRecDepth 100000 in
set_option maxHeartbeats 8000000 in
open_top hd for PySem.Challenge.rw_sc0066_01.row
end
abbrev PT {L T H : Prop} (_ : L ∧ T → H) : Prop := T
end Mine

end
section
open PySem PySem.W PyProof.Rows PySem.Calls PySem.Spec
namespace Mine
/-- a name's value over a map of names; a map but for the temporaries -/
abbrev Sv (x : Str) (v : Value) (m : Str → Option Value) : Str → Option Value := fun y => if y = x then some v else m y
abbrev Tv (temps : List Str) (u m : Str → Option Value) : Str → Option Value := fun y => if temps.contains y = true then u y else m y
/-- a goal behind a name, while something is taken apart -/
structure HP {α : Sort u} (G P : α → Prop) : Type where ok : ∀ a, G a → P a
theorem hideP {α : Sort u} {G : α → Prop} (h : ∀ P : α → Prop, HP G P → ∀ a, P a) : ∀ a, G a := h G ⟨fun _ g => g⟩
structure HG (G P : Prop) : Type where ok : G → P
theorem hideO {A G : Prop} (a : A) (h : ∀ P : Prop, HG G P → A → P) : G := h G ⟨fun g => g⟩ a
def chain : List (Str × Value) → Str → Option Value
  | [] => fun _ => none
  | (x, v) :: r => Sv x v (chain r)
theorem chain_eq : ∀ (l : List (Str × Value)), (fun y => l.lookup y) = chain l
  | [] => rfl
  | (x, v) :: r => by
    funext y
    show List.lookup y ((x, v) :: r) = if y = x then some v else chain r y
    rw [← chain_eq r, List.lookup_cons]
    by_cases h : y = x
    · subst h; simp
    · have e : (y == x) = false := beq_eq_false_iff_ne.mpr h
      rw [e, if_neg h]
theorem storeSv {M : Model} {A : Around} {E : Value → Shared → Prop} {s : Shared} {h₀ : Heap} {L a : Addr} {m : Str → Option Value} {cn : Str} {cs : Scope} {ccd : Value} {cl : List (Str × Addr)} {x : Str} {v : Value} {Q : Unit → Shared → Prop} {news : List (Addr × Obj)}
    (F : Fr h₀ L s.heap m) (N : News h₀ L s.heap news)
    (h : ∀ h' tk, Fr h₀ L h' (Sv x v m) → News h₀ L h' news → Q () { heap := h', gens := s.gens, drawn := s.drawn, toks := tk, os := s.os })
    (hk : cs.kind = .function) (hx : (envX cn cs L a ccd cl).kindOf x = some .local) : wpAny M A (storeName (envX cn cs L a ccd cl) x v) Q E s :=
  storeX_L F N (fun h' f n => h h' _ f n) hk hx
section
variable {M : Model} {A : Around} {E : Value → Shared → Prop} {s : Shared} {h₀ : Heap} {L a : Addr} {m : Str → Option Value} {cn : Str} {cs : Scope} {ccd : Value} {cl : List (Str × Addr)} {x : Str} {Q : Unit → Shared → Prop} {news : List (Addr × Obj)}
theorem storeSvI {k : Int} {t : Tok} (F : Fr h₀ L s.heap m) (N : News h₀ L s.heap news)
    (h : ∀ h' tk t, Fr h₀ L h' (Sv x (.int k t) m) → News h₀ L h' news → Q () { heap := h', gens := s.gens, drawn := s.drawn, toks := tk, os := s.os })
    (hk : cs.kind = .function) (hx : (envX cn cs L a ccd cl).kindOf x = some .local) : wpAny M A (storeName (envX cn cs L a ccd cl) x (.int k t)) Q E s :=
  storeSv F N (fun h' tk f n => h h' tk t f n) hk hx
theorem storeSvS {k : Str} {t : Tok} (F : Fr h₀ L s.heap m) (N : News h₀ L s.heap news)
    (h : ∀ h' tk t, Fr h₀ L h' (Sv x (.str k t) m) → News h₀ L h' news → Q () { heap := h', gens := s.gens, drawn := s.drawn, toks := tk, os := s.os })
    (hk : cs.kind = .function) (hx : (envX cn cs L a ccd cl).kindOf x = some .local) : wpAny M A (storeName (envX cn cs L a ccd cl) x (.str k t)) Q E s :=
  storeSv F N (fun h' tk f n => h h' tk t f n) hk hx
theorem storeSvF {k : UInt64} {t : Tok} (F : Fr h₀ L s.heap m) (N : News h₀ L s.heap news)
    (h : ∀ h' tk t, Fr h₀ L h' (Sv x (.float k t) m) → News h₀ L h' news → Q () { heap := h', gens := s.gens, drawn := s.drawn, toks := tk, os := s.os })
    (hk : cs.kind = .function) (hx : (envX cn cs L a ccd cl).kindOf x = some .local) : wpAny M A (storeName (envX cn cs L a ccd cl) x (.float k t)) Q E s :=
  storeSv F N (fun h' tk f n => h h' tk t f n) hk hx
end

abbrev PP : Program := PySem.Challenge.rw_sc0066_01.row.prog
abbrev AA (d u : Nat) : Around := { depth := d, units := u }

theorem lift {α : Type} {M : Model} {A : Around} {t : Sem α} {Q : α → Shared → Prop} {E : Value → Shared → Prop} {s : Shared} {d u : Nat}
    (h : wpAny M (AA d u) t Q E s) (hh : A.handled = none) (hd : A.depth ≤ d) (hu : A.units ≤ u) : wpAny M A t Q E s :=
  fun Γ p hΓ => h Γ p ⟨hΓ.1.trans hh, Nat.le_trans hΓ.2.1 hd, nofun, nofun, Nat.le_trans hΓ.2.2.2.2 hu⟩

/-- a mark that stops the walk -/
def Hold (p : Prop) : Prop := p
theorem hold {p : Prop} (h : Hold p) : p := h
theorem Hold.off {p : Prop} (h : p) : Hold p := h
abbrev Keeps (g h : Heap) : Prop := ∀ b o, g.get? b = some o → h.get? b = some o

def AllNe (d : Addr) : List (Addr × Obj) → Prop
  | [] => True
  | p :: r => @Ne Nat p.1 d ∧ AllNe d r
theorem AllNe.of {d : Addr} : ∀ {l : List (Addr × Obj)}, (∀ p ∈ l, p.1 ≠ d) → AllNe d l
  | [], _ => trivial
  | _ :: _, h => ⟨h _ (.head _), AllNe.of fun q hq => h q (.tail _ hq)⟩

/-- what a call of the text's is promised to do: it keeps the heap and hands back a value that R tells (of the heap ahead and the heap behind) -/
def Ctr (w : World) (d u : Nat) (t : Sem Value) (P : Heap → Prop) (R : Value → Heap → Heap → Prop) : Prop :=
  ∀ (p : Program) (loose : List Str) (mean : ExcName → Option Value) (mg mb : Str → Option Value) (s : Shared) (Q E : Value → Shared → Prop),
    (hd.heap_1 w.params).In s.heap → Top p loose mean mg mb s.heap → P s.heap →
    (∀ v h' tk', Keeps s.heap h' → R v s.heap h' → Q v { s with heap := h', toks := tk' }) → wpAny (model PP w) (AA d u) t Q E s

theorem Fr.kept {g h h' : Heap} {L : Addr} {m : Str → Option Value} (F : Fr g L h m) (k : Keeps h h') : Fr g L h' m :=
  ⟨F.ns.keeps k, fun b o e => k b o (F.keep b o e), F.above⟩
theorem News.kept {g h h' : Heap} {L : Addr} {news : List (Addr × Obj)} (N : News g L h news) (k : Keeps h h') : News g L h' news :=
  fun p hp => ⟨k _ _ (N p hp).1, (N p hp).2⟩

section
variable {w : World} {d u : Nat} {t : Sem Value} {A : Around} {g : Heap} {L : Addr} {m : Str → Option Value} {news : List (Addr × Obj)}
    {p : Program} {loose : List Str} {mean : ExcName → Option Value} {mg mb : Str → Option Value} {s : Shared} {Q E : Value → Shared → Prop}
theorem Ctr.use {P : Heap → Prop} {R : Value → Heap → Heap → Prop} (c : Ctr w d u t P R)
    (F : Fr g L s.heap m) (N : News g L s.heap news) (X : (hd.heap_1 w.params).In g) (T : Top p loose mean mg mb g)
    (hh : A.handled = none) (hd : A.depth ≤ d) (hu : A.units ≤ u) (hP : P s.heap)
    (h : ∀ v h' tk', R v s.heap h' → Fr g L h' m → News g L h' news → Q v { s with heap := h', toks := tk' }) : wpAny (model PP w) A t Q E s :=
  lift (c p loose mean mg mb s Q E (X.keeps F.keep) (T.keeps F.keep) hP fun v h' tk' k r => h v h' tk' r (Fr.kept F k) (News.kept N k)) hh hd hu

/-- a plain value comes back -/
abbrev RInt (i : Int) : Value → Heap → Heap → Prop := fun v _ _ => ∃ t, v = .int i t
abbrev RStr (x : Str) : Value → Heap → Heap → Prop := fun v _ _ => ∃ t, v = .str x t
abbrev RBool (b : Bool) : Value → Heap → Heap → Prop := fun v _ _ => v = .bool b
/-- a new object comes back -/
abbrev RNew (O : Obj → Prop) : Value → Heap → Heap → Prop := fun v g h => ∃ a o, v = .ref a ∧ O o ∧ g.get? a = none ∧ h.get? a = some o
abbrev Any : Heap → Prop := fun _ => True

theorem Ctr.useI {i : Int} {P : Heap → Prop} (c : Ctr w d u t P (RInt i))
    (F : Fr g L s.heap m) (N : News g L s.heap news) (X : (hd.heap_1 w.params).In g) (T : Top p loose mean mg mb g)
    (hh : A.handled = none) (hd : A.depth ≤ d) (hu : A.units ≤ u) (hP : P s.heap)
    (h : ∀ t h' tk', Fr g L h' m → News g L h' news → Q (.int i t) { s with heap := h', toks := tk' }) : wpAny (model PP w) A t Q E s :=
  c.use F N X T hh hd hu hP fun v h' tk' r F' N' => by obtain ⟨t, rfl⟩ := r; exact h t h' tk' F' N'
theorem Ctr.useS {i : Str} {P : Heap → Prop} (c : Ctr w d u t P (RStr i))
    (F : Fr g L s.heap m) (N : News g L s.heap news) (X : (hd.heap_1 w.params).In g) (T : Top p loose mean mg mb g)
    (hh : A.handled = none) (hd : A.depth ≤ d) (hu : A.units ≤ u) (hP : P s.heap)
    (h : ∀ t h' tk', Fr g L h' m → News g L h' news → Q (.str i t) { s with heap := h', toks := tk' }) : wpAny (model PP w) A t Q E s :=
  c.use F N X T hh hd hu hP fun v h' tk' r F' N' => by obtain ⟨t, rfl⟩ := r; exact h t h' tk' F' N'
theorem Ctr.useB {b : Bool} {P : Heap → Prop} (c : Ctr w d u t P (RBool b))
    (F : Fr g L s.heap m) (N : News g L s.heap news) (X : (hd.heap_1 w.params).In g) (T : Top p loose mean mg mb g)
    (hh : A.handled = none) (hd : A.depth ≤ d) (hu : A.units ≤ u) (hP : P s.heap)
    (h : ∀ h' tk', Fr g L h' m → News g L h' news → Q (.bool b) { s with heap := h', toks := tk' }) : wpAny (model PP w) A t Q E s :=
  c.use F N X T hh hd hu hP fun v h' tk' r F' N' => by obtain rfl := r; exact h h' tk' F' N'
theorem Ctr.useN {O : Obj → Prop} {P : Heap → Prop} (c : Ctr w d u t P (RNew O))
    (F : Fr g L s.heap m) (N : News g L s.heap news) (X : (hd.heap_1 w.params).In g) (T : Top p loose mean mg mb g)
    (hh : A.handled = none) (hd : A.depth ≤ d) (hu : A.units ≤ u) (hP : P s.heap)
    (h : ∀ a o h' tk', O o → Fr g L h' m → News g L h' ((a, o) :: news) → AllNe a news → Q (.ref a) { s with heap := h', toks := tk' }) : wpAny (model PP w) A t Q E s :=
  c.use F N X T hh hd hu hP fun v h' tk' r F' N' => by
    obtain ⟨a, o, rfl, hO, ha, ho⟩ := r
    have ne : ∀ b ob, s.heap.get? b = some ob → b ≠ a := fun b ob e q => by rw [q, ha] at e; cases e
    refine h a o h' tk' hO F' (fun q hq => ?_) (AllNe.of fun q hq => ne _ _ (N q hq).1)
    rcases List.mem_cons.mp hq with rfl | hq
    · refine ⟨ho, ?_, ?_⟩
      · obtain ⟨oL, _, _, hL, _⟩ := F.ns
        exact (ne _ _ hL).symm
      · cases e : g.get? a with
        | none => rfl
        | some o' => exact absurd rfl (ne _ _ (F.keep _ _ e))
    · exact N' q hq
end

theorem enter {prog : Program} {w : World} {A : Around} {s : Shared} {K : Frag} {E : Value → Shared → Prop} {Q : Value → Shared → Prop} {name qual : Str} {params : Arguments} {body : List Stmt} {scope : Scope}
    {dV kV doc pm cdv ct oc : Value} {an od : Option Addr} {osl : Array (Option Value)} {f : Addr} {args : List Value} {kw : List (Str × Value)} {binds : List (Str × Value)} {m : Str → Option Value}
    (X : K.In s.heap) (hlim : s.heap.NoLimit)
    (ho : K.lookup f = some ⟨oc, od, .func (fnOf name qual params body scope dV kV doc pm an cdv ct), osl⟩) (hcd : codeIn K cdv qual = true) (hroom : A.depth < recursionLimit)
    (hbind : BindsTo s (fnOf name qual params body scope dV kV doc pm an cdv ct) ⟨args, kw⟩ binds) (hloc : ∀ y ∈ binds, scope.names.lookup y.1 = some .local)
    (hco : scope.isCoroutine = false) (hgen : scope.isGenerator = false) (hk : scope.kind = .function)
    (hcell : ∀ x ∈ scope.names, x.2 ≠ .cell)
    (hm : chain binds.reverse = m)
    (h : ∀ L h₁ tk, Fr s.heap L h₁ m → News s.heap L h₁ [] →
      wpAny (model prog w) (A.deeper (envOf qual scope L f cdv)) (execs body (envOf qual scope L f cdv))
        (fun fl s' => Q (match fl with | .ret v => v | _ => .none) s')
        (fun _ _ => False)
        { heap := h₁, gens := s.gens, drawn := s.drawn, toks := tk, os := s.os }) :
    wpAny (model prog w) A (call (.ref f) args kw) Q E s := by
  refine wpAny_call ?_
  refine codeAny_call_def (fd := fnOf name qual params body scope dV kV doc pm an cdv ct) (body := body) (binds := binds) hroom (X _ _ ho) rfl hlim (codeRec_of X hcd) rfl hbind hcell hloc (fun h₁ hns hk₁ => ?_) hco hgen hk
  exact wpAny_mono (h _ h₁ _ (by rw [← hm, ← chain_eq]; exact ⟨hns, hk₁, Nat.le_refl _⟩) News.nil) (fun fl s' hl => hl) fun _ _ y => y.elim
section
variable {g h' : Heap} {L : Addr} {m : Str → Option Value} {news : List (Addr × Obj)} {s : Shared} {Q : Value → Shared → Prop} {tk' : Nat} {t : Tok}
theorem end_int {x f : Int} (h : ∀ v h' tk', Keeps g h' → RInt f v g h' → Q v { s with heap := h', toks := tk' }) (F : Fr g L h' m) (e : x = f) : Q (.int x t) { s with heap := h', toks := tk' } :=
  h _ _ _ F.keep ⟨t, by rw [e]⟩
theorem end_str {x f : Str} (h : ∀ v h' tk', Keeps g h' → RStr f v g h' → Q v { s with heap := h', toks := tk' }) (F : Fr g L h' m) (e : x = f) : Q (.str x t) { s with heap := h', toks := tk' } :=
  h _ _ _ F.keep ⟨t, by rw [e]⟩
theorem end_bool {x f : Bool} (h : ∀ v h' tk', Keeps g h' → RBool f v g h' → Q v { s with heap := h', toks := tk' }) (F : Fr g L h' m) (e : x = f) : Q (.bool x) { s with heap := h', toks := tk' } :=
  h _ _ _ F.keep (by rw [e])
theorem end_new {O : Obj → Prop} {a : Addr} {o : Obj} (h : ∀ v h' tk', Keeps g h' → RNew O v g h' → Q v { s with heap := h', toks := tk' }) (F : Fr g L h' m) (N : News g L h' ((a, o) :: news)) (e : O o) : Q (.ref a) { s with heap := h', toks := tk' } :=
  h _ _ _ F.keep ⟨a, o, rfl, e, (N _ (.head _)).2.2, (N _ (.head _)).1⟩
end
end Mine

end
section
open PySem PySem.W PyProof.Rows PySem.Calls PySem.Spec Mine
local macro_rules | `(tactic| walk_at "eval Name") => `(tactic| (k_here; (fail_if_success (with_reducible show wpAny _ _ (eval _ (compEnvC _ _ _ _)) _ _ _)); first | (name_kind "local"; k_dflt refine' nameX_L (by k_asm) (by exact Eq.refl (some _)) ?_ rfl rfl) | (name_kind "globalImplicit"; k_dflt first | refine' nameX_K (by k_asm) (by k_asm) (by k_asm) (by k_is) ?_ rfl rfl | refine' nameX_B (by k_asm) (by k_asm) (by k_asm) (by k_is) (by boot_fast) (by decide) ?_ rfl rfl) | (name_kind "cell"; k_dflt refine' nameX_C (by k_asm) rfl (by k_mem) (by k_asm) ?_ rfl rfl); k_whole))
local macro_rules | `(tactic| walk_at "storeName") => `(tactic| (k_here; first | ((with_reducible show wpAny _ _ (storeName _ _ (Value.int _ _)) _ _ _); k_dflt refine' storeSvI (by k_asm) (by k_asm) (fun _ _ _ _ _ => ?_) rfl rfl) | ((with_reducible show wpAny _ _ (storeName _ _ (Value.str _ _)) _ _ _); k_dflt refine' storeSvS (by k_asm) (by k_asm) (fun _ _ _ _ _ => ?_) rfl rfl) | ((with_reducible show wpAny _ _ (storeName _ _ (Value.float _ _)) _ _ _); k_dflt refine' storeSvF (by k_asm) (by k_asm) (fun _ _ _ _ _ => ?_) rfl rfl) | k_dflt refine' storeSv (by k_asm) (by k_asm) (fun _ _ _ _ => ?_) rfl rfl; k_whole; (try k_sweep)))
local macro_rules | `(tactic| walk_at "callWith ref") => `(tactic| (k_here; first | ((with_reducible show wpAny _ _ (callWith _ _ _ _ []) _ _ _); k_dflt first | refine' callWith_K (by k_asm) (by k_is) ?_ | refine' callWith_K0 (by k_in) (by k_is) ?_) | k_dflt refine' callWith_KW (by k_asm) (by k_is) rfl ?_; k_whole))
section
open PySem PySem.W PyProof.Rows PySem.Calls PySem.Spec
namespace Mine
section
variable {M : Model} {A : Around} {E : Value → Shared → Prop} {s : Shared} {env : Env} {Q : Flow → Shared → Prop}
theorem execs_cut (n : Nat) {l : List Stmt} (h : ∀ R, R = l.drop n → wpAny M A (execs (l.take n ++ R) env) Q E s) : wpAny M A (execs l env) Q E s := by
  have := h _ rfl
  rwa [List.take_append_drop] at this
end
theorem cut_key {M : Model} {A : Around} {E : Value → Shared → Prop} {s : Shared} {env : Env} {Q : Flow → Shared → Prop} (n : Nat) {l : List Stmt} (Mid : Shared → Prop)
    (h1 : ∀ R, (∀ s, Mid s → wpAny M A (execs R env) Q E s) → wpAny M A (execs (l.take n ++ R) env) Q E s) (h2 : ∀ s, Mid s → wpAny M A (execs (l.drop n) env) Q E s) : wpAny M A (execs l env) Q E s := by
  have := h1 (l.drop n) h2
  rwa [List.take_append_drop] at this
def ovs : List (Str × Value) → (Str → Option Value) → Str → Option Value
  | [], m => m
  | (x, v) :: r, m => Sv x v (ovs r m)
theorem ovs_eq {m : Str → Option Value} : ∀ {l : List (Str × Value)}, (∀ p ∈ l, m p.1 = some p.2) → ∀ y, ovs l m y = m y
  | [], _, _ => rfl
  | (x, v) :: r, h, y => by
    show (if y = x then some v else ovs r m y) = m y
    by_cases e : y = x
    · subst e; rw [if_pos rfl]; exact (h _ (.head _)).symm
    · rw [if_neg e]; exact ovs_eq (fun p hp => h p (.tail _ hp)) y
/-- names and values, the temporaries and all that stand twice left out -/
def norm : List Str → List (Str × Value) → List (Str × Value)
  | _, [] => []
  | ts, (x, v) :: r => if ts.contains x = true then norm ts r else (x, v) :: norm (x :: ts) r
theorem ovs_norm {m : Str → Option Value} {z : Str} : ∀ {l : List (Str × Value)} {ts : List Str}, ts.contains z = false → ovs l m z = ovs (norm ts l) m z
  | [], _, _ => rfl
  | (x, v) :: r, ts, h => by
    show (if z = x then some v else ovs r m z) = ovs (if ts.contains x = true then norm ts r else (x, v) :: norm (x :: ts) r) m z
    by_cases e : ts.contains x = true
    · rw [if_pos e, if_neg (fun q => by rw [q, e] at h; cases h)]
      exact ovs_norm h
    · rw [if_neg e]
      show _ = if z = x then some v else ovs (norm (x :: ts) r) m z
      by_cases q : z = x
      · rw [if_pos q, if_pos q]
      · rw [if_neg q, if_neg q]
        exact ovs_norm (by rw [List.contains_cons, h, Bool.or_false]; exact beq_eq_false_iff_ne.mpr q)
theorem ovs_app {m : Str → Option Value} : ∀ {l r : List (Str × Value)}, ovs (l ++ r) m = ovs l (ovs r m)
  | [], _ => rfl
  | (x, v) :: l, r => congrArg (Sv x v) (ovs_app (l := l))
theorem ovs_tv {ts : List Str} {u m : Str → Option Value} {z : Str} (h : ts.contains z = false) : ∀ {l : List (Str × Value)}, ovs l (Tv ts u m) z = ovs l m z
  | [] => by show (if ts.contains z = true then u z else m z) = m z; rw [if_neg (by rw [h]; decide)]
  | (x, v) :: r => by
    show (if z = x then some v else ovs r (Tv ts u m) z) = if z = x then some v else ovs r m z
    rw [ovs_tv h (l := r)]
/-- behind a turn the names are as its letters tell -/
theorem svn {ts : List Str} {u m m' M' : Str → Option Value} {l1 l2 l3 : List (Str × Value)} (h1 : m' = ovs l1 (Tv ts u (ovs l2 m))) (h2 : M' = ovs l3 m) (e : norm ts (l1 ++ l2) = l3) (z : Str) (h : ts.contains z = false) : m' z = M' z := by
  rw [h1, h2, ovs_tv h, ← ovs_app, ovs_norm h, e]
theorem ts_sub {ts1 ts2 : List Str} (h : ts1.all ts2.contains = true) {z : Str} (hz : ts2.contains z = false) : ts1.contains z = false := by
  cases e : ts1.contains z with
  | false => rfl
  | true => exact absurd (List.all_eq_true.mp h z (by simpa using e)) (by rw [hz]; decide)
def IsS (x : Str) (v : Value) : Prop := ∃ t, v = .str x t
theorem IsS.mk {x y : Str} {t : Tok} (h : x = y) : IsS y (.str x t) := ⟨t, by rw [h]⟩
def IsI (x : Int) (v : Value) : Prop := ∃ t, v = .int x t
theorem IsI.mk {x y : Int} {t : Tok} (h : x = y) : IsI y (.int x t) := ⟨t, by rw [h]⟩
theorem Fr.overAll {g h : Heap} {L : Addr} {m : Str → Option Value} (F : Fr g L h m) (l : List (Str × Value)) (e : ∀ p ∈ l, m p.1 = some p.2) : Fr g L h (ovs l m) :=
  (funext (ovs_eq e) : ovs l m = m).symm ▸ F
/-- a state of the frame at hand: some names, some objects -/
def MidAt (g : Heap) (L : Addr) (s : Shared) (names : List (Str × (Value → Prop))) (objs : List (Addr × Obj) → Prop) (s' : Shared) : Prop :=
  ∃ h tk m news, s' = { s with heap := h, toks := tk } ∧ Fr g L h m ∧ News g L h news ∧ (∀ p ∈ names, ∃ v, m p.1 = some v ∧ p.2 v) ∧ objs news
theorem Fr.as {g h : Heap} {L : Addr} {m m' : Str → Option Value} (F : Fr g L h m) (e : ∀ y, m' y = m y) : Fr g L h m' := (funext e : m' = m) ▸ F
abbrev F2m {g h : Heap} {L : Addr} {m : Str → Option Value} (_ : Fr g L h m) : Str → Option Value := m
theorem Fr.over {g h : Heap} {L : Addr} {m : Str → Option Value} (F : Fr g L h m) (x : Str) {v : Value} (e : m x = some v) : Fr g L h (Sv x v m) :=
  Fr.as F fun y => by by_cases h : y = x <;> simp [h, e]
theorem AllNe.mem {d : Addr} : ∀ {l : List (Addr × Obj)}, AllNe d l → ∀ p ∈ l, p.1 ≠ d
  | [], _, _, h => nomatch h
  | _ :: _, x, p, h => by
    rcases List.mem_cons.mp h with rfl | h
    · exact x.1
    · exact AllNe.mem x.2 p h
theorem AllNe.append {d : Addr} {l l' : List (Addr × Obj)} (h : AllNe d l) (h' : AllNe d l') : AllNe d (l ++ l') :=
  AllNe.of fun p hp => (List.mem_append.mp hp).elim (AllNe.mem h p) (AllNe.mem h' p)

/-- what a turn must leave behind: the letters p', the names but the temporaries as Mp p' tells, the objects of Cp p', the iterator's, and those that stay -/
inductive TurnTo' {Pm : Type} (h₀ : Heap) (L : Addr) (Mp : Pm → Str → Option Value) (Cp : Pm → List (Addr × Obj)) (P' : Pm → Prop) (temps : List Str) (stay : List (Addr × Obj)) (off : List (Addr × Obj) → Prop) (gs : Array GenState) (dr : Drawn) (os : OsState) : Shared → Prop
  | mk' {p' : Pm} {h' : Heap} {tk : Nat} {m' : Str → Option Value} {news' : List (Addr × Obj)} (hp : P' p') (F : Fr h₀ L h' m') (hm : ∀ z, temps.contains z = false → m' z = Mp p' z) (N : News h₀ L h' news') (hc : ∀ q ∈ Cp p', q ∈ news') (hs : ∀ q ∈ stay, q ∈ news') (ho : off (Cp p')) :
      TurnTo' h₀ L Mp Cp P' temps stay off gs dr os { heap := h', gens := gs, drawn := dr, toks := tk, os := os }
abbrev TurnTo {Pm : Type} (h₀ : Heap) (L : Addr) (Mp : Pm → Str → Option Value) (Cp : Pm → List (Addr × Obj)) (P' : Pm → Prop) (temps : List Str) (stay : List (Addr × Obj)) (off : List (Addr × Obj) → Prop) (s s₂ : Shared) : Prop :=
  TurnTo' h₀ L Mp Cp P' temps stay off s.gens s.drawn s.os s₂
def TurnPost {Pm : Type} (h₀ : Heap) (L : Addr) (Mp : Pm → Str → Option Value) (Cp : Pm → List (Addr × Obj)) (P' : Pm → Prop) (temps : List Str) (stay : List (Addr × Obj)) (off : List (Addr × Obj) → Prop) (s : Shared) (Q : Flow → Shared → Prop) (f : Flow) (s₂ : Shared) : Prop :=
  match f with
  | .ret v => Q (.ret v) s₂
  | .brk => Q .next s₂
  | _ => TurnTo h₀ L Mp Cp P' temps stay off s s₂

/-- a post behind one name -/
structure KH (Q K : Flow → Shared → Prop) : Type where ok : ∀ f s, Q f s → K f s
theorem TurnTo.mk {Pm : Type} {h₀ : Heap} {L : Addr} {Mp : Pm → Str → Option Value} {Cp : Pm → List (Addr × Obj)} {P' : Pm → Prop} {temps : List Str} {stay : List (Addr × Obj)} {off : List (Addr × Obj) → Prop} {s s₂ : Shared} {Q : Flow → Shared → Prop}
    {m' : Str → Option Value} {news' : List (Addr × Obj)} {h' : Heap} {tk : Nat} {K : Flow → Shared → Prop} (KT : KH (TurnPost h₀ L Mp Cp P' temps stay off s Q) K) (p' : Pm) (F : Fr h₀ L h' m') (N : News h₀ L h' news') (hs₂ : s₂ = { s with heap := h', toks := tk }) (hp : P' p')
    (hm : ∀ z, temps.contains z = false → m' z = Mp p' z) (hc : ∀ q ∈ Cp p', q ∈ news') (hs : ∀ q ∈ stay, q ∈ news') (ho : off (Cp p')) : K .next s₂ :=
  KT.ok _ _ (show TurnTo h₀ L Mp Cp P' temps stay off s s₂ from hs₂ ▸ .mk' hp F hm N hc hs ho)
section
variable {prog : Program} {w : World} {A : Around} {E : Value → Shared → Prop} {s : Shared} {env : Env} {h₀ : Heap} {x : Str} {body : List Stmt} {Q : Flow → Shared → Prop}
inductive LoopJ {Pm : Type} (Mp : Pm → Str → Option Value) (Cp : Pm → List (Addr × Obj)) (fix : List (Addr × Obj)) (temps : List Str) (I : Addr) (P : Pm → Prop) : (Str → Option Value) → List (Addr × Obj) → Prop
  | mk {p : Pm} {m₁ : Str → Option Value} (hp : P p) (hm : ∀ z, temps.contains z = false → m₁ z = Mp p z) (off : AllNe I (Cp p ++ fix)) : LoopJ Mp Cp fix temps I P m₁ (Cp p ++ fix)
theorem loop_core {Pm : Type} (Mp : Pm → Str → Option Value) (Cp : Pm → List (Addr × Obj)) (Pi : Nat → Pm → Prop) (temps : List Str) (fix : List (Addr × Obj))
    {I : Addr} {fp : List Addr} {n : Nat} {P : Nat → Value → Prop} {St : Nat → Heap → Prop} (W : Walks prog w A I fp [I] n P St) (hx : temps.contains x = true)
    (hLf : env.locals ∉ fp) (hI : h₀.get? I = none) (hIo : ∀ i h, St i h → ∃ o, h.get? I = some o) (hfp : ∀ b ∈ fp, b = I ∨ h₀.get? b ≠ none ∨ ∃ o, (b, o) ∈ fix)
    (hst : St 0 s.heap) {p₀ : Pm} (F : Fr h₀ env.locals s.heap (Mp p₀)) (N : News h₀ env.locals s.heap (Cp p₀ ++ fix)) (off : AllNe I (Cp p₀ ++ fix)) (h0 : Pi 0 p₀)
    (turn : ∀ i v p (u : Str → Option Value) h tk oI, i < n → P i v → Pi i p → AllNe I (Cp p ++ fix) → St (i + 1) h →
      Fr h₀ env.locals h (fun y => if y = x then some v else if temps.contains y = true then u y else Mp p y) → News h₀ env.locals h ((I, oI) :: (Cp p ++ fix)) →
      wpAny (model prog w) A (execs body env) (TurnPost h₀ env.locals Mp Cp (Pi (i + 1)) temps ((I, oI) :: fix) (AllNe I) s Q) E { s with heap := h, toks := tk })
    (done : ∀ p (u : Str → Option Value) h tk, Pi n p → Fr h₀ env.locals h (fun y => if temps.contains y = true then u y else Mp p y) → News h₀ env.locals h (Cp p ++ fix) → Q .next { s with heap := h, toks := tk }) :
    LoopAtV prog w A h₀ env x body Q E (.ref I) s := by
  let J : Nat → (Str → Option Value) → List (Addr × Obj) → Prop := fun i => LoopJ Mp Cp fix temps I (Pi i)
  have offw : ∀ {l}, AllNe I l → ∀ q ∈ l, q.1 ∉ [I] := fun ha q hq hm => AllNe.mem ha q hq (List.mem_singleton.mp hm)
  refine ⟨I, fp, [I], n, P, St, Mp p₀, Cp p₀ ++ fix, J, rfl, W, hLf, ?_, offw off, hst, F, N, .mk h0 (fun _ _ => rfl) off, ?_, ?_⟩
  · intro b hb
    rw [List.mem_singleton.mp hb]; exact hI
  · rintro i v m₁ news₁ s₁ own ⟨h, tk, rfl⟩ hin hP @⟨p, _, hp, hm, off₁⟩ _ hown hget hall hst₁ F₁ N₁
    have e : (fun y => if y = x then some v else m₁ y) = fun y => if y = x then some v else if temps.contains y = true then m₁ y else Mp p y := by
      funext y
      by_cases h1 : y = x
      · simp only [if_pos h1]
      · simp only [if_neg h1]
        by_cases h2 : temps.contains y = true
        · rw [if_pos h2]
        · rw [if_neg h2]; exact hm y (Bool.eq_false_iff.mpr h2)
    rw [e] at F₁
    obtain ⟨oI, hoI⟩ := hIo _ _ hst₁
    have hIfp : I ∈ fp := W.sub I (List.mem_singleton.mpr rfl)
    have hIown : (I, oI) ∈ own := hall I hIfp hI oI hoI
    have N₂ : News h₀ env.locals h ((I, oI) :: (Cp p ++ fix)) := fun q hq => N₁ q (by
      rcases List.mem_cons.mp hq with rfl | hq
      · exact List.mem_append_left _ hIown
      · exact List.mem_append_right _ hq)
    refine wpAny_mono (turn i v p m₁ h tk oI hin hP hp off₁ hst₁ F₁ N₂) (fun f s₂ q => ?_) fun _ _ e => e
    have fin : TurnTo h₀ env.locals Mp Cp (Pi (i + 1)) temps ((I, oI) :: fix) (AllNe I) s s₂ → LoopStepU h₀ env.locals [I] own (J (i + 1)) { s with heap := h, toks := tk } .next s₂ := by
      rintro @⟨p', h', tk', m', news', hp', F', hm', N', hc, hs, ho⟩
      have offfix : AllNe I fix := AllNe.of fun q hq => AllNe.mem off₁ q (List.mem_append_right _ hq)
      refine ⟨rfl, h', tk', m', Cp p' ++ fix, rfl, F', fun q hq => ?_, offw (AllNe.append ho offfix), .mk hp' hm' (AllNe.append ho offfix)⟩
      rcases List.mem_append.mp hq with hq | hq
      · have g1 := N₁ q (List.mem_append_left _ hq)
        rcases hfp _ (hown q hq) with e1 | e1 | ⟨o, ho1⟩
        · have : q.2 = oI := by have g2 := hget q hq; rw [e1] at g2; exact (Option.some.inj (hoI.symm.trans g2)).symm
          have hq' : q = (I, oI) := Prod.ext e1 this
          rw [hq']; exact N' _ (hs _ (.head _))
        · exact absurd g1.2.2 e1
        · have g2 := N₂ _ (List.mem_cons_of_mem _ (List.mem_append_right _ ho1))
          have : q.2 = o := Option.some.inj (g1.1.symm.trans g2.1)
          have hq' : q = (q.1, o) := Prod.ext rfl this
          rw [hq']; exact N' _ (hs _ (List.mem_cons_of_mem _ ho1))
      · rcases List.mem_append.mp hq with hq | hq
        · exact N' q (hc q hq)
        · exact N' q (hs q (List.mem_cons_of_mem _ hq))
    cases f with
    | ret v => exact .ret q
    | brk => exact .brk q
    | next => exact .next (fin q)
    | cont => exact .cont (fin q)
  · rintro h' tk m' news' F' N' _ @⟨p, _, hp, hm, _⟩
    refine done p m' h' tk hp ?_ N'
    have e : (fun y => if temps.contains y = true then m' y else Mp p y) = m' := by
      funext y
      by_cases h2 : temps.contains y = true
      · rw [if_pos h2]
      · rw [if_neg h2]; exact (hm y (Bool.eq_false_iff.mpr h2)).symm
    rw [e]; exact F'

/-- a for over a list: one of the state ahead of all, or one of those that stay -/
theorem for_list0 {Pm : Type} (Mp : Pm → Str → Option Value) (Cp : Pm → List (Addr × Obj)) (Pi : Nat → Pm → Prop) (temps : List Str) (fix : List (Addr × Obj)) (p₀ : Pm)
    {l : Addr} {vs : List Value}
    (hh : A.handled = none) (hl : h₀.IsList l vs.toArray ∨ ∃ o, (l, o) ∈ fix ∧ o.cls = .type "list" ∧ ∃ k, o.data = .seq vs.toArray k) (hx : temps.contains x = true)
    (F : Fr h₀ env.locals s.heap (Mp p₀)) (N : News h₀ env.locals s.heap (Cp p₀ ++ fix)) (h0 : Pi 0 p₀)
    (turn : ∀ i v p (u : Str → Option Value) h tk I oI, vs[i]? = some v → Pi i p → AllNe I (Cp p ++ fix) →
      Fr h₀ env.locals h (fun y => if y = x then some v else if temps.contains y = true then u y else Mp p y) → News h₀ env.locals h ((I, oI) :: (Cp p ++ fix)) →
      wpAny (model prog w) A (execs body env) (TurnPost h₀ env.locals Mp Cp (Pi (i + 1)) temps ((I, oI) :: fix) (AllNe I) s Q) E { s with heap := h, toks := tk })
    (done : ∀ p (u : Str → Option Value) h tk, Pi vs.length p → Fr h₀ env.locals h (fun y => if temps.contains y = true then u y else Mp p y) → News h₀ env.locals h (Cp p ++ fix) → Q .next { s with heap := h, toks := tk }) :
    wpAny (model prog w) A (pyIter (.ref l)) (fun it s₂ => LoopAtV prog w A h₀ env x body Q E it s₂) E s := by
  have hl' : s.heap.IsList l vs.toArray := by
    rcases hl with ⟨o, e, r⟩ | ⟨o, hm, r⟩
    · exact ⟨o, F.keep _ _ e, r⟩
    · exact ⟨o, (N _ (List.mem_append_right _ hm)).1, r⟩
  have hlL : l ≠ env.locals := by
    rcases hl with ⟨o, e, _⟩ | ⟨o, hm, _⟩
    · exact fun q => absurd (Heap.lt_size e) (Nat.not_lt.mpr (q ▸ F.above))
    · exact (N _ (List.mem_append_right _ hm)).2.1
  obtain ⟨ol, hol, _⟩ := id hl'
  have hlt : l < s.heap.objs.size := Heap.lt_size hol
  have hne : l ≠ s.heap.objs.size := Nat.ne_of_lt hlt
  refine wpAny_pyIter_list hl' ?_
  have W := Walks.list (prog := prog) (w := w) hh s.heap.objs.size l hne vs.toArray
  have hlen : vs.toArray.size = vs.length := by simp
  rw [hlen] at W
  refine loop_core Mp Cp Pi temps fix W hx ?_ (next_is_new F) (fun i h st => by obtain ⟨⟨o, e, _⟩, _⟩ := st; exact ⟨o, e⟩) ?_ ⟨⟨_, Heap.get?_push_size _ rfl, rfl, rfl⟩, hl'.at fun o e => Heap.get?_push_of_some _ e⟩ (F.push _)
    (fun p hp => ⟨Heap.get?_push_of_some _ (N p hp).1, (N p hp).2⟩) (AllNe.of fun q hq => Nat.ne_of_lt (Heap.lt_size (N q hq).1)) h0
    (fun i v p u h tk oI hin hP hp ho hst F' N' => turn i v p u h tk _ oI (by simpa using hP) hp ho F' N') done
  · intro hm
    rcases List.mem_cons.mp hm with e | hm
    · exact absurd F.ns.lt (e ▸ Nat.lt_irrefl _)
    · exact hlL (List.mem_singleton.mp hm).symm
  · intro b hb
    rcases List.mem_cons.mp hb with rfl | hb
    · exact .inl rfl
    · rw [List.mem_singleton.mp hb]
      rcases hl with ⟨o, e, _⟩ | ⟨o, hm, _⟩
      · exact .inr (.inl (by rw [e]; exact fun q => nomatch q))
      · exact .inr (.inr ⟨o, hm⟩)

/-- a for over a range by ones -/
theorem for_range0 {Pm : Type} (Mp : Pm → Str → Option Value) (Cp : Pm → List (Addr × Obj)) (Pi : Nat → Pm → Prop) (temps : List Str) (fix : List (Addr × Obj)) (p₀ : Pm)
    {r : Addr} {a₀ b₀ : Int} {t₀ u₀ v₀ : Tok} {n : Nat}
    (hh : A.handled = none) (hr : IsRange s.heap r a₀ b₀ 1 t₀ u₀ v₀) (hsmall : Builtin.Range.small a₀ b₀ 1 = true) (hn : Builtin.Range.rangeSize a₀ b₀ 1 = (n : Int)) (hx : temps.contains x = true)
    (F : Fr h₀ env.locals s.heap (Mp p₀)) (N : News h₀ env.locals s.heap (Cp p₀ ++ fix)) (h0 : Pi 0 p₀)
    (turn : ∀ (i : Nat) t p (u : Str → Option Value) h tk I oI, i < n → Pi i p → AllNe I (Cp p ++ fix) →
      Fr h₀ env.locals h (fun y => if y = x then some (.int (a₀ + (i : Int)) t) else if temps.contains y = true then u y else Mp p y) → News h₀ env.locals h ((I, oI) :: (Cp p ++ fix)) →
      wpAny (model prog w) A (execs body env) (TurnPost h₀ env.locals Mp Cp (Pi (i + 1)) temps ((I, oI) :: fix) (AllNe I) s Q) E { s with heap := h, toks := tk })
    (done : ∀ p (u : Str → Option Value) h tk, Pi n p → Fr h₀ env.locals h (fun y => if temps.contains y = true then u y else Mp p y) → News h₀ env.locals h (Cp p ++ fix) → Q .next { s with heap := h, toks := tk }) :
    wpAny (model prog w) A (pyIter (.ref r)) (fun it s₂ => LoopAtV prog w A h₀ env x body Q E it s₂) E s := by
  refine wpAny_pyIter_range hr hsmall ?_
  have W : Walks prog w A s.heap.objs.size [s.heap.objs.size] [s.heap.objs.size] n (fun i v => i < n ∧ ∃ t, v = .int (a₀ + i * 1) t)
      (fun i h => IsRangeIter h s.heap.objs.size (a₀ + (i : Nat) * 1) ((n : Int) - (i : Nat)) 1) := (Walks.range hh _ a₀ 1 n).bound
  refine loop_core Mp Cp Pi temps fix W hx ?_ (next_is_new F) (fun i h st => ⟨_, st⟩) ?_ (by show IsRangeIter _ _ _ _ _; rw [hn]; simpa using Heap.get?_push_size _ rfl) (F.push _)
    (fun p hp => ⟨Heap.get?_push_of_some _ (N p hp).1, (N p hp).2⟩) (AllNe.of fun q hq => Nat.ne_of_lt (Heap.lt_size (N q hq).1)) h0
    (fun i v p u h tk oI hin hP hp ho _ F' N' => ?_) done
  · intro hm
    exact absurd F.ns.lt ((List.mem_singleton.mp hm) ▸ Nat.lt_irrefl _)
  · intro b hb
    exact .inl (List.mem_singleton.mp hb)
  · obtain ⟨_, t, rfl⟩ := hP
    have e1 : a₀ + (i : Int) * 1 = a₀ + (i : Int) := by rw [Int.mul_one]
    rw [e1] at F'
    exact turn i t p u h tk _ oI hin hp ho F' N'

theorem for_list {Pm : Type} (Mp : Pm → Str → Option Value) (Cp : Pm → List (Addr × Obj)) (Pi : Nat → Pm → Prop) (temps : List Str) (fix : List (Addr × Obj)) (p₀ : Pm)
    {l : Addr} {vs : List Value}
    {L : Addr} (hL : env.locals = L) (hh : A.handled = none) (hl : h₀.IsList l vs.toArray ∨ ∃ o, (l, o) ∈ fix ∧ o.cls = .type "list" ∧ ∃ k, o.data = .seq vs.toArray k) (hx : temps.contains x = true)
    (F : Fr h₀ L s.heap (Mp p₀)) (N : News h₀ L s.heap (Cp p₀ ++ fix)) (h0 : Pi 0 p₀)
    (turn : ∀ i v p (u : Str → Option Value) h tk I oI, vs[i]? = some v → Pi i p → AllNe I (Cp p ++ fix) →
      Fr h₀ L h (Sv x v (Tv temps u (Mp p))) → News h₀ L h ((I, oI) :: (Cp p ++ fix)) →
      ∀ K, KH (TurnPost h₀ L Mp Cp (Pi (i + 1)) temps ((I, oI) :: fix) (AllNe I) s Q) K → wpAny (model prog w) A (execs body env) K E { s with heap := h, toks := tk })
    (done : ∀ p (u : Str → Option Value) h tk, Pi vs.length p → Fr h₀ L h (Tv temps u (Mp p)) → News h₀ L h (Cp p ++ fix) → Q .next { s with heap := h, toks := tk }) :
    wpAny (model prog w) A (pyIter (.ref l)) (fun it s₂ => LoopAtV prog w A h₀ env x body Q E it s₂) E s := by
  subst hL
  exact for_list0 Mp Cp Pi temps fix p₀ hh hl hx F N h0 (fun i v p u h tk I oI a b c d e => turn i v p u h tk I oI a b c d e _ ⟨fun _ _ q => q⟩) done
theorem for_range {Pm : Type} (Mp : Pm → Str → Option Value) (Cp : Pm → List (Addr × Obj)) (Pi : Nat → Pm → Prop) (temps : List Str) (fix : List (Addr × Obj)) (p₀ : Pm)
    {r : Addr} {a₀ b₀ : Int} {t₀ u₀ v₀ : Tok} {n : Nat}
    {L : Addr} (hL : env.locals = L) (hh : A.handled = none) (hr : IsRange s.heap r a₀ b₀ 1 t₀ u₀ v₀) (hsmall : Builtin.Range.small a₀ b₀ 1 = true) (hn : Builtin.Range.rangeSize a₀ b₀ 1 = (n : Int)) (hx : temps.contains x = true)
    (F : Fr h₀ L s.heap (Mp p₀)) (N : News h₀ L s.heap (Cp p₀ ++ fix)) (h0 : Pi 0 p₀)
    (turn : ∀ (i : Nat) t p (u : Str → Option Value) h tk I oI, i < n → Pi i p → AllNe I (Cp p ++ fix) →
      Fr h₀ L h (Sv x (.int (a₀ + (i : Int)) t) (Tv temps u (Mp p))) → News h₀ L h ((I, oI) :: (Cp p ++ fix)) →
      ∀ K, KH (TurnPost h₀ L Mp Cp (Pi (i + 1)) temps ((I, oI) :: fix) (AllNe I) s Q) K → wpAny (model prog w) A (execs body env) K E { s with heap := h, toks := tk })
    (done : ∀ p (u : Str → Option Value) h tk, Pi n p → Fr h₀ L h (Tv temps u (Mp p)) → News h₀ L h (Cp p ++ fix) → Q .next { s with heap := h, toks := tk }) :
    wpAny (model prog w) A (pyIter (.ref r)) (fun it s₂ => LoopAtV prog w A h₀ env x body Q E it s₂) E s := by
  subst hL
  exact for_range0 Mp Cp Pi temps fix p₀ hh hr hsmall hn hx F N h0 (fun i t p u h tk I oI a b c d e => turn i t p u h tk I oI a b c d e _ ⟨fun _ _ q => q⟩) done
/-- a while by letters p and a measure -/
theorem while_param {Pm : Type} (Mp : Pm → Str → Option Value) (Cp : Pm → List (Addr × Obj)) (Pi : Pm → Prop) (meas : Pm → Nat) (temps : List Str) (fix : List (Addr × Obj)) (p₀ : Pm) {L : Addr} {test : Expr} {pos : Pos}
    (F : Fr h₀ L s.heap (Mp p₀)) (N : News h₀ L s.heap (Cp p₀ ++ fix)) (h0 : Pi p₀)
    (turn : ∀ p (u : Str → Option Value) h tk, Pi p → Fr h₀ L h (Tv temps u (Mp p)) → News h₀ L h (Cp p ++ fix) →
      ∀ K, KH (TurnPost h₀ L Mp Cp (fun p' => Pi p' ∧ meas p' < meas p) temps fix (fun _ => True) s Q) K → wpAny (model prog w) A (isTrue test env (eval test env)) (fun b s₂ =>
        if b = true then wpAny (model prog w) A (execs body env) K E s₂ else Q .next s₂) E { s with heap := h, toks := tk })
    (hE : PassesOwn (model prog w) A env E := by passes_own) :
    wpAny (model prog w) A (exec (.While test body [] pos) env) Q E s := by
  refine While_inv2 (fun k m₁ news₁ => ∃ p, Pi p ∧ meas p = k ∧ (∀ z, temps.contains z = false → m₁ z = Mp p z) ∧ news₁ = Cp p ++ fix) F N ⟨p₀, h0, rfl, fun _ _ => rfl, rfl⟩ ?_ hE
  rintro k m₁ news₁ h₁ tk₁ F₁ N₁ ⟨p, hp, rfl, hm, rfl⟩
  have e : Tv temps m₁ (Mp p) = m₁ := by
    funext y
    show (if temps.contains y = true then m₁ y else Mp p y) = m₁ y
    by_cases h2 : temps.contains y = true
    · rw [if_pos h2]
    · rw [if_neg h2]; exact (hm y (Bool.eq_false_iff.mpr h2)).symm
  refine wpAny_mono (turn p m₁ h₁ tk₁ hp (by rw [e]; exact F₁) N₁ _ ⟨fun _ _ q => q⟩) (fun b s₂ h₂ => ?_) fun _ _ e => e
  split
  · rename_i hb
    rw [if_pos hb] at h₂
    refine wpAny_mono h₂ (fun f s₃ h₃ => ?_) fun _ _ e => e
    have fin : TurnTo h₀ L Mp Cp (fun p' => Pi p' ∧ meas p' < meas p) temps fix (fun _ => True) s s₃ → ∃ h' tk m₂ news₂ n', s₃ = { s with heap := h', toks := tk } ∧ Fr h₀ L h' m₂ ∧ News h₀ L h' news₂ ∧ n' < meas p ∧ ∃ p, Pi p ∧ meas p = n' ∧ (∀ z, temps.contains z = false → m₂ z = Mp p z) ∧ news₂ = Cp p ++ fix := by
      rintro @⟨p', h', tk', m', news', ⟨hp', hlt⟩, F', hm', N', hc, hs, _⟩
      exact ⟨h', tk', m', _, _, rfl, F', fun q hq => N' q ((List.mem_append.mp hq).elim (hc q) (hs q)), hlt, p', hp', rfl, hm', rfl⟩
    cases f with
    | ret v => exact h₃
    | brk => exact h₃
    | next => exact fin h₃
    | cont => exact fin h₃
  · rename_i hb
    rw [if_neg hb] at h₂
    exact h₂
end

section
open PySem.Builtin PySem.Builtin.Str
/-- x.find(y, i, j) -/
def find4 (x y : Str) (i j : Int) : Int := match occurrences x y (fromIndex x.length i) (min (fromIndex x.length j) x.length) 1 with | k :: _ => (k : Int) | [] => -1
theorem gives_find4 (x y : Str) (i j : Int) (t u v z : Tok) : Gives («str.find» ⟨[.str x t, .str y u, .int i v, .int j z], []⟩) (.int (find4 x y i j)) := by
  unfold find4
  show Gives (match occurrences x y (fromIndex x.length i) (min (fromIndex x.length j) x.length) 1 with | k :: _ => retInt k | [] => (do rule "str.find.not-found"; retInt (-1))) _
  cases occurrences x y (fromIndex x.length i) (min (fromIndex x.length j) x.length) 1 with
  | nil => exact .rule (.of_eq rfl)
  | cons k _ => exact .of_eq rfl
theorem call_find4 {prog : Program} {w : World} {A : Around} {E : Value → Shared → Prop} {s : Shared} {Q : Value → Shared → Prop} {x y : Str} {i j : Int} {t u v z : Tok}
    (hq : Q (.int (find4 x y i j) s.toks) { s with toks := s.toks + 1 }) : wpAny (model prog w) A (call (.builtin "str.find") [.str x t, .str y u, .int i v, .int j z]) Q E s :=
  call_gives F.slot_str_find (typeIs_str _ _ _) F.entry_str_find (F.args_str_find_4 _ _ _ _) (gives_find4 x y i j t u v z) hq
end
end Mine

end
section
open PySem PySem.W PyProof.Rows PySem.Calls PySem.Spec PySem.Flt
namespace Mine
def ltF (a b : UInt64) : Bool := Float64.cmp a b == some .lt
def maxF (a b c : UInt64) : UInt64 := if ltF a b = true then (if ltF b c = true then c else b) else (if ltF a c = true then c else a)
def minF (a b c : UInt64) : UInt64 := if ltF b a = true then (if ltF c b = true then c else b) else (if ltF c a = true then c else a)
theorem argBest2 (X : Nat → Nat → Bool) (b10 b21 b20 : Bool) (h10 : X 1 0 = b10) (h21 : X 2 1 = b21) (h20 : X 2 0 = b20) : argBest X 2 = if b10 = true then (if b21 = true then 2 else 1) else (if b20 = true then 2 else 0) := by
  subst h10 h21 h20
  show (if X 2 (if X 1 0 = true then 1 else 0) = true then 2 else if X 1 0 = true then 1 else 0) = _
  cases h : X 1 0 <;> simp
section
variable {prog : Program} {w : World} {A : Around} {E : Value → Shared → Prop} {s : Shared} {h₀ : Heap} {L : Addr} {m : Str → Option Value} {news : List (Addr × Obj)}
theorem max_three_flo {a b c : UInt64} {t u x : Tok} {Q : Value → Shared → Prop} (hh : A.handled = none) (F : Fr h₀ L s.heap m) (N : News h₀ L s.heap news)
    (h : ∀ h' tk tt, Fr h₀ L h' m → News h₀ L h' news → Q (.float (maxF a b c) tt) { s with heap := h', toks := tk }) :
    wpAny (model prog w) A (call (.builtin "max") [.float a t, .float b u, .float c x]) Q E s := by
  have hT : (s.heap.push { cls := .type "tuple", data := .seq #[.float a t, .float b u, .float c x] }).IsTuple s.heap.objs.size #[.float a t, .float b u, .float c x] := ⟨_, Heap.get?_push_size _ rfl, rfl, 0, rfl⟩
  refine call_max_three (wpAny_pyIter_tuple hT ?_)
  have hsz : (s.heap.push { cls := .type "tuple", data := .seq #[.float a t, .float b u, .float c x] }).objs.size = s.heap.objs.size + 1 := Heap.size_push ..
  refine ⟨_, [_, s.heap.objs.size], [_], _, _, _, _, rfl, Walks.tuple (A := A.in1) hh _ s.heap.objs.size (by rw [hsz]; exact Nat.ne_of_lt (Nat.lt_succ_self _)) #[.float a t, .float b u, .float c x],
    ⟨⟨_, Heap.get?_push_size _ rfl, rfl, rfl⟩, hT.push _⟩, fun d hd => ?_, by simp, cmpOf_gt #[.float a t, .float b u, .float c x] (by simp [NumV.float]), fun v h' tk hP hk => ?_⟩
  · show d < ((s.heap.push _).push _).objs.size
    rw [Heap.size_push, hsz]
    rcases List.mem_cons.mp hd with rfl | hd
    · rw [hsz]; exact Nat.lt_succ_self _
    · rcases List.mem_cons.mp hd with rfl | hd
      · exact Nat.lt_succ_of_lt (Nat.lt_succ_self _)
      · cases hd
  · have hold : ∀ d o, s.heap.get? d = some o → h'.get? d = some o := fun d o e => by
      refine hk d o (fun hm => ?_) (Heap.get?_push_of_some _ (Heap.get?_push_of_some _ e))
      rcases List.mem_cons.mp hm with e1 | hm
      · have := Heap.lt_size e; rw [e1, hsz] at this; exact Nat.lt_irrefl _ (Nat.lt_of_succ_lt this)
      · cases hm
    have key := fun tt => h h' tk tt (F.grownK hold) (N.grown hold)
    obtain ⟨tt, hv⟩ : ∃ tt, v = .float (maxF a b c) tt := by
      have hP' : (#[Value.float a t, Value.float b u, Value.float c x] : Array Value)[argBest (fun i j => ltV (Array.getD #[.float a t, .float b u, .float c x] j .none) (Array.getD #[.float a t, .float b u, .float c x] i .none)) 2]? = some v := hP
      rw [argBest2 _ (ltF a b) (ltF b c) (ltF a c) rfl rfl rfl] at hP'
      unfold maxF
      cases c1 : ltF a b <;> cases c2 : ltF b c <;> cases c3 : ltF a c <;> simp [c1, c2, c3] at hP' ⊢ <;> exact ⟨_, hP'.symm⟩
    rw [hv]; exact key tt
theorem min_three_flo {a b c : UInt64} {t u x : Tok} {Q : Value → Shared → Prop} (hh : A.handled = none) (F : Fr h₀ L s.heap m) (N : News h₀ L s.heap news)
    (h : ∀ h' tk tt, Fr h₀ L h' m → News h₀ L h' news → Q (.float (minF a b c) tt) { s with heap := h', toks := tk }) :
    wpAny (model prog w) A (call (.builtin "min") [.float a t, .float b u, .float c x]) Q E s := by
  have hT : (s.heap.push { cls := .type "tuple", data := .seq #[.float a t, .float b u, .float c x] }).IsTuple s.heap.objs.size #[.float a t, .float b u, .float c x] := ⟨_, Heap.get?_push_size _ rfl, rfl, 0, rfl⟩
  refine call_min_three (wpAny_pyIter_tuple hT ?_)
  have hsz : (s.heap.push { cls := .type "tuple", data := .seq #[.float a t, .float b u, .float c x] }).objs.size = s.heap.objs.size + 1 := Heap.size_push ..
  refine ⟨_, [_, s.heap.objs.size], [_], _, _, _, _, rfl, Walks.tuple (A := A.in1) hh _ s.heap.objs.size (by rw [hsz]; exact Nat.ne_of_lt (Nat.lt_succ_self _)) #[.float a t, .float b u, .float c x],
    ⟨⟨_, Heap.get?_push_size _ rfl, rfl, rfl⟩, hT.push _⟩, fun d hd => ?_, by simp, cmpOf_lt #[.float a t, .float b u, .float c x] (by simp [NumV.float]), fun v h' tk hP hk => ?_⟩
  · show d < ((s.heap.push _).push _).objs.size
    rw [Heap.size_push, hsz]
    rcases List.mem_cons.mp hd with rfl | hd
    · rw [hsz]; exact Nat.lt_succ_self _
    · rcases List.mem_cons.mp hd with rfl | hd
      · exact Nat.lt_succ_of_lt (Nat.lt_succ_self _)
      · cases hd
  · have hold : ∀ d o, s.heap.get? d = some o → h'.get? d = some o := fun d o e => by
      refine hk d o (fun hm => ?_) (Heap.get?_push_of_some _ (Heap.get?_push_of_some _ e))
      rcases List.mem_cons.mp hm with e1 | hm
      · have := Heap.lt_size e; rw [e1, hsz] at this; exact Nat.lt_irrefl _ (Nat.lt_of_succ_lt this)
      · cases hm
    have key := fun tt => h h' tk tt (F.grownK hold) (N.grown hold)
    obtain ⟨tt, hv⟩ : ∃ tt, v = .float (minF a b c) tt := by
      have hP' : (#[Value.float a t, Value.float b u, Value.float c x] : Array Value)[argBest (fun i j => ltV (Array.getD #[.float a t, .float b u, .float c x] i .none) (Array.getD #[.float a t, .float b u, .float c x] j .none)) 2]? = some v := hP
      rw [argBest2 _ (ltF b a) (ltF c b) (ltF c a) rfl rfl rfl] at hP'
      unfold minF
      cases c1 : ltF b a <;> cases c2 : ltF c b <;> cases c3 : ltF c a <;> simp [c1, c2, c3] at hP' ⊢ <;> exact ⟨_, hP'.symm⟩
    rw [hv]; exact key tt
end
end Mine

end
section
open PySem PySem.W PyProof.Rows PySem.Calls PySem.Spec
namespace Mine
/-- what a call is promised to do that has objects N₀ of the state at hand: all else is kept; behind it N₁ stand, as R tells -/
def CtrN (w : World) (d u : Nat) (t : Sem Value) (c P : Addr) (N₀ : List (Addr × Obj)) (R : Value → List (Addr × Obj) → Prop) : Prop :=
  ∀ (p : Program) (loose : List Str) (mean : ExcName → Option Value) (mg mb : Str → Option Value) (g : Heap) (s : Shared) (Q E : Value → Shared → Prop),
    (hd.heap_1 w.params).In g → Top p loose mean mg mb g → CodeHd g c P → Keeps g s.heap → (∀ q ∈ N₀, s.heap.get? q.1 = some q.2 ∧ g.get? q.1 = none) →
    (∀ v h' tk' N₁, (∀ b o, s.heap.get? b = some o → (∀ q ∈ N₀, q.1 ≠ b) → h'.get? b = some o) →
      (∀ q ∈ N₁, h'.get? q.1 = some q.2 ∧ ((∃ q₀ ∈ N₀, q₀.1 = q.1) ∨ s.heap.get? q.1 = none)) → R v N₁ → Q v { s with heap := h', toks := tk' }) → wpAny (model PP w) (AA d u) t Q E s

theorem CtrN.use {w : World} {d u : Nat} {t : Sem Value} {A : Around} {g : Heap} {L : Addr} {m : Str → Option Value} {news : List (Addr × Obj)}
    {p : Program} {loose : List Str} {mean : ExcName → Option Value} {mg mb : Str → Option Value} {s : Shared} {Q E : Value → Shared → Prop} {N₀ : List (Addr × Obj)} {R : Value → List (Addr × Obj) → Prop}
    {cc cP : Addr} (c : CtrN w d u t cc cP N₀ R) (rest : List (Addr × Obj))
    (F : Fr g L s.heap m) (N : News g L s.heap news) (X : (hd.heap_1 w.params).In g) (T : Top p loose mean mg mb g) (C : CodeHd g cc cP)
    (hh : A.handled = none) (hd : A.depth ≤ d) (hu : A.units ≤ u) (h0 : ∀ q ∈ N₀, q ∈ news) (hr : ∀ q ∈ rest, q ∈ news) (hne : ∀ q ∈ N₀, AllNe q.1 rest)
    (h : ∀ v h' tk' N₁, R v N₁ → Fr g L h' m → News g L h' (N₁ ++ rest) → (∀ q ∈ N₁, (∃ q₀ ∈ N₀, q₀.1 = q.1) ∨ AllNe q.1 news) → Q v { s with heap := h', toks := tk' }) : wpAny (model PP w) A t Q E s := by
  refine lift (c p loose mean mg mb g s Q E X T C F.keep (fun q hq => ⟨(N q (h0 q hq)).1, (N q (h0 q hq)).2.2⟩) fun v h' tk' N₁ k hN r => h v h' tk' N₁ r ?_ ?_ ?_) hh hd hu
  · have hL : ∀ q ∈ N₀, q.1 ≠ L := fun q hq => (N q (h0 q hq)).2.1
    refine ⟨F.ns.at' fun o e => k _ o e hL, fun b o e => k b o (F.keep b o e) fun q hq qe => ?_, F.above⟩
    have := (N q (h0 q hq)).2.2
    rw [qe, e] at this; cases this
  · intro q hq
    rcases List.mem_append.mp hq with hq | hq
    · obtain ⟨e, hs⟩ := hN q hq
      rcases hs with ⟨q₀, hq₀, e₀⟩ | hs
      · have := N q₀ (h0 q₀ hq₀)
        rw [e₀] at this
        exact ⟨e, this.2⟩
      · refine ⟨e, fun qe => ?_, ?_⟩
        · obtain ⟨oL, _, _, hL, _⟩ := F.ns
          rw [qe, hL] at hs; cases hs
        · cases e' : g.get? q.1 with
          | none => rfl
          | some o' => have := F.keep _ _ e'; rw [hs] at this; cases this
    · have n := N q (hr q hq)
      exact ⟨k _ _ n.1 fun q₀ hq₀ => (AllNe.mem (hne q₀ hq₀) q hq).symm, n.2⟩
  · intro q hq
    rcases (hN q hq).2 with h1 | h1
    · exact .inl h1
    · refine .inr (AllNe.of fun q' hq' e => ?_)
      have := (N q' hq').1
      rw [e, h1] at this; cases this

/-- what the body of such a def must come to -/
def EndN (g : Heap) (L : Addr) (R : Value → List (Addr × Obj) → Prop) (s : Shared) (v : Value) (s' : Shared) : Prop :=
  ∃ h' tk' m' N₁, s' = { s with heap := h', toks := tk' } ∧ Fr g L h' m' ∧ News g L h' N₁ ∧ R v N₁

theorem enterN {w : World} {d u : Nat} {cc cP : Addr} {K : Frag} {name qual : Str} {params : Arguments} {body : List Stmt} {scope : Scope} {N₀ : List (Addr × Obj)} {R : Value → List (Addr × Obj) → Prop}
    {dV kV doc pm cdv ct oc : Value} {an od : Option Addr} {osl : Array (Option Value)} {f : Addr} {args : List Value} {kw : List (Str × Value)} {binds : List (Str × Value)} {m : Str → Option Value}
    (hK : K = hd.heap_1 w.params) (ho : K.lookup f = some ⟨oc, od, .func (fnOf name qual params body scope dV kV doc pm an cdv ct), osl⟩) (hcd : codeIn K cdv qual = true) (hroom : d < recursionLimit)
    (hbind : ∀ s, BindsTo s (fnOf name qual params body scope dV kV doc pm an cdv ct) ⟨args, kw⟩ binds)
    (hkind : (binds.all fun y => scope.names.lookup y.1 == some .local || scope.names.lookup y.1 == some .cell) = true) (hnd : ((cellsFrom 0 scope.names []).map (·.1)).Nodup)
    (hco : scope.isCoroutine = false) (hgen : scope.isGenerator = false) (hk : scope.kind = .function) (hm : ∀ L, (bindL (envOfC qual scope L f cdv).kindOf binds fun _ => none) = m)
    (h : ∀ (p : Program) (loose : List Str) (mean : ExcName → Option Value) (mg mb : Str → Option Value) (g : Heap) (L : Addr) (s : Shared) (tk : Nat) (cells : List (Addr × Obj)),
      (hd.heap_1 w.params).In g → Top p loose mean mg mb g → CodeHd g cc cP → Fr g L s.heap m → News g L s.heap (cells ++ N₀) →
      CellsAre (bindC (envOfC qual scope L f cdv).kindOf binds fun _ => none) (cellsFrom (L + 1) scope.names []) cells → (∀ q ∈ N₀, q.1 < L) →
      wpAny (model PP w) ((AA d u).deeper (envOfC qual scope L f cdv)) (execs body (envOfC qual scope L f cdv))
        (fun fl s' => EndN g L R s (match fl with | .ret v => v | _ => .none) s') (fun _ _ => False) s) :
    CtrN w d u (call (.ref f) args kw) cc cP N₀ R := by
  subst hK
  intro p loose mean mg mb g s Q E X T C k hN hQ
  refine wpAny_call ?_
  have hkeep : Keeps g (hideAll s.heap (N₀.map (·.1))) := fun b o e => hideAll_get _ (k b o e) fun q => by
    obtain ⟨q₀, hq₀, rfl⟩ := List.mem_map.mp q
    rw [(hN q₀ hq₀).2] at e; cases e
  refine codeAny_call_function hroom ((X.keeps k) _ _ ho) rfl hco hgen rfl (codeRec_of (X.keeps k) hcd) (hbind _ _ _ _ _ ?_)
  refine wpAny_newFunctionEnv_cells hk (kindsX hkind _) fun env' he s' x => ?_
  subst he
  refine ⟨(T.nolimit.keeps k).keeps x.toInCall.keep, codeAny_func ?_⟩
  obtain ⟨h₁, tk, rfl, _⟩ := x.done
  have hk₁ := x.toInCall.keep
  obtain ⟨cells, NC, Y⟩ := Cl.news (h₀ := s.heap) (Nat.le_refl _) fun n c hm => ⟨x.cell n c (lookup_of_mem_nodup (cellsFrom_names scope.names 0 (s.heap.objs.size + 1) [] [] rfl ▸ hnd) hm), x.above n c hm⟩
  have NN : News (hideAll s.heap (N₀.map (·.1))) s.heap.objs.size h₁ (cells ++ N₀) := fun q hq => by
    rcases List.mem_append.mp hq with hq | hq
    · refine ⟨(NC q hq).1, (NC q hq).2.1, ?_⟩
      cases e : (hideAll s.heap (N₀.map (·.1))).get? q.1 with
      | none => rfl
      | some o => have := (NC q hq).2.2; rw [of_hideAll _ e] at this; cases this
    · exact ⟨hk₁ _ _ (hN q hq).1, Nat.ne_of_lt (Heap.lt_size (hN q hq).1), hideAll_none _ (List.mem_map_of_mem hq)⟩
  refine wpAny_mono (h p loose mean mg mb (hideAll s.heap (N₀.map (·.1))) s.heap.objs.size { s with heap := h₁, toks := tk } tk cells (X.keeps hkeep) (T.keeps hkeep) (C.keeps hkeep)
    ⟨hm s.heap.objs.size ▸ x.toInCall.ns, fun b o e => hk₁ b o (of_hideAll _ e), Nat.le_of_eq (hideAll_size _ _)⟩ NN Y fun q hq => Heap.lt_size (hN q hq).1) (fun fl s' hl => ?_) fun _ _ y => y.elim
  obtain ⟨h', tk', m', N₁, rfl, F', N', r⟩ := hl
  refine hQ _ h' tk' N₁ (fun b o e hb => F'.keep b o (hideAll_get _ e fun q => ?_)) (fun q hq => ⟨(N' q hq).1, ?_⟩) r
  · obtain ⟨q₀, hq₀, e₀⟩ := List.mem_map.mp q
    exact hb q₀ hq₀ e₀
  · by_cases hm : q.1 ∈ N₀.map (·.1)
    · obtain ⟨q₀, hq₀, e₀⟩ := List.mem_map.mp hm
      exact .inl ⟨q₀, hq₀, e₀⟩
    · right
      cases e : s.heap.get? q.1 with
      | none => rfl
      | some o => have := (N' q hq).2.2; rw [hideAll_get _ e hm] at this; cases this

/-- a lambda entered: all of the heap is kept -/
theorem enterL {w : World} {A : Around} {s : Shared} {E : Value → Shared → Prop} {Q : Value → Shared → Prop} {name qual : Str} {params : Arguments} {body : Expr} {scope : Scope} {cl : List (Str × Addr)} {pm ctv : Value} {c' : Addr} {f : Addr} {args : List Value} {binds : List (Str × Value)}
    (hlim : s.heap.NoLimit) (ho : s.heap.get? f = some (kla_obj name qual params body scope cl pm c' ctv)) (hcd : s.heap.CodeRec (.ref c') qual) (hroom : A.depth < recursionLimit)
    (hbind : bindArgs (kla_fn name qual params body scope cl pm (.ref c') ctv) ⟨args, []⟩ = pure binds) (hloc : ∀ y ∈ binds, scope.names.lookup y.1 = some .local)
    (hco : scope.isCoroutine = false) (hgen : scope.isGenerator = false) (hk : scope.kind = .function) (hcell : ∀ x ∈ scope.names, x.2 ≠ .cell)
    (h : ∀ L h₁, Fr s.heap L h₁ (fun y => binds.reverse.lookup y) → News s.heap L h₁ [] →
      wpAny (model PP w) (A.deeper (envX qual scope L f (.ref c') cl)) (eval body (envX qual scope L f (.ref c') cl)) Q (fun _ _ => False) { s with heap := h₁, toks := s.toks + binds.length }) :
    wpAny (model PP w) A (call (.ref f) args) Q E s := by
  refine wpAny_call ?_
  refine kla_callFunE hroom ho rfl hco hgen rfl hcd ?_
  rw [hbind]
  refine wpAny_pure (wpAny_newFunctionEnv hcell hloc (fun h₁ hns hsb => ⟨hlim.fresh _ hsb, ?_⟩) hk)
  show codeAny _ _ (.expr body (envX qual scope s.heap.objs.size f (.ref c') cl)) _ _
  have hk₁ : ∀ b o, s.heap.get? b = some o → h₁.get? b = some o := fun b o e => hsb.extBut b o (Nat.ne_of_lt (Heap.lt_size e)) (Heap.get?_push_of_some _ e)
  exact kla_codeExpr (wpAny_mono (h _ h₁ ⟨hns, hk₁, Nat.le_refl _⟩ News.nil) (fun _ _ e => e) fun _ _ e => e.elim)

/-- a name that a lambda closes over, its cell in the base -/
theorem free_base {M : Model} {A : Around} {E : Value → Shared → Prop} {s : Shared} {g : Heap} {L f : Addr} {m : Str → Option Value} {qual : Str} {scope : Scope} {cd : Value} {cl : List (Str × Addr)} {c : Addr} {o : Obj} {y : Str} {pos : Pos} {v : Value} {Q : Value → Shared → Prop}
    (F : Fr g L s.heap m) (hc : cl.lookup y = some c) (hg : g.get? c = some o) (hd : o.data = .cell (some v)) (h : Q v s)
    (hk : scope.kind = .function) (hx : (envX qual scope L f cd cl).kindOf y = some .free) (hb : (y == ("__debug__" : Str)) = false) (hn : (y == ("__classdict__" : Str)) = false := by decide) :
    wpAny M A (eval (.Name y pos) (envX qual scope L f cd cl)) Q E s :=
  wpAny_Name (wpAny_loadName_free hk hx hc ⟨o, F.keep _ _ hg, hd⟩ h hn) hb
end Mine

end
section
open PySem PySem.W PyProof.Rows PyProof.Rows.LCg PySem.Calls PySem.Spec
namespace Mine
section
variable {prog : Program} {w : World} {A : Around} {E : Value → Shared → Prop} {s : Shared} {h₀ : Heap} {L : Addr} {m : Str → Option Value} {env : Env}
/-- a state that is as the one ahead, but for objects off the heap's ledger -/
inductive Kp (h₀ : Heap) (L : Addr) (m : Str → Option Value) (gs : Array GenState) (dr : Drawn) (os : OsState) (news : List (Addr × Obj)) : Shared → Prop
  | mk {h' : Heap} {tk' : Nat} (F : Fr h₀ L h' m) (N : News h₀ L h' news) : Kp h₀ L m gs dr os news { heap := h', gens := gs, drawn := dr, toks := tk', os := os }
/-- the loop of such a comprehension, ahead of its turn i -/
inductive CellInv (h₀ : Heap) (L : Addr) (m : Str → Option Value) (news : List (Addr × Obj)) (s₂ : Shared) (I C c D : Addr) (n : Nat) (p : Nat → Bool) (g : Nat → Int) : Nat → Shared → Prop
  | mk {h' : Heap} {tk : Nat} (i : Nat) (ys : List Value) {v : Option Value} (hi : i ≤ n) (hyl : ys.length ≤ i) (hys : IntsAre ys (((List.range i).filter p).map g)) (hst : IsRangeIter h' I ((0 : Int) + (i : Nat) * 1) ((n : Int) - (i : Nat)) 1)
      (F : Fr h₀ L h' m) (hn : h'.Ns C (fun _ => none)) (hc : h'.IsCell c v) (N : News h₀ L h' ((D, lst ys) :: news)) : CellInv h₀ L m news s₂ I C c D n p g (n + 1 - i) { heap := h', gens := s₂.gens, drawn := s₂.drawn, toks := tk, os := s₂.os }
theorem block_cell {ct elt iter : Expr} {x : Str} {px : Pos} {scope : Scope} {cl : List (Str × Addr)} {pos : Pos} {I : Addr} {s₂ : Shared} {news : List (Addr × Obj)} {RR : Value → Addr → Result → Shared → Prop}
    (hh : A.handled = none) (hkind : scope.kind = .function)
    (hcf : ∀ k, cellsFrom k scope.names cl = (x, k) :: cl) (hpc : ∀ h : Heap, pushCells h scope.names = h.push { cls := .type "cell", data := .cell none })
    (hxk : ∀ C c, (compEnvC scope ((x, c) :: cl) C env).kindOf x = some .cell)
    (p : Nat → Bool) (g : Nat → Int) (n : Nat) (hsz : n ≤ sizeLine)
    (hst : IsRangeIter s₂.heap I 0 (n : Int) 1) (F : Fr h₀ L s₂.heap m) (N : News h₀ L s₂.heap news) (hIL : L ≠ I) (hI₀ : h₀.get? I = none) (off : AllNe I news)
    (hT : ∀ i tv I oI C oC c oc D ys hh tk (E' : Value → Shared → Prop), i < n → oc.data = .cell (some (.int (i : Int) tv)) → Fr h₀ L hh m → News h₀ L hh ((I, oI) :: (C, oC) :: (c, oc) :: (D, lst ys) :: news) →
        wpAny (model prog w) A (isTrue ct (compEnvC scope ((x, c) :: cl) C env) (eval ct (compEnvC scope ((x, c) :: cl) C env)))
          (fun ok s₃ => ok = p i ∧ Kp h₀ L m s₂.gens s₂.drawn s₂.os ((I, oI) :: (C, oC) :: (c, oc) :: (D, lst ys) :: news) s₃) E' { s₂ with heap := hh, toks := tk })
    (hElt : ∀ i tv I oI C oC c oc D ys hh tk (E' : Value → Shared → Prop), i < n → p i = true → oc.data = .cell (some (.int (i : Int) tv)) → Fr h₀ L hh m → News h₀ L hh ((I, oI) :: (C, oC) :: (c, oc) :: (D, lst ys) :: news) →
        wpAny (model prog w) A (eval elt (compEnvC scope ((x, c) :: cl) C env))
          (fun y s₃ => (∃ t, y = .int (g i) t) ∧ Kp h₀ L m s₂.gens s₂.drawn s₂.os ((I, oI) :: (C, oC) :: (c, oc) :: (D, lst ys) :: news) s₃) E' { s₂ with heap := hh, toks := tk })
    (hRR : ∀ D C hh tk ys m', IntsAre ys (((List.range n).filter p).map g) → Fr h₀ L hh m → News h₀ L hh ((D, lst ys) :: news) → AllNe D news → hh.Ns C m' → h₀.get? C = none → C ≠ L → C ≠ D → (∀ q ∈ news, q.1 ≠ C) → RR (.ref D) C (.ok .next) { s₂ with heap := hh, toks := tk }) :
    wpAny (model prog w) A (newList []) (fun acc s₃ => wpAny (model prog w) A (newFunctionEnv scope env.globals cl [] env.qual none .none (some env)) (fun cenv s₄ =>
      codeAny (model prog w) A (.compStart (.ListComp elt [⟨.Name x px, iter, [ct], 0⟩] scope pos) 0 (.ref I) acc { cenv with scope := relabel scope env }) (RR acc cenv.locals) s₄) E s₃) E s₂ := by
  refine wpAny_newObj_type ?_
  simp only [newFunctionEnv, Option.isSome_some, if_true]
  refine wpAny_bind (wpAny_alloc ?_)
  refine wpAny_bind (wpAny_layCells _ (fun name kind cells => by cases hkc : kind == NameKind.cell <;> simp [hkc]) _ _ _ _ ?_)
  rw [hcf, hpc]
  refine wpAny_bind ?_
  rw [List.forIn_nil]
  refine wpAny_pure (wpAny_pure ?_)
  dsimp only
  generalize hH2 : s₂.heap.push { cls := .type "list", dict := none, data := .seq ([] : List Value).toArray } = H2
  have hC : H2.objs.size = s₂.heap.objs.size + 1 := by rw [← hH2, Heap.size_push]
  generalize hH3 : H2.push { cls := .type "dict", data := .dict #[] } = H3
  have hc : H3.objs.size = H2.objs.size + 1 := by rw [← hH3, Heap.size_push]
  generalize hH4 : H3.push { cls := .type "cell", data := .cell none } = h₁
  have e23 : ∀ b o, H2.get? b = some o → H3.get? b = some o := fun b o e => hH3 ▸ Heap.get?_push_of_some _ e
  have e34 : ∀ b o, H3.get? b = some o → h₁.get? b = some o := fun b o e => hH4 ▸ Heap.get?_push_of_some _ e
  have old : ∀ b o, s₂.heap.get? b = some o → h₁.get? b = some o := fun b o e => e34 _ _ (e23 _ _ (hH2 ▸ Heap.get?_push_of_some _ e))
  have hIlt : @LT.lt Nat _ I s₂.heap.objs.size := Heap.lt_size hst
  have hLlt : @LT.lt Nat _ L s₂.heap.objs.size := F.ns.lt
  have fresh₀ : ∀ a, s₂.heap.objs.size ≤ a → h₀.get? a = none := fun a ha => by
    cases e : h₀.get? a with
    | none => rfl
    | some o' => exact absurd (Heap.lt_size (F.keep a o' e)) (Nat.not_lt.mpr ha)
  have hacc : h₁.get? s₂.heap.objs.size = some (lst []) := e34 _ _ (e23 _ _ (hH2 ▸ Heap.get?_push_size _ rfl))
  have hCns : h₁.Ns H2.objs.size (fun _ => none) := by
    have := (Heap.Ns.new H2 (.type "dict"))
    rw [hH3] at this
    exact this.keeps e34
  have hcell₁ : h₁.IsCell H3.objs.size none := ⟨_, hH4 ▸ Heap.get?_push_size _ rfl, rfl⟩
  have W : Walks prog w A I [I] [I] n (fun i v => ∃ t, v = .int ((0 : Int) + (i : Int)) t) (fun i h => IsRangeIter h I ((0 : Int) + (i : Nat) * 1) ((n : Int) - (i : Nat)) 1) := range_walks hh 0 n
  have hst₁ : IsRangeIter h₁ I ((0 : Int) + ((0 : Nat) : Int) * 1) ((n : Int) - ((0 : Nat) : Int)) 1 := by simpa using old _ _ hst
  have dCD : H2.objs.size ≠ s₂.heap.objs.size := by omega
  have dcD : H3.objs.size ≠ s₂.heap.objs.size := by omega
  have dcC : H3.objs.size ≠ H2.objs.size := by omega
  have loop : ∀ s₃ : Shared, s₃ = { s₂ with heap := h₁ } →
      codeAny (model prog w) A (.compLoop (.ListComp elt [⟨.Name x px, iter, [ct], 0⟩] scope pos) 0 (.ref I) (.ref s₂.heap.objs.size) (compEnvC scope ((x, H3.objs.size) :: cl) H2.objs.size env))
        (RR (.ref s₂.heap.objs.size) H2.objs.size) s₃ := by
    rintro s₃ rfl
    refine codeAny_compLoop_tests
      (CellInv h₀ L m news s₂ I H2.objs.size H3.objs.size s₂.heap.objs.size n p g) ?_ (n + 1)
      ⟨0, [], Nat.zero_le _, Nat.le_refl _, .nil, hst₁, F.keeps old, hCns, hcell₁, fun q hq => ?_⟩
    · rintro k s' @⟨h', tk, i, ys, v, hi, hyl, hys, hst', F', hn', hc', N'⟩
      have hIC : I ≠ H2.objs.size := Nat.ne_of_lt (by omega)
      have hIc : I ≠ H3.objs.size := Nat.ne_of_lt (by omega)
      have hID : I ≠ s₂.heap.objs.size := Nat.ne_of_lt hIlt
      have hLc : L ≠ H3.objs.size := Nat.ne_of_lt (by omega)
      have hLC : L ≠ H2.objs.size := Nat.ne_of_lt (by omega)
      have hc₀ : h₀.get? H3.objs.size = none := fresh₀ _ (by omega)
      have hC₀ : h₀.get? H2.objs.size = none := fresh₀ _ (by omega)
      have hD₀ : h₀.get? s₂.heap.objs.size = none := fresh₀ _ (Nat.le_refl _)
      have nlt : ∀ q ∈ news, @LT.lt Nat _ q.1 s₂.heap.objs.size := fun q hq => Heap.lt_size (N q hq).1
      by_cases hlt : i < n
      · refine W.item i _ _ _ hlt hst' fun v' h₂ tk₂ hPv hst₂ hk₂ => ?_
        obtain ⟨tv, rfl⟩ := hPv
        rw [Int.zero_add]
        have hk₂' : ∀ b o, b ≠ I → h'.get? b = some o → h₂.get? b = some o := fun b o hb e => hk₂ b o (by simpa using hb) e
        have hc₂ : h₂.IsCell H3.objs.size v := by obtain ⟨oc, e, d⟩ := hc'; exact ⟨oc, hk₂' _ _ hIc.symm e, d⟩
        refine wpAny_assign_Name (wpAny_storeName_cell (by simp [compEnvC, relabel, hkind]) (hxk _ _) (by simp [compEnvC]) hc₂ (fun h₃ hc₃ hs₃ => ?_))
        refine wpAny_tests_one ?_
        have hst₃ : IsRangeIter h₃ I ((0 : Int) + ((i + 1 : Nat) : Int) * 1) ((n : Int) - ((i + 1 : Nat) : Int)) 1 := hs₃.extBut _ _ hIc hst₂
        obtain ⟨oc, heC, hoc⟩ := hc₃
        have F₂ : Fr h₀ L h₂ m := fr_but F' hk₂ hIL hI₀
        have F₃ : Fr h₀ L h₃ m := F₂.change hs₃ hLc.symm hc₀
        have N₂ : News h₀ L h₂ ((s₂.heap.objs.size, lst ys) :: news) := news_but N' hk₂ fun q hq => by
          rcases List.mem_cons.mp hq with rfl | hq
          · exact hID.symm
          · exact AllNe.mem off q hq
        obtain ⟨oC, heCn, hoC⟩ := ns_obj (hn'.at' fun o e => hk₂' _ o hIC.symm e)
        have N₃ : News h₀ L h₃ ((I, _) :: (H2.objs.size, oC) :: (H3.objs.size, oc) :: (s₂.heap.objs.size, lst ys) :: news) := fun q hq => by
          rcases List.mem_cons.mp hq with rfl | hq
          · exact ⟨hst₃, hIL.symm, hI₀⟩
          · rcases List.mem_cons.mp hq with rfl | hq
            · exact ⟨hs₃.extBut _ _ dcC.symm heCn, hLC.symm, hC₀⟩
            · rcases List.mem_cons.mp hq with rfl | hq
              · exact ⟨heC, hLc.symm, hc₀⟩
              · refine ⟨hs₃.extBut _ _ ?_ (N₂ q hq).1, (N₂ q hq).2⟩
                rcases List.mem_cons.mp hq with rfl | hq
                · exact dcD.symm
                · have := nlt q hq; exact Nat.ne_of_lt (by omega)
        refine wpAny_mono (hT i tv I _ H2.objs.size oC H3.objs.size oc s₂.heap.objs.size ys h₃ _ _ hlt hoc F₃ N₃) (fun ok s₄ h₄ => ?_) fun _ _ e => e
        obtain ⟨rfl, @⟨h₄, tk₄, F₄, N₄⟩⟩ := h₄
        have key : ∀ h₅ : Heap, News h₀ L h₅ ((I, _) :: (H2.objs.size, oC) :: (H3.objs.size, oc) :: (s₂.heap.objs.size, lst ys) :: news) → IsRangeIter h₅ I ((0 : Int) + ((i + 1 : Nat) : Int) * 1) ((n : Int) - ((i + 1 : Nat) : Int)) 1 ∧ h₅.Ns H2.objs.size (fun _ => none) ∧ h₅.IsCell H3.objs.size (some (.int (i : Int) tv)) ∧ News h₀ L h₅ ((s₂.heap.objs.size, lst ys) :: news) :=
          fun h₅ N₅ => ⟨(N₅ _ (.head _)).1, hoC.ns (N₅ _ (.tail _ (.head _))).1, ⟨oc, (N₅ _ (.tail _ (.tail _ (.head _)))).1, hoc⟩, fun q hq => N₅ q (.tail _ (.tail _ (.tail _ hq)))⟩
        have hflt : ((List.range (i + 1)).filter p).map g = ((List.range i).filter p).map g ++ (if p i = true then [g i] else []) := by
          rw [List.range_succ, List.filter_append, List.map_append]
          by_cases hp : p i = true <;> simp [hp]
        by_cases hp : p i = true
        · rw [if_pos hp]
          refine wpAny_mono (hElt i tv I _ H2.objs.size oC H3.objs.size oc s₂.heap.objs.size ys h₄ tk₄ _ hlt hp hoc F₄ N₄) (fun y s₅ h₅ => ?_) fun _ _ e => e
          obtain ⟨⟨ty, rfl⟩, @⟨h₅, tk₅, F₅, N₅⟩⟩ := h₅
          obtain ⟨k1, k2, k3, k4⟩ := key h₅ N₅
          refine append_at (hsz := by show ys.toArray.size ≤ sizeLine; rw [List.size_toArray]; exact Nat.le_trans (Nat.le_trans hyl hi) hsz) (k4 _ (.head _)).1 fun h₆ hs₆ hD₆ => ?_
          refine ⟨n + 1 - (i + 1), by omega, i + 1, ys ++ [.int (g i) ty], hlt, by rw [List.length_append, List.length_singleton]; exact Nat.succ_le_succ hyl, ?_, hs₆.extBut _ _ hID k1, F₅.change hs₆ (Nat.ne_of_gt hLlt) hD₀, k2.sameBut hs₆ dCD, k3.sameBut hs₆ dcD, fun q hq => ?_⟩
          · rw [hflt, if_pos hp]; exact IntsAre.append hys (.cons _ _ .nil)
          · rcases List.mem_cons.mp hq with rfl | hq
            · exact ⟨hD₆.trans (congrArg some (lst_snoc ys _)), Nat.ne_of_gt hLlt, hD₀⟩
            · exact ⟨hs₆.extBut _ _ (Nat.ne_of_lt (nlt q hq)) (k4 q (.tail _ hq)).1, (k4 q (.tail _ hq)).2⟩
        · rw [if_neg hp]
          obtain ⟨k1, k2, k3, k4⟩ := key h₄ N₄
          exact ⟨n + 1 - (i + 1), by omega, i + 1, ys, hlt, Nat.le_succ_of_le hyl, by rw [hflt, if_neg hp, List.append_nil]; exact hys, k1, F₄, k2, k3, k4⟩
      · obtain rfl : i = n := Nat.le_antisymm hi (Nat.not_lt.mp hlt)
        refine W.done _ _ _ hst' fun h₂ tk₂ hk₂ => ?_
        refine hRR _ _ h₂ tk₂ ys _ hys (fr_but F' hk₂ hIL hI₀) (news_but N' hk₂ fun q hq => ?_) (AllNe.of fun q hq => Nat.ne_of_lt (nlt q hq)) (hn'.at' fun o e => hk₂ _ o (by simpa using hIC.symm) e) hC₀ hLC.symm dCD (fun q hq => Nat.ne_of_lt (by have := nlt q hq; omega))
        rcases List.mem_cons.mp hq with rfl | hq
        · exact hID.symm
        · exact AllNe.mem off q hq
    · rcases List.mem_cons.mp hq with rfl | hq
      · exact ⟨hacc, Nat.ne_of_gt hLlt, fresh₀ _ (Nat.le_refl _)⟩
      · exact ⟨old _ _ (N q hq).1, (N q hq).2⟩
  exact codeAny_compStart_list (loop _ rfl) (W.self 0 _ _ _ hst₁ (loop _ rfl))
/-- what the source of such a comprehension must bring -/
inductive CellSrc (prog : Program) (w : World) (A : Around) (h₀ : Heap) (L : Addr) (m : Str → Option Value) (env : Env) (ct elt : Expr) (x : Str) (scope : Scope) (cl : List (Str × Addr)) (n : Nat) (p : Nat → Bool) (g : Nat → Int) (Q : Value → Shared → Prop) : Value → Shared → Prop
  | mk {r : Addr} {b : Int} {t u v : Tok} {news : List (Addr × Obj)} {s₁ : Shared}
      (hh : A.handled = none)
      (F : Fr h₀ L s₁.heap m)
      (N : News h₀ L s₁.heap news)
      (hr : IsRange s₁.heap r 0 b 1 t u v)
      (hsm : Builtin.Range.small 0 b 1 = true)
      (hn : Builtin.Range.rangeSize 0 b 1 = (n : Int))
      (hT : (∀ i tv I oI C oC c oc D ys hh tk (E' : Value → Shared → Prop), i < n → oc.data = .cell (some (.int (i : Int) tv)) → Fr h₀ L hh m → News h₀ L hh ((I, oI) :: (C, oC) :: (c, oc) :: (D, lst ys) :: news) →
        wpAny (model prog w) A (isTrue ct (compEnvC scope ((x, c) :: cl) C env) (eval ct (compEnvC scope ((x, c) :: cl) C env)))
          (fun ok s₂ => ok = p i ∧ Kp h₀ L m s₁.gens s₁.drawn s₁.os ((I, oI) :: (C, oC) :: (c, oc) :: (D, lst ys) :: news) s₂) E' { s₁ with heap := hh, toks := tk }))
      (hE : (∀ i tv I oI C oC c oc D ys hh tk (E' : Value → Shared → Prop), i < n → p i = true → oc.data = .cell (some (.int (i : Int) tv)) → Fr h₀ L hh m → News h₀ L hh ((I, oI) :: (C, oC) :: (c, oc) :: (D, lst ys) :: news) →
        wpAny (model prog w) A (eval elt (compEnvC scope ((x, c) :: cl) C env))
          (fun y s₂ => (∃ t, y = .int (g i) t) ∧ Kp h₀ L m s₁.gens s₁.drawn s₁.os ((I, oI) :: (C, oC) :: (c, oc) :: (D, lst ys) :: news) s₂) E' { s₁ with heap := hh, toks := tk }))
      (hQ : (∀ D hh tk ys, IntsAre ys (((List.range n).filter p).map g) → Fr h₀ L hh m → News h₀ L hh ((D, lst ys) :: news) → AllNe D news → Q (.ref D) { s₁ with heap := hh, toks := tk })) :
      CellSrc prog w A h₀ L m env ct elt x scope cl n p g Q (.ref r) s₁
/-- a comprehension over a range whose target a nested one closes over (so it is a cell), with one test: its items are ints -/
theorem comp_cell {ct elt iter : Expr} {x : Str} {px : Pos} {scope : Scope} {cl : List (Str × Addr)} {pos : Pos} {Q : Value → Shared → Prop} (_ : Fr h₀ L s.heap m)
    (hclos : closureFor scope env = pure cl) (hkind : scope.kind = .function) (hnames : ∀ y ∈ scope.names, y.2 = .local → scope.names.lookup y.1 = some .local)
    (hcf : ∀ k, cellsFrom k scope.names cl = (x, k) :: cl) (hpc : ∀ h : Heap, pushCells h scope.names = h.push { cls := .type "cell", data := .cell none })
    (hxk : ∀ C c, (compEnvC scope ((x, c) :: cl) C env).kindOf x = some .cell)
    (p : Nat → Bool) (g : Nat → Int) (n : Nat) (hsz : n ≤ sizeLine)
    (h : wpAny (model prog w) A (eval iter env) (fun xv s₁ => Hold (CellSrc prog w A h₀ L m env ct elt x scope cl n p g Q xv s₁)) E s)
    (hs : ∀ x, foldedSetIterable iter env x = pure x := by intro _; rfl) :
    wpAny (model prog w) A (eval (.ListComp elt [⟨.Name x px, iter, [ct], 0⟩] scope pos) env) Q E s := by
  rw [eval_ListComp]
  refine wpAny_comprehension_free (use := none) rfl hs hclos hkind hnames (wpAny_mono h (fun xv s₁ h₁ => ?_) fun _ _ e => e)
  obtain @⟨r, b, t, u, v, news, _, hh, F, N, hr, hsm, hn, hT, hElt, hQ⟩ := h₁
  refine wpAny_pyIter_range hr hsm ?_
  refine block_cell hh hkind hcf hpc hxk p g n hsz (by show IsRangeIter _ _ _ _ _; rw [hn]; exact Heap.get?_push_size _ rfl) (F.push _) (N.grown fun _ _ e => Heap.get?_push_of_some _ e) (Nat.ne_of_lt F.ns.lt) (next_is_new F)
    (AllNe.of fun q hq => Nat.ne_of_lt (Heap.lt_size (N q hq).1)) hT hElt fun D C hh' tk ys m' hys F' N' off hn' hC₀ hCL hCD offC => ?_
  refine ⟨m', hn', fun h'' hs'' => hQ D h'' tk ys hys (F'.change hs'' hCL hC₀) (fun q hq => ⟨hs''.extBut _ _ ?_ (N' q hq).1, (N' q hq).2⟩) off⟩
  rcases List.mem_cons.mp hq with rfl | hq
  · exact hCD.symm
  · exact offC q hq
/-- the ints of a list that meet a test -/
theorem rest_filter {ct elt : Expr} {x : Str} {scope : Scope} {cl : List (Str × Addr)} {S : List (Addr × Obj) → Prop} {Fin : List Value → List (Addr × Obj) → Prop} {news : List (Addr × Obj)} {vs : List Value} {ns : List Int} (hi : IntsAre vs ns) (pT : Int → Bool) (hS : S news)
    (turn : ∀ k t I oI C oC D m₂ ys h tk (E' : Value → Shared → Prop), k ∈ ns → NsObj oC m₂ → m₂ x = some (.int k t) → Fr h₀ L h m → News h₀ L h ((I, oI) :: (C, oC) :: (D, lst ys) :: news) →
      wpAny (model prog w) A (isTrue ct (compEnvC scope cl C env) (eval ct (compEnvC scope cl C env))) (fun ok s' => Hold (ok = pT k ∧ Kp h₀ L m s.gens s.drawn s.os ((I, oI) :: (C, oC) :: (D, lst ys) :: news) s')) E' { s with heap := h, toks := tk })
    (elt' : ∀ k t I oI C oC D m₂ ys h tk (E' : Value → Shared → Prop), k ∈ ns → NsObj oC m₂ → m₂ x = some (.int k t) → Fr h₀ L h m → News h₀ L h ((I, oI) :: (C, oC) :: (D, lst ys) :: news) →
      wpAny (model prog w) A (eval elt (compEnvC scope cl C env)) (fun y s' => Hold ((∃ t, y = .int k t) ∧ Kp h₀ L m s.gens s.drawn s.os ((I, oI) :: (C, oC) :: (D, lst ys) :: news) s')) E' { s with heap := h, toks := tk })
    (fin : ∀ ys, IntsAre ys (ns.filter pT) → Fin ys news) : LCt.CompRestT prog w A h₀ L m env ct elt x scope cl s S (fun i v => vs.toArray[i]? = some v) Fin vs.toArray.size 0 [] news := by
  have hlen : vs.toArray.size = ns.length := by rw [List.size_toArray]; exact hi.length
  rw [hlen]
  have key : ∀ (j i : Nat) (ys : List Value), i + j = ns.length → IntsAre ys ((ns.take i).filter pT) → LCt.CompRestT prog w A h₀ L m env ct elt x scope cl s S (fun i v => vs.toArray[i]? = some v) Fin j i ys news := by
    intro j
    induction j with
    | zero =>
      intro i ys hij hy
      have e : i = ns.length := by omega
      subst e
      rw [List.take_length] at hy
      exact LCt.CompRestT.zero (fin ys hy)
    | succ j ih =>
      intro i ys hij hy
      refine LCt.CompRestT.succ ?_
      intro v I oI C oC D m₂ h tk E' hv hC hx F N off ne
      obtain ⟨k, t, rfl, hk⟩ := IntsAre.at hi i v (by simpa using hv)
      have htake : (ns.take (i + 1)).filter pT = (ns.take i).filter pT ++ (if pT k = true then [k] else []) := by
        rw [List.take_add_one, hk, List.filter_append]
        by_cases hp : pT k = true <;> simp [hp]
      refine wpAny_mono (turn k t I oI C oC D m₂ ys h tk E' (List.mem_of_getElem? hk) hC hx F N) (fun ok s₂ hq => ?_) fun _ _ e => e
      obtain ⟨rfl, @⟨h', tk', F', N'⟩⟩ := hq
      by_cases hp : pT k = true
      · rw [if_pos hp]
        refine wpAny_mono (elt' k t I oI C oC D m₂ ys h' tk' E' (List.mem_of_getElem? hk) hC hx F' N') (fun y s₃ hq => ?_) fun _ _ e => e
        obtain ⟨⟨t', rfl⟩, @⟨h'', tk'', F'', N''⟩⟩ := hq
        refine ⟨h'', tk'', news, rfl, F'', N'', off, hS, ih (i + 1) _ (by omega) ?_⟩
        rw [htake, if_pos hp]
        exact IntsAre.append hy (.cons _ _ .nil)
      · rw [if_neg hp]
        refine ⟨h', tk', news, rfl, F', N', off, hS, ih (i + 1) _ (by omega) ?_⟩
        rw [htake, if_neg hp, List.append_nil]
        exact hy
  exact key ns.length 0 [] (by omega) .nil
end
end Mine

end
section
open PySem PySem.W PyProof.Rows PySem.Calls PySem.Spec
namespace Mine
open LCg
section
variable {prog : Program} {w : World} {A : Around} {h₀ : Heap} {L : Addr} {m : Str → Option Value} {env : Env} {elt : Expr} {x : Str} {scope : Scope} {cl : List (Str × Addr)} {s : Shared} {S : List (Addr × Obj) → Prop} {P : Nat → Value → Prop} {Fin : List Value → List (Addr × Obj) → Prop} {news : List (Addr × Obj)}
theorem strs_snoc {y : Str} {t : Tok} : ∀ {vs : List Value} {ys : List Str}, StrsAre vs ys → StrsAre (vs ++ [.str y t]) (ys ++ [y])
  | _, _, .nil => .cons y t .nil
  | _, _, .cons z u r => .cons z u (strs_snoc r)
/-- the texts that a comprehension without a test makes of ints -/
theorem rest_strs {n : Nat} {ks : List Int} (g : Int → Str) (hks : ks.length = n) (hS : S news) (hP : ∀ i v, i < n → P i v → ∃ k t, ks[i]? = some k ∧ v = .int k t)
    (turn : ∀ k t I oI C oC D m₂ ys h tk (E' : Value → Shared → Prop), k ∈ ks → NsObj oC m₂ → m₂ x = some (.int k t) → Fr h₀ L h m → News h₀ L h ((I, oI) :: (C, oC) :: (D, lst ys) :: news) →
      wpAny (model prog w) A (eval elt (compEnvC scope cl C env)) (fun y s' => Hold ((∃ t, y = .str (g k) t) ∧ Kp h₀ L m s.gens s.drawn s.os ((I, oI) :: (C, oC) :: (D, lst ys) :: news) s')) E' { s with heap := h, toks := tk })
    (fin : ∀ ys, StrsAre ys (ks.map g) → Fin ys news) : CompRest prog w A h₀ L m env elt x scope cl s S P Fin n 0 [] news := by
  have key : ∀ (j i : Nat) (ys : List Value), i + j = n → StrsAre ys ((ks.take i).map g) → CompRest prog w A h₀ L m env elt x scope cl s S P Fin j i ys news := by
    intro j
    induction j with
    | zero =>
      intro i ys hi hy
      have e : i = ks.length := by omega
      subst e
      rw [List.take_length] at hy
      exact CompRest.zero (fin ys hy)
    | succ j ih =>
      intro i ys hi hy
      refine CompRest.succ ?_
      intro v I oI C oC D m₂ h tk E' hv hC hx F N off ne
      obtain ⟨k, t, hk, hv'⟩ := hP i v (by omega) hv
      rw [hv'] at hx
      refine wpAny_mono (turn k t I oI C oC D m₂ ys h tk E' (List.mem_of_getElem? hk) hC hx F N) (fun y s₂ hq => ?_) fun _ _ e => e
      obtain ⟨⟨t', rfl⟩, @⟨h', tk', F', N'⟩⟩ := hq
      refine ⟨h', tk', news, rfl, F', N', off, hS, ih (i + 1) _ (by omega) ?_⟩
      rw [List.take_add_one, hk]
      simpa using strs_snoc hy
  exact key n 0 [] (by omega) (by simp only [List.take_zero, List.map_nil]; exact .nil)
theorem rest_ints {n : Nat} {ks : List Int} (g : Int → Int) (hks : ks.length = n) (hS : S news) (hP : ∀ i v, i < n → P i v → ∃ k t, ks[i]? = some k ∧ v = .int k t)
    (turn : ∀ k t I oI C oC D m₂ ys h tk (E' : Value → Shared → Prop), k ∈ ks → NsObj oC m₂ → m₂ x = some (.int k t) → Fr h₀ L h m → News h₀ L h ((I, oI) :: (C, oC) :: (D, lst ys) :: news) →
      wpAny (model prog w) A (eval elt (compEnvC scope cl C env)) (fun y s' => Hold ((∃ t, y = .int (g k) t) ∧ Kp h₀ L m s.gens s.drawn s.os ((I, oI) :: (C, oC) :: (D, lst ys) :: news) s')) E' { s with heap := h, toks := tk })
    (fin : ∀ ys, IntsAre ys (ks.map g) → Fin ys news) : CompRest prog w A h₀ L m env elt x scope cl s S P Fin n 0 [] news := by
  have key : ∀ (j i : Nat) (ys : List Value), i + j = n → IntsAre ys ((ks.take i).map g) → CompRest prog w A h₀ L m env elt x scope cl s S P Fin j i ys news := by
    intro j
    induction j with
    | zero =>
      intro i ys hi hy
      have e : i = ks.length := by omega
      subst e
      rw [List.take_length] at hy
      exact CompRest.zero (fin ys hy)
    | succ j ih =>
      intro i ys hi hy
      refine CompRest.succ ?_
      intro v I oI C oC D m₂ h tk E' hv hC hx F N off ne
      obtain ⟨k, t, hk, hv'⟩ := hP i v (by omega) hv
      rw [hv'] at hx
      refine wpAny_mono (turn k t I oI C oC D m₂ ys h tk E' (List.mem_of_getElem? hk) hC hx F N) (fun y s₂ hq => ?_) fun _ _ e => e
      obtain ⟨⟨t', rfl⟩, @⟨h', tk', F', N'⟩⟩ := hq
      refine ⟨h', tk', news, rfl, F', N', off, hS, ih (i + 1) _ (by omega) ?_⟩
      rw [List.take_add_one, hk]
      simpa using IntsAre.append hy (.cons (g k) t' .nil)
  exact key n 0 [] (by omega) (by simp only [List.take_zero, List.map_nil]; exact .nil)
theorem p_list {vs : List Value} {ns : List Int} (hi : IntsAre vs ns) : ∀ i v, i < vs.toArray.size → vs.toArray[i]? = some v → ∃ k t, ns[i]? = some k ∧ v = .int k t := fun i v _ hv => by
  obtain ⟨k, t, e, hk⟩ := IntsAre.at hi i v (by simpa using hv)
  exact ⟨k, t, hk, e⟩
theorem p_range (a : Int) (n : Nat) : ∀ i v, i < n → (∃ t, v = Value.int (a + (i : Int)) t) → ∃ k t, (rangeKs a n)[i]? = some k ∧ v = .int k t := fun i v hi hv => by
  obtain ⟨t, e⟩ := hv
  exact ⟨a + (i : Int), t, by simp [rangeKs, hi], e⟩
/-- the items of a range that meet a test -/
theorem restT_range {ct : Expr} {ks : List Int} {n : Nat} (pT : Int → Bool) (hks : ks.length = n) (hS : S news) (hP : ∀ i v, i < n → P i v → ∃ k t, ks[i]? = some k ∧ v = .int k t)
    (turn : ∀ k t I oI C oC D m₂ ys h tk (E' : Value → Shared → Prop), k ∈ ks → NsObj oC m₂ → m₂ x = some (.int k t) → Fr h₀ L h m → News h₀ L h ((I, oI) :: (C, oC) :: (D, lst ys) :: news) →
      wpAny (model prog w) A (isTrue ct (compEnvC scope cl C env) (eval ct (compEnvC scope cl C env))) (fun ok s' => Hold (ok = pT k ∧ Kp h₀ L m s.gens s.drawn s.os ((I, oI) :: (C, oC) :: (D, lst ys) :: news) s')) E' { s with heap := h, toks := tk })
    (elt' : ∀ k t I oI C oC D m₂ ys h tk (E' : Value → Shared → Prop), k ∈ ks → NsObj oC m₂ → m₂ x = some (.int k t) → Fr h₀ L h m → News h₀ L h ((I, oI) :: (C, oC) :: (D, lst ys) :: news) →
      wpAny (model prog w) A (eval elt (compEnvC scope cl C env)) (fun y s' => Hold ((∃ t, y = .int k t) ∧ Kp h₀ L m s.gens s.drawn s.os ((I, oI) :: (C, oC) :: (D, lst ys) :: news) s')) E' { s with heap := h, toks := tk })
    (fin : ∀ ys, IntsAre ys (ks.filter pT) → Fin ys news) : LCt.CompRestT prog w A h₀ L m env ct elt x scope cl s S P Fin n 0 [] news := by
  have key : ∀ (j i : Nat) (ys : List Value), i + j = n → IntsAre ys ((ks.take i).filter pT) → LCt.CompRestT prog w A h₀ L m env ct elt x scope cl s S P Fin j i ys news := by
    intro j
    induction j with
    | zero =>
      intro i ys hij hy
      have e : i = ks.length := by omega
      subst e
      rw [List.take_length] at hy
      exact LCt.CompRestT.zero (fin ys hy)
    | succ j ih =>
      intro i ys hij hy
      refine LCt.CompRestT.succ ?_
      intro v I oI C oC D m₂ h tk E' hv hC hx F N off ne
      obtain ⟨k, t, hk, rfl⟩ := hP i v (by omega) hv
      have htake : (ks.take (i + 1)).filter pT = (ks.take i).filter pT ++ (if pT k = true then [k] else []) := by
        rw [List.take_add_one, hk, List.filter_append]
        by_cases hp : pT k = true <;> simp [hp]
      refine wpAny_mono (turn k t I oI C oC D m₂ ys h tk E' (List.mem_of_getElem? hk) hC hx F N) (fun ok s₂ hq => ?_) fun _ _ e => e
      obtain ⟨rfl, @⟨h', tk', F', N'⟩⟩ := hq
      by_cases hp : pT k = true
      · rw [if_pos hp]
        refine wpAny_mono (elt' k t I oI C oC D m₂ ys h' tk' E' (List.mem_of_getElem? hk) hC hx F' N') (fun y s₃ hq => ?_) fun _ _ e => e
        obtain ⟨⟨t', rfl⟩, @⟨h'', tk'', F'', N''⟩⟩ := hq
        refine ⟨h'', tk'', news, rfl, F'', N'', off, hS, ih (i + 1) _ (by omega) ?_⟩
        rw [htake, if_pos hp]
        exact IntsAre.append hy (.cons _ _ .nil)
      · rw [if_neg hp]
        refine ⟨h', tk', news, rfl, F', N', off, hS, ih (i + 1) _ (by omega) ?_⟩
        rw [htake, if_neg hp, List.append_nil]
        exact hy
  exact key n 0 [] (by omega) .nil
end
end Mine

end
section
open PySem PySem.W PyProof.Rows PySem.Calls PySem.Spec
namespace Mine
open LCg
section
variable {prog : Program} {w : World} {A : Around} {s : Shared} {env : Env} {h₀ : Heap} {x : Str} {px : Pos} {body : List Stmt} {Q : Flow → Shared → Prop}
/-- a loop whose target is a cell, behind its iterable -/
def LoopC (prog : Program) (w : World) (A : Around) (env : Env) (x : Str) (px : Pos) (body : List Stmt) (Q : Flow → Shared → Prop) (it : Value) (s₂ : Shared) : Prop :=
  codeAny (model prog w) A (.forLoop (.Name x px) it body [] env) (fun r s' => match r with | .ok f => Q f s' | .error e => cameBackBy (model prog w) A env (fun _ _ => False) e s') s₂
theorem For_cell {iter : Expr} {pos : Pos} (_ : env.kindOf x = some .cell)
    (h : wpAny (model prog w) A (eval iter env) (fun xv s₁ => wpAny (model prog w) A (pyIter xv) (fun it s₂ => LoopC prog w A env x px body Q it s₂) (fun _ _ => False) s₁) (fun _ _ => False) s)
    (hs : ∀ x, foldedSetIterable iter env x = pure x := by intro _; rfl) :
    wpAny (model prog w) A (exec (.For (.Name x px) iter body [] pos) env) Q (fun _ _ => False) s := wpAny_For h hs
/-- the loop ahead of its turn i -/
inductive ForInv {Pm : Type} (h₀ : Heap) (L I c : Addr) (s : Shared) (Mp : Pm → Str → Option Value) (ob : Pm → Obj) (Cr : Pm → List (Addr × Obj)) (Pi : Nat → Pm → Prop) (temps : List Str) (fix : List (Addr × Obj)) (a₀ : Int) (n : Nat) : Nat → Shared → Prop
  | mk {h' : Heap} {tk : Nat} (p : Pm) {m' : Str → Option Value} (i : Nat) (hst : IsRangeIter h' I (a₀ + (i : Nat) * 1) ((n : Int) - (i : Nat)) 1) (F : Fr h₀ L h' m') (hm : ∀ z, temps.contains z = false → m' z = Mp p z)
      (N : News h₀ L h' ((c, ob p) :: (Cr p ++ fix))) (off : AllNe I ((c, ob p) :: (Cr p ++ fix))) (hp : Pi i p) (hi : i ≤ n) : ForInv h₀ L I c s Mp ob Cr Pi temps fix a₀ n (n + 1 - i) { heap := h', gens := s.gens, drawn := s.drawn, toks := tk, os := s.os }
theorem for_cell {Pm : Type} (Mp : Pm → Str → Option Value) (ob : Pm → Obj) (Cr : Pm → List (Addr × Obj)) (Pi : Nat → Pm → Prop) (temps : List Str) (fix : List (Addr × Obj)) (p₀ : Pm)
    {r : Addr} {a₀ b₀ : Int} {t₀ u₀ v₀ : Tok} {n : Nat} {L c : Addr} (hL : env.locals = L) (hkind : env.scope.kind = .function) (hx : env.kindOf x = some .cell) (hc : env.cells.lookup x = some c)
    (hh : A.handled = none) (hr : IsRange s.heap r a₀ b₀ 1 t₀ u₀ v₀) (hsmall : Builtin.Range.small a₀ b₀ 1 = true) (hn : Builtin.Range.rangeSize a₀ b₀ 1 = (n : Int))
    (F : Fr h₀ L s.heap (Mp p₀)) (N : News h₀ L s.heap ((c, ob p₀) :: (Cr p₀ ++ fix))) (h0 : Pi 0 p₀) (hob : ∀ i p, Pi i p → ∃ v, (ob p).data = .cell v) (hcr : ∀ i p, Pi i p → AllNe c (Cr p ++ fix))
    (turn : ∀ (i : Nat) t p (u : Str → Option Value) h tk I oI oc, i < n → Pi i p → AllNe I ((c, oc) :: (Cr p ++ fix)) → oc.data = .cell (some (.int (a₀ + (i : Int)) t)) →
      Fr h₀ L h (Tv temps u (Mp p)) → News h₀ L h ((I, oI) :: (c, oc) :: (Cr p ++ fix)) →
      ∀ K, KH (TurnPost h₀ L Mp (fun p => (c, ob p) :: Cr p) (Pi (i + 1)) temps ((I, oI) :: fix) (AllNe I) s Q) K → wpAny (model prog w) A (execs body env) K (fun _ _ => False) { s with heap := h, toks := tk })
    (done : ∀ p (u : Str → Option Value) h tk, Pi n p → Fr h₀ L h (Tv temps u (Mp p)) → News h₀ L h ((c, ob p) :: (Cr p ++ fix)) → Q .next { s with heap := h, toks := tk }) :
    wpAny (model prog w) A (pyIter (.ref r)) (fun it s₂ => LoopC prog w A env x px body Q it s₂) (fun _ _ => False) s := by
  subst hL
  refine wpAny_pyIter_range hr hsmall ?_
  have W := Walks.range (prog := prog) (w := w) hh s.heap.objs.size a₀ 1 n
  generalize hI : s.heap.objs.size = I at W
  have hIL : env.locals ≠ I := by rw [← hI]; exact Nat.ne_of_lt F.ns.lt
  have hI₀ : h₀.get? I = none := by rw [← hI]; exact next_is_new F
  unfold LoopC
  have fixU : ∀ {u m' : Str → Option Value} {p : Pm}, (∀ z, temps.contains z = false → m' z = Mp p z) → (fun y => if temps.contains y = true then m' y else Mp p y) = m' := by
    intro u m' p hm
    funext y
    by_cases h2 : temps.contains y = true
    · rw [if_pos h2]
    · rw [if_neg h2]; exact (hm y (Bool.eq_false_iff.mpr h2)).symm
  refine codeAny_forLoop
    (ForInv h₀ env.locals I c s Mp ob Cr Pi temps fix a₀ n) ?_ (n + 1)
    (ForInv.mk p₀ 0 ?_ (F.push _) (fun _ _ => rfl) (fun p hp => ⟨Heap.get?_push_of_some _ (N p hp).1, (N p hp).2⟩) ?_ h0 (Nat.zero_le _))
  · rintro k s' @⟨h', tk, p, m', i, hst, F', hm', N', off, hp, hi⟩
    have moved : ∀ h₁ : Heap, (∀ b o, b ∉ [I] → h'.get? b = some o → h₁.get? b = some o) → Fr h₀ env.locals h₁ m' ∧ News h₀ env.locals h₁ ((c, ob p) :: (Cr p ++ fix)) := fun h₁ hk =>
      ⟨fr_but F' (fun b o hb e => hk b o hb e) hIL hI₀, news_but N' (fun b o hb e => hk b o hb e) (AllNe.mem off)⟩
    by_cases hlt : i < n
    · refine W.item i _ _ _ hlt hst fun v h₁ tk₁ hP hst₁ hk₁ => ?_
      obtain ⟨F₁, N₁⟩ := moved h₁ hk₁
      obtain ⟨t, rfl⟩ := hP
      have e1 : a₀ + (i : Int) * 1 = a₀ + (i : Int) := by rw [Int.mul_one]
      have hcN := N₁ _ (.head _)
      obtain ⟨vc, hvc⟩ := hob i p hp
      refine wpAny_assign_Name (wpAny_storeName_cell hkind hx hc ⟨_, hcN.1, hvc⟩ fun h₂ hcell hs₂ => ?_)
      obtain ⟨oc, hoc, hod⟩ := hcell
      rw [e1] at hod
      have F₂ : Fr h₀ env.locals h₂ m' := F₁.change hs₂ hcN.2.1 hcN.2.2
      have hIc : I ≠ c := off.1.symm
      have hI2 : IsRangeIter h₂ I (a₀ + ((i + 1 : Nat) : Int) * 1) ((n : Int) - ((i + 1 : Nat) : Int)) 1 := W.frame _ _ _ hst₁ fun b hb o e => by
        have hb' : b = I := List.mem_singleton.mp hb
        exact hs₂.extBut b o (by rw [hb']; exact hIc) e
      obtain ⟨oI, hoI⟩ : ∃ o, h₂.get? I = some o := ⟨_, hI2⟩
      have N₂ : News h₀ env.locals h₂ ((I, oI) :: (c, oc) :: (Cr p ++ fix)) := fun q hq => by
        rcases List.mem_cons.mp hq with rfl | hq
        · exact ⟨hoI, hIL.symm, hI₀⟩
        · rcases List.mem_cons.mp hq with rfl | hq
          · exact ⟨hoc, hcN.2⟩
          · exact ⟨hs₂.extBut _ _ (AllNe.mem (hcr i p hp) q hq) (N₁ q (List.mem_cons_of_mem _ hq)).1, (N₁ q (List.mem_cons_of_mem _ hq)).2⟩
      have off₂ : AllNe I ((c, oc) :: (Cr p ++ fix)) := ⟨off.1, off.2⟩
      rw [← fixU (u := m') hm'] at F₂
      refine wpAny_mono (turn i t p m' h₂ _ I oI oc hlt hp off₂ hod F₂ N₂ _ ⟨fun _ _ q => q⟩) (fun f s₃ q => ?_) fun _ _ y => y.elim
      have fin : TurnTo h₀ env.locals Mp (fun p => (c, ob p) :: Cr p) (Pi (i + 1)) temps ((I, oI) :: fix) (AllNe I) s s₃ → ∃ k', k' < n + 1 - i ∧ ForInv h₀ env.locals I c s Mp ob Cr Pi temps fix a₀ n k' s₃ := by
        rintro @⟨p', h₃, tk₃, m₃, news₃, hp', F₃, hm₃, N₃, hc₃, hs₃, ho₃⟩
        refine ⟨n + 1 - (i + 1), by omega, ForInv.mk p' (i + 1) ?_ F₃ hm₃ (fun q hq => ?_) ?_ hp' hlt⟩
        · refine W.frame _ _ _ hI2 fun b hb o e => ?_
          have hb' : b = I := List.mem_singleton.mp hb
          subst hb'
          have : o = oI := Option.some.inj (e.symm.trans hoI)
          subst this
          exact (N₃ _ (hs₃ _ (.head _))).1
        · rcases List.mem_cons.mp hq with rfl | hq
          · exact N₃ _ (hc₃ _ (.head _))
          · rcases List.mem_append.mp hq with hq | hq
            · exact N₃ q (hc₃ q (List.mem_cons_of_mem _ hq))
            · exact N₃ q (hs₃ q (List.mem_cons_of_mem _ hq))
        · refine ⟨ho₃.1, AllNe.append ho₃.2 (AllNe.of fun q hq => AllNe.mem off.2 q (List.mem_append_right _ hq))⟩
      cases f with
      | ret v => exact q
      | brk => exact q
      | next => exact fin q
      | cont => exact fin q
    · have hin : i = n := by omega
      subst hin
      refine W.done _ _ _ hst fun h₁ tk₁ hk₁ => wpAny_execs_nil ?_
      obtain ⟨F₁, N₁⟩ := moved h₁ hk₁
      rw [← fixU (u := m') hm'] at F₁
      exact done p m' h₁ tk₁ hp F₁ N₁
  · subst hI
    show IsRangeIter _ _ _ _ _
    rw [hn]
    simpa using Heap.get?_push_size _ rfl
  · exact AllNe.of fun q hq => Nat.ne_of_lt (hI ▸ Heap.lt_size (N q hq).1)
end
end Mine

end
section
open PySem PySem.W PyProof.Rows PySem.Calls PySem.Spec
namespace Mine
/-- the law's body and its scope, read off the row -/
def lawParts : List Stmt × Scope := match PySem.Challenge.pw_sc0066_01.main.body.getLast? with
  | some (.FunctionDef _ _ body _ _ _ scope _ _ _) => (body, scope)
  | _ => ([], { kind := .function, names := [], isGenerator := false, isCoroutine := false, more := [] })
end Mine

end
section
open PySem PySem.W PyProof.Rows PySem.Calls PySem.Spec
namespace Mine
theorem fillK1 : (hd.heap_1 = hd.heap_1) ∧ (PySem.Challenge.rw_sc0066_01 = PySem.Challenge.rw_sc0066_01) := by
  k_fill
  exact ⟨rfl, rfl⟩
def subCost (a b : Str) : Int := if (a == b) = true then 0 else if (Txt.lower a == Txt.lower b) = true then 1 else 2
set_option maxRecDepth 100000 in
set_option maxHeartbeats 8000000 in
theorem c_sub (w : World) (a b : Str) (ta tb : Tok) (ha : a.length ≤ 1000) (hb : b.length ≤ 1000) :
    Ctr w 490 800 (call (.ref 51) [Value.str a ta, Value.str b tb]) Any (RInt (subCost a b)) := by
  w_top off
  intro p loose mean mg mb s Q E X T hPre hQ
  refine' enter (binds := [(Str.ofString "ch_a", Value.str a ta), (Str.ofString "ch_b", Value.str b tb)]) (m := (Sv (Str.ofString "ch_b") (Value.str b tb) (Sv (Str.ofString "ch_a") (Value.str a ta) (fun _ => none)))) X T.nolimit ?k6 ?k7 ?k8 ?k9 ?kB ?c2 ?c3 ?c4 ?c5 ?kM ?_
  case kM => exact rfl
  case k6 => k_dflt k_is
  case k7 => k_dflt k_is
  case k8 => decide
  case k9 => exact BindsTo.of_eq rfl
  case kB => exact locs rfl
  case c2 => exact rfl
  case c3 => exact rfl
  case c4 => exact rfl
  case c5 => decide
  intro L h₁ tk₁ F N
  try dsimp only
  k_fold
  k_steps
  all_goals (dsimp only; k_unfold; dsimp only)
  all_goals (refine end_int hQ (by assumption) ?_; simp only [subCost, *]; rfl)

abbrev f1 : UInt64 := 4607182418800017408
abbrev f6 : UInt64 := 4618441417868443648
def hsvT (v p q t : UInt64) (k : Int) : Option (UInt64 × UInt64 × UInt64) :=
  if k = 0 then some (v, t, p) else
  if k = 1 then some (q, v, p) else
  if k = 2 then some (p, v, t) else
  if k = 3 then some (p, q, v) else
  if k = 4 then some (t, p, v) else
  if k = 5 then some (v, p, q) else none
section
variable {v p q t : UInt64} {k : Int}
theorem hsvT_0 (h : k = 0) : hsvT v p q t k = some (v, t, p) := by subst h; rfl
theorem hsvT_1 (h : k = 1) : hsvT v p q t k = some (q, v, p) := by subst h; rfl
theorem hsvT_2 (h : k = 2) : hsvT v p q t k = some (p, v, t) := by subst h; rfl
theorem hsvT_3 (h : k = 3) : hsvT v p q t k = some (p, q, v) := by subst h; rfl
theorem hsvT_4 (h : k = 4) : hsvT v p q t k = some (t, p, v) := by subst h; rfl
theorem hsvT_5 (h : k = 5) : hsvT v p q t k = some (v, p, q) := by subst h; rfl
theorem hsvT_6 (h0 : ¬ k = 0) (h1 : ¬ k = 1) (h2 : ¬ k = 2) (h3 : ¬ k = 3) (h4 : ¬ k = 4) (h5 : ¬ k = 5) : hsvT v p q t k = none := by
  unfold hsvT; rw [if_neg h0, if_neg h1, if_neg h2, if_neg h3, if_neg h4, if_neg h5]
end
def hsvP (h s v : UInt64) : Option (UInt64 × UInt64 × UInt64) :=
  if (Float64.cmp s 0 == some Ordering.eq) = true then some (v, v, v) else
  if ¬ Float64.isFinite (Float64.mul h f6) = true then none else
  if ¬ (Flt.toInt Float64.truncOf (Float64.mul h f6)).natAbs < 2 ^ 1024 - 2 ^ 970 then none else
  hsvT v (Float64.mul v (Float64.sub f1 s)) (Float64.mul v (Float64.sub f1 (Float64.mul s (Float64.sub (Float64.mul h f6) (Float64.ofInt (Flt.toInt Float64.truncOf (Float64.mul h f6)))))))
    (Float64.mul v (Float64.sub f1 (Float64.mul s (Float64.sub f1 (Float64.sub (Float64.mul h f6) (Float64.ofInt (Flt.toInt Float64.truncOf (Float64.mul h f6)))))))) ((Flt.toInt Float64.truncOf (Float64.mul h f6)).fmod 6)
def Tup3 (a b c : UInt64) (o : Obj) : Prop := ∃ t1 t2 t3, o = { cls := .type "tuple", data := .seq #[.float a t1, .float b t2, .float c t3] }
set_option maxRecDepth 100000 in
set_option maxHeartbeats 8000000 in
theorem c_hsv (w : World) (hx sx v : UInt64) (th ts tv : Tok) (a b c : UInt64) (hr : hsvP hx sx v = some (a, b, c)) :
    Ctr w 490 800 (call (.ref 44) [Value.float hx th, Value.float sx ts, Value.float v tv]) Any (RNew (Tup3 a b c)) := by
  w_top off
  intro p loose mean mg mb s Q E X T hPre hQ
  refine' enter (binds := [(Str.ofString "h", Value.float hx th), (Str.ofString "s", Value.float sx ts), (Str.ofString "v", Value.float v tv)]) (m := (Sv (Str.ofString "v") (Value.float v tv) (Sv (Str.ofString "s") (Value.float sx ts) (Sv (Str.ofString "h") (Value.float hx th) (fun _ => none))))) X T.nolimit ?k6 ?k7 ?k8 ?k9 ?kB ?c2 ?c3 ?c4 ?c5 ?kM ?_
  case kM => exact rfl
  case k6 => k_dflt k_is
  case k7 => k_dflt k_is
  case k8 => decide
  case k9 => exact BindsTo.of_eq rfl
  case kB => exact locs rfl
  case c2 => exact rfl
  case c3 => exact rfl
  case c4 => exact rfl
  case c5 => decide
  intro L h₁ tk₁ F N
  try dsimp only
  k_fold
  k_steps
  all_goals ((try dsimp only); (repeat (k_unfold; (try dsimp only))))
  all_goals (try have hf1 := Flt.not_finite_of_nan (by assumption))
  all_goals (try have hf2 := Flt.not_finite_of_inf (by assumption))
  all_goals (try have hf3 := Nat.not_lt.mpr (by assumption))
  all_goals (simp only [hsvP, reduceIte, Bool.false_eq_true, not_true_eq_false, not_false_eq_true, ite_true, ite_false, ne_eq, f1, f6, *] at hr)
  all_goals (try (first | rw [hsvT_0 rfl] at hr | rw [hsvT_1 rfl] at hr | rw [hsvT_2 rfl] at hr | rw [hsvT_3 rfl] at hr | rw [hsvT_4 rfl] at hr | rw [hsvT_5 rfl] at hr | (rw [hsvT_6 (by assumption) (by assumption) (by assumption) (by assumption) (by assumption) (by assumption)] at hr; cases hr)))
  all_goals (first | (exfalso; contradiction) | skip)
  all_goals (injection hr with hr1; injection hr1 with hr2 hr3; injection hr3 with hr4 hr5; subst hr2 hr4 hr5)
  all_goals (exact end_new hQ (by assumption) (by assumption) ⟨_, _, _, rfl⟩)
end Mine

end
section
open PySem PySem.W PyProof.Rows PySem.Calls PySem.Spec
namespace Mine
local macro_rules | `(tactic| walk_at "call builtin:max") => `(tactic| (k_here; k_dflt (refine' max_three_flo rfl (by k_asm) (by k_asm) ?_; k_whole; intro h' tk' t' F' N')))
local macro_rules | `(tactic| walk_at "call builtin:min") => `(tactic| (k_here; k_dflt (refine' min_three_flo rfl (by k_asm) (by k_asm) ?_; k_whole; intro h' tk' t' F' N')))
abbrev f2 : UInt64 := 4611686018427387904
abbrev f4 : UInt64 := 4616189618054758400
abbrev fh : UInt64 := 4602678819172646912
def turnF (x : UInt64) : UInt64 := (Float64.divmod (Float64.div x f6) f1).snd
def hlsR (r g maxc rangec rc gc bc l s : UInt64) : Option (UInt64 × UInt64 × UInt64) :=
  if Float64.isZero rangec = true then none else
  if (Float64.cmp r maxc == some Ordering.eq) = true then some (turnF (Float64.sub bc gc), l, s) else
  if (Float64.cmp g maxc == some Ordering.eq) = true then some (turnF (Float64.sub (Float64.add f2 rc) bc), l, s) else
  some (turnF (Float64.sub (Float64.add f4 gc) rc), l, s)
def hlsP (r g b : UInt64) : Option (UInt64 × UInt64 × UInt64) :=
  let maxc := maxF r g b
  let minc := minF r g b
  let sumc := Float64.add maxc minc
  let rangec := Float64.sub maxc minc
  let l := Float64.div sumc f2
  let rc := Float64.div (Float64.sub maxc r) rangec
  let gc := Float64.div (Float64.sub maxc g) rangec
  let bc := Float64.div (Float64.sub maxc b) rangec
  if (Float64.cmp minc maxc == some Ordering.eq) = true then some (0, l, 0) else
  if (Float64.cmp l fh == some Ordering.lt || Float64.cmp l fh == some Ordering.eq) = true then
    (if Float64.isZero sumc = true then none else hlsR r g maxc rangec rc gc bc l (Float64.div rangec sumc))
  else
    (if Float64.isZero (Float64.sub (Float64.sub f2 maxc) minc) = true then none else hlsR r g maxc rangec rc gc bc l (Float64.div rangec (Float64.sub (Float64.sub f2 maxc) minc)))
set_option maxRecDepth 100000 in
set_option maxHeartbeats 8000000 in
theorem c_hls (w : World) (r g b : UInt64) (tr tg tb : Tok) (x y z : UInt64) (hr : hlsP r g b = some (x, y, z)) :
    Ctr w 490 800 (call (.ref 37) [Value.float r tr, Value.float g tg, Value.float b tb]) Any (RNew (Tup3 x y z)) := by
  w_top off
  intro p loose mean mg mb s Q E X T hPre hQ
  refine' enter (binds := [(Str.ofString "r", Value.float r tr), (Str.ofString "g", Value.float g tg), (Str.ofString "b", Value.float b tb)]) (m := (Sv (Str.ofString "b") (Value.float b tb) (Sv (Str.ofString "g") (Value.float g tg) (Sv (Str.ofString "r") (Value.float r tr) (fun _ => none))))) X T.nolimit ?k6 ?k7 ?k8 ?k9 ?kB ?c2 ?c3 ?c4 ?c5 ?kM ?_
  case kM => exact rfl
  case k6 => k_dflt k_is
  case k7 => k_dflt k_is
  case k8 => decide
  case k9 => exact BindsTo.of_eq rfl
  case kB => exact locs rfl
  case c2 => exact rfl
  case c3 => exact rfl
  case c4 => exact rfl
  case c5 => decide
  intro L h₁ tk₁ F N
  try dsimp only
  k_fold
  k_steps
  all_goals ((try dsimp only); (repeat (k_unfold; (try dsimp only))))
  all_goals (simp only [hlsP, hlsR, turnF, reduceIte, Bool.false_eq_true, not_true_eq_false, not_false_eq_true, ite_true, ite_false, ne_eq, f1, f2, f4, f6, fh, *] at hr)
  all_goals (first | (exfalso; contradiction) | skip)
  all_goals (injection hr with hr1; injection hr1 with hr2 hr3; injection hr3 with hr4 hr5; subst hr2 hr4 hr5)
  all_goals (exact end_new hQ (by assumption) (by assumption) ⟨_, _, _, rfl⟩)
end Mine

end
section
open PySem PySem.W PyProof.Rows PySem.Calls PySem.Spec
namespace Mine
abbrev f16 : UInt64 := Float64.ofInt 16
abbrev div16 (p : Int) : UInt64 := Float64.ofFrac (decide (p < 0) != decide ((16 : Int) < 0)) p.natAbs (Int.natAbs 16)
def signOk (p : Int) (pale : Bool) : Bool :=
  match hsvP (div16 p) (if pale = true then fh else f1) f1 with
  | none => false
  | some (r, g, b) => match hlsP r g b with
    | none => false
    | some (x, y, _) => Float64.isFinite (Float64.mul x (Float64.ofInt 16)) && ((Float64.cmp y fh == some Ordering.gt) == pale) && decide (Flt.toInt Float64.truncOf (Float64.mul x (Float64.ofInt 16)) = p.fmod 16)
theorem signs_ok : ∀ n : Fin 48, ∀ pale : Bool, signOk ((n.val : Nat) : Int) pale = true := by decide +kernel
theorem sign_facts {p : Int} (h0 : 0 ≤ p) (h48 : p < 48) (pale : Bool) : ∃ r g b x y z, hsvP (div16 p) (if pale = true then fh else f1) f1 = some (r, g, b) ∧ hlsP r g b = some (x, y, z) ∧
    Float64.isFinite (Float64.mul x (Float64.ofInt 16)) = true ∧ (Float64.cmp y fh == some Ordering.gt) = pale ∧ Flt.toInt Float64.truncOf (Float64.mul x (Float64.ofInt 16)) = p.fmod 16 := by
  have h := signs_ok ⟨p.toNat, by omega⟩ pale
  rw [show (((⟨p.toNat, by omega⟩ : Fin 48).val : Nat) : Int) = p from Int.toNat_of_nonneg h0] at h
  unfold signOk at h
  split at h
  · cases h
  · rename_i r g b e1
    split at h
    · cases h
    · rename_i x y z e2
      simp only [Bool.and_eq_true, beq_iff_eq, decide_eq_true_eq] at h
      exact ⟨r, g, b, x, y, z, e1, e2, h.1.1, by simpa using h.1.2, h.2⟩
abbrev chrS (i : Int) : Str := ⟨#[i.toNat]⟩
def signP (p : Int) (pale : Bool) : Str := chrS ((if pale = true then 65 else 97) + p.fmod 16)
local macro_rules | `(tactic| walk_at "call ref") => `(tactic| (k_here; k_dflt (refine' Ctr.useN (c_hsv _ _ _ _ _ _ _ _ _ _ (by k_asm)) (by k_asm) (by k_asm) (by k_asm) (by k_asm) rfl (by k_room) (Nat.le_of_ble_eq_true rfl) trivial ?_; k_whole; intro a' o' h' tk' hO' F' N' l'; obtain ⟨t1', t2', t3', he'⟩ := hO'; subst he')))
local macro_rules | `(tactic| walk_at "call ref") => `(tactic| (k_here; k_dflt (refine' Ctr.useN (c_hls _ _ _ _ _ _ _ _ _ _ (by k_asm)) (by k_asm) (by k_asm) (by k_asm) (by k_asm) rfl (by k_room) (Nat.le_of_ble_eq_true rfl) trivial ?_; k_whole; intro a' o' h' tk' hO' F' N' l'; obtain ⟨t1', t2', t3', he'⟩ := hO'; subst he')))
local macro_rules | `(tactic| walk_at "zz 1") => `(tactic| fail)
set_option maxRecDepth 100000 in
set_option maxHeartbeats 8000000 in
theorem c_sign (w : World) (part : Int) (pale : Bool) (tp : Tok) (h0 : 0 ≤ part) (h48 : part < 48) :
    Ctr w 480 700 (call (.ref 65) [Value.int part tp, Value.bool pale]) Any (RStr (signP part pale)) := by
  w_top off
  intro p loose mean mg mb s Q E X T hPre hQ
  refine' enter (binds := [(Str.ofString "part", Value.int part tp), (Str.ofString "pale", Value.bool pale)]) (m := (Sv (Str.ofString "pale") (Value.bool pale) (Sv (Str.ofString "part") (Value.int part tp) (fun _ => none)))) X T.nolimit ?k6 ?k7 ?k8 ?k9 ?kB ?c2 ?c3 ?c4 ?c5 ?kM ?_
  case kM => exact rfl
  case k6 => k_dflt k_is
  case k7 => k_dflt k_is
  case k8 => decide
  case k9 => exact BindsTo.of_eq rfl
  case kB => exact locs rfl
  case c2 => exact rfl
  case c3 => exact rfl
  case c4 => exact rfl
  case c5 => decide
  intro L h₁ tk₁ F N
  try dsimp only
  k_fold
  obtain ⟨r, g, b, x, y, z, e1, e2, e3, e4, e5⟩ := sign_facts h0 h48 pale
  have b0 : 0 ≤ Flt.toInt Float64.truncOf (Float64.mul x (Float64.ofInt 16)) := by rw [e5]; exact Int.fmod_nonneg_of_pos _ (by decide)
  have b1 : Flt.toInt Float64.truncOf (Float64.mul x (Float64.ofInt 16)) < 16 := by rw [e5]; exact Int.fmod_lt_of_pos _ (by decide)
  cases pale
  all_goals (simp only [if_true, if_false, Bool.false_eq_true] at e1)
  all_goals k_steps
  all_goals ((try dsimp only); (repeat (k_unfold; (try dsimp only))))
  all_goals (try (exfalso; have hf1 := Flt.not_finite_of_nan (by assumption); rw [e3] at hf1; cases hf1))
  all_goals (try (exfalso; have hf1 := Flt.not_finite_of_inf (by assumption); rw [e3] at hf1; cases hf1))
  all_goals (refine end_str hQ (by assumption) ?_)
  all_goals (simp only [signP, chrS, e5, if_true, if_false, Bool.false_eq_true])
end Mine

end
section
open PySem PySem.W PyProof.Rows PySem.Calls PySem.Spec
namespace Mine
def dots : Str := Str.ofString "..."
def looseP (a : Str) (k : Int) : Str := Str.ofString "..." ++ Txt.mul (a ++ Str.ofString "...") k
theorem len_dots : (Str.ofString "...").length = 3 := by decide +kernel
theorem len_add_dots (a : Str) (ha : a.length ≤ 10) : (a ++ Str.ofString "...").length ≤ 13 := by rw [Str.length_append, len_dots]; omega
theorem len_mul_le {x : Str} {k : Int} (N K : Nat) (hx : x.length ≤ N) (h0 : 0 ≤ k) (hk : k ≤ (K : Int)) : (Txt.mul x k).length ≤ N * K := by
  have h := len_mul x k
  rw [if_neg (by simp; omega)] at h
  have h1 : (x.length : Int) * k = ((x.length * k.toNat : Nat) : Int) := by rw [Int.natCast_mul, Int.toNat_of_nonneg h0]
  rw [h1] at h
  have h2 : x.length * k.toNat ≤ N * K := Nat.mul_le_mul hx (by omega)
  omega
theorem len_loose {a : Str} {k : Int} (ha : a.length ≤ 10) (h0 : 0 ≤ k) (hk : k ≤ 20) : (looseP a k).length ≤ 263 := by
  unfold looseP
  rw [Str.length_append, len_dots]
  have := len_mul_le 13 20 (len_add_dots a ha) h0 (by exact hk)
  omega
local macro_rules | `(tactic| walk_at "binaryOp Mult str int") => `(tactic| (k_here; k_dflt (refine SB.mul (by assumption) ?_; intro _ _)))
set_option maxRecDepth 100000 in
set_option maxHeartbeats 8000000 in
theorem c_loose (w : World) (a : Str) (ta tk : Tok) (k : Int) (ha : a.length ≤ 10) (hk : 0 ≤ k) (hk2 : k ≤ 20) :
    Ctr w 490 800 (call (.ref 79) [Value.str a ta, Value.int k tk]) Any (RStr (looseP a k)) := by
  w_top off
  intro p loose mean mg mb s Q E X T hPre hQ
  refine' enter (binds := [(Str.ofString "word", Value.str a ta), (Str.ofString "k", Value.int k tk)]) (m := (Sv (Str.ofString "k") (Value.int k tk) (Sv (Str.ofString "word") (Value.str a ta) (fun _ => none)))) X T.nolimit ?k6 ?k7 ?k8 ?k9 ?kB ?c2 ?c3 ?c4 ?c5 ?kM ?_
  case kM => exact rfl
  case k6 => k_dflt k_is
  case k7 => k_dflt k_is
  case k8 => decide
  case k9 => exact BindsTo.of_eq rfl
  case kB => exact locs rfl
  case c2 => exact rfl
  case c3 => exact rfl
  case c4 => exact rfl
  case c5 => decide
  intro L h₁ tk₁ F N
  try dsimp only
  k_fold
  have hm : MulOk (a ++ Str.ofString "...") k := mulOk_of 13 20 (len_add_dots a ha) hk2 (by omega) (by decide) (by decide)
  have hl : (Txt.mul (a ++ Str.ofString "...") k).length ≤ 260 := len_mul_le 13 20 (len_add_dots a ha) hk hk2
  have hl2 : (Str.ofString "..." ++ Txt.mul (a ++ Str.ofString "...") k).length ≤ PySem.sizeLine := by rw [sizeLine_eq]; exact Nat.le_trans (len_loose ha hk hk2) (by decide)
  have hl3 : (a ++ Str.ofString "...").length ≤ PySem.sizeLine := by rw [sizeLine_eq]; exact Nat.le_trans (len_add_dots a ha) (by decide)
  k_steps
  all_goals ((try dsimp only); (repeat (k_unfold; (try dsimp only))))
  all_goals exact end_str hQ (by assumption) rfl
end Mine

end
section
open PySem PySem.W PyProof.Rows PySem.Calls PySem.Spec Mine
local macro_rules | `(tactic| walk_at "pyIter ref") => `(tactic| (refine hold ?_))
local macro_rules | `(tactic| walk_at "exec While") => `(tactic| (refine hold ?_))
section
open PySem PySem.W PyProof.Rows PySem.Calls PySem.Spec
namespace Mine

theorem em_first {u : Str} {r : List Str} {l : List (Str × Tok)} {y : Str} (h1 : l.map (fun x => x.1) = u :: r) (h3 : (l.map (fun x => x.1))[Int.toNat 0]? = some y) : u = y := by
  rw [h1] at h3
  exact Option.some.inj h3
theorem em_lastY {xs : List Str} {v y : Str} {l : List (Str × Tok)} (h1 : l.map (fun x => x.1) = xs ++ [v]) (h3 : (l.map (fun x => x.1))[(-1 + (l.length : Int)).toNat]? = some y) : v = y := by
  have e0 : l.length = xs.length + 1 := by
    have := congrArg List.length h1
    simpa using this
  rw [h1, show (-1 + (l.length : Int)).toNat = xs.length by omega] at h3
  simpa using h3
theorem del0_k {l : List (Str × Tok)} (h : 1 ≤ l.length) : seqIndex? 0 (strValues l).toArray.size = some 0 := by
  match l, h with
  | _ :: r, _ => simp [strValues, seqIndex?]
theorem del0_e {l : List (Str × Tok)} (h : 1 ≤ l.length) : ki_delL (strValues l).toArray.toList 0 = some (strValues l.tail) := by
  match l, h with
  | _ :: r, _ => rfl
theorem ki_delL_snoc : ∀ (l : List Value) (x : Value), ki_delL (l ++ [x]) l.length = some l
  | [], _ => rfl
  | y :: r, x => by
    show (match ki_delL (r ++ [x]) r.length with | some q => some (y :: q) | none => none) = _
    rw [ki_delL_snoc r x]
theorem delN_k {l : List (Str × Tok)} (h : 1 ≤ l.length) : seqIndex? (-1) (strValues l).toArray.size = some (l.length - 1) := by
  have e : (strValues l).toArray.size = l.length := by simp [strValues]
  rw [e]
  unfold seqIndex?
  simp
  omega
theorem delN_e {l : List (Str × Tok)} (h : 1 ≤ l.length) : ki_delL (strValues l).toArray.toList (l.length - 1) = some (strValues l.dropLast) := by
  have hne : l ≠ [] := fun e => by rw [e] at h; exact absurd h (by decide)
  have e1 : (strValues l).toArray.toList = strValues l.dropLast ++ [.str (l.getLast hne).1 (l.getLast hne).2] := by
    show strValues l = _
    conv => lhs; rw [← List.dropLast_concat_getLast hne]
    simp [strValues]
  have e2 : l.length - 1 = (strValues l.dropLast).length := by simp [strValues]
  rw [e1, e2]
  exact ki_delL_snoc _ _
theorem em_len {a : Str} {ms : List Str} {u v : Str} {l : List (Str × Tok)} (h1 : l.map (fun x => x.1) = Txt.split a (Str.ofString "...")) (h2 : Txt.split a (Str.ofString "...") = u :: (ms ++ [v])) : 2 ≤ (l.length : Int) := by
  have e := congrArg List.length (h1.trans h2)
  simp only [List.length_map, List.length_cons, List.length_append, List.length_nil] at e
  omega

/-- the loop over the pieces: each one is found behind the one before -/
def emLoop (got : Str) (e : Int) : List Str → Int → Bool
  | [], _ => true
  | w :: ws, p => if find4 got w p e < 0 then false else emLoop got e ws (find4 got w p e + (w.length : Int))
theorem drop_at {α : Type} {l : List α} {i : Nat} {x : α} (h : l[i]? = some x) : l.drop i = x :: l.drop (i + 1) := by
  obtain ⟨h1, h2⟩ := List.getElem?_eq_some_iff.mp h
  rw [List.drop_eq_getElem_cons h1, h2]
theorem strValues_at {l : List (Str × Tok)} {i : Nat} {v : Value} (h : (strValues l)[i]? = some v) : ∃ x t, v = .str x t ∧ (l.map (fun x => x.1))[i]? = some x := by
  unfold strValues at h
  rw [List.getElem?_map] at h
  cases e : l[i]? with
  | none => rw [e] at h; cases h
  | some q => rw [e] at h; exact ⟨q.1, q.2, by simpa using h.symm, by rw [List.getElem?_map, e]; rfl⟩
local macro_rules | `(tactic| walk_at "call builtin:str.find") => `(tactic| (k_here; refine call_find4 ?_))
/-- does the text b match the pieces u, ms, v of a want? -/
def emR (b u : Str) (ms : List Str) (v : Str) : Bool :=
  if u.length ≠ 0 ∧ Txt.startswith b u = false then false else
  if v.length ≠ 0 ∧ Txt.endswith b v = false then false else
  if (u.length : Int) > (b.length : Int) - (v.length : Int) then false else
  emLoop b ((b.length : Int) - (v.length : Int)) ((if u.length = 0 then [u] else []) ++ (ms ++ (if v.length = 0 then [v] else []))) (u.length : Int)
theorem pieces_room {l : List (Str × Tok)} {P : List Str} (h : l.map (fun x => x.1) = P) (hp : P.length ≤ 1002) : (strValues l).toArray.toList.length ≤ sizeLine := by
  have := congrArg List.length h
  simp only [List.length_map] at this
  show (strValues l).length ≤ sizeLine
  rw [show (strValues l).length = l.length by simp [strValues], this, sizeLine_eq]
  omega
theorem pieces_one {l : List (Str × Tok)} {P : List Str} (h : l.map (fun x => x.1) = P) (hp : 1 ≤ P.length) : 1 ≤ l.length := by
  rw [← h, List.length_map] at hp
  exact hp
/-- a state: the pieces P are still to be found, between sp and ep -/
inductive EmMid (g : Heap) (L : Addr) (s : Shared) (b : Str) (tb : Tok) (P : List Str) (sp ep : Int) : Shared → Prop
  | mk {h : Heap} {tk : Nat} {m : Str → Option Value} {D : Addr} {l : List (Str × Tok)} {n : Nat} {t1 t2 : Tok}
      (F : Fr g L h (Sv (Str.ofString "startpos") (.int sp t1) (Sv (Str.ofString "endpos") (.int ep t2) (Sv (Str.ofString "ws") (.ref D) (Sv (Str.ofString "got") (.str b tb) m)))))
      (N : News g L h [(D, W.listOf (strValues l).toArray n)]) (hl : l.map (fun x => x.1) = P) :
      EmMid g L s b tb P sp ep { heap := h, gens := s.gens, drawn := s.drawn, toks := tk, os := s.os }
section
local macro_rules | `(tactic| walk_at "delItem ref int") => `(tactic| (k_here; k_dflt (first | refine' ki_del (by k_asm) (by k_asm) rfl (del0_k (by assumption)) (del0_e (by assumption)) (by k_upd) (by assumption) ?_ | refine' ki_del (by k_asm) (by k_asm) rfl (delN_k (by assumption)) (delN_e (by assumption)) (by k_upd) (by assumption) ?_); intro h' F' N'))
local macro_rules | `(tactic| walk_at "subscriptTail Name UnaryOp ref int") => `(tactic| (refine item_strsTneg (News.isList (by k_asm) (by k_mem)) (by decide) (by omega) (by decide) ?_; intro _ _ _))
local macro_rules | `(tactic| walk_at "truthy str") => `(tactic| refine SBL.truthy (by assumption) ?_)
set_option maxRecDepth 100000 in
set_option maxHeartbeats 8000000 in
theorem c_emG (w : World) (a b u v : Str) (ta tb : Tok) (ms : List Str) (ha : a.length ≤ 1000) (hb : b.length ≤ 1000) (hs : Txt.split a (Str.ofString "...") = u :: (ms ++ [v])) (hc : (Builtin.Str.occurrences a (Str.ofString "...") 0 a.length 1).isEmpty = false) (hms : ms.length ≤ 1000) :
    Ctr w 490 800 (call (.ref 21) [Value.str a ta, Value.str b tb]) Any (RBool (emR b u ms v)) := by
  w_top off
  intro p loose mean mg mb s Q E X T hPre hQ
  refine' enter (binds := [(Str.ofString "want", Value.str a ta), (Str.ofString "got", Value.str b tb)]) (m := (Sv (Str.ofString "got") (Value.str b tb) (Sv (Str.ofString "want") (Value.str a ta) (fun _ => none)))) X T.nolimit ?k6 ?k7 ?k8 ?k9 ?kB ?c2 ?c3 ?c4 ?c5 ?kM ?_
  case kM => exact rfl
  case k6 => k_dflt k_is
  case k7 => k_dflt k_is
  case k8 => decide
  case k9 => exact BindsTo.of_eq rfl
  case kB => exact locs rfl
  case c2 => exact rfl
  case c3 => exact rfl
  case c4 => exact rfl
  case c5 => decide
  intro L h₁ tk₁ F N
  try dsimp only
  k_fold
  refine execs_cut 5 ?_
  intro R hR
  dsimp only [List.take]
  k_steps
  all_goals (try (exfalso; exact absurd (em_len (by assumption) (by assumption)) (by assumption)))
  rename List.map _ _ = Txt.split _ _ => hsp
  rename List (Str × Tok) => l
  rename (∀ a_1, a_1 ∈ List.map _ _ → _) => hle0
  have hws : l.map (fun x => x.1) = u :: (ms ++ [v]) := hsp.trans hs
  rename (List.map _ _)[Int.toNat 0]? = some _ => hy0
  obtain rfl := em_first hws hy0
  subst hR
  dsimp only [List.append, List.drop]
  rename Fr _ _ _ _ => F1
  rename News _ _ _ _ => N1
  have hle : ∀ x ∈ u :: (ms ++ [v]), x.length ≤ 1000 := fun x hx => Nat.le_trans (hle0 x (hws ▸ hx)) ha
  have hul : u.length ≤ 16777216 := Nat.le_trans (hle u (.head _)) (by decide)
  have hl1 : 1 ≤ l.length := pieces_one hws (by simp)
  have hlz := pieces_room hws (by simp; omega)
  refine cut_key 1 (fun s' => ¬ (u.length ≠ 0 ∧ Txt.startswith b u = false) ∧ EmMid s.heap L s b tb ((if u.length = 0 then [u] else []) ++ (ms ++ [v])) (u.length : Int) (b.length : Int) s') ?c1 ?c2
  case c1 =>
    intro R hkey
    dsimp only [List.take]
    k_steps
    · rename Fr _ _ _ _ => F9
      rename News _ _ _ _ => N9
      rename (u.length : Int) ≠ 0 => h0
      have h1 : ¬ u.length = 0 := by omega
      rename Txt.startswith _ _ = true => hsw
      rw [if_neg h1, List.nil_append] at hkey
      refine hkey _ ⟨fun h => absurd h.2 (by rw [hsw]; decide), EmMid.mk (Fr.overAll F9 [(Str.ofString "startpos", _), (Str.ofString "endpos", _), (Str.ofString "ws", _), (Str.ofString "got", _)] (by
        rw [List.forall_mem_cons, List.forall_mem_cons, List.forall_mem_cons, List.forall_mem_cons]
        exact ⟨rfl, rfl, rfl, rfl, fun _ h => absurd h List.not_mem_nil⟩)) (fun q hq => N9 q (.tail _ hq)) ?_⟩
      rw [List.map_tail, hws]; rfl
    · rename (u.length : Int) ≠ 0 => h0
      ((try dsimp only); (repeat (k_unfold; (try dsimp only))))
      exact end_bool hQ (by assumption) (by unfold emR; rw [if_pos ⟨by omega, by assumption⟩])
    · rename Fr _ _ _ _ => F9
      rename News _ _ _ _ => N9
      rename (u.length : Int) = 0 => h0
      have h1 : u.length = 0 := by omega
      rw [if_pos h1, h0] at hkey
      exact hkey _ ⟨fun h => absurd h1 h.1, EmMid.mk (Fr.overAll F9 [(Str.ofString "startpos", _), (Str.ofString "endpos", _), (Str.ofString "ws", _), (Str.ofString "got", _)] (by
        rw [List.forall_mem_cons, List.forall_mem_cons, List.forall_mem_cons, List.forall_mem_cons]
        exact ⟨rfl, rfl, rfl, rfl, fun _ h => absurd h List.not_mem_nil⟩)) (fun q hq => N9 q (.tail _ hq)) hws⟩
  case c2 =>
  clear hlz hl1 hws hle0 hsp N1 F1
  rintro s' ⟨hq1, F3, N3, hl3⟩
  dsimp only [List.drop]
  rename List (Str × Tok) => l2
  have hl4 : 1 ≤ l2.length := pieces_one hl3 (by simp; omega)
  have hl5 : 1 ≤ (l2.length : Int) := by omega
  have hl6 : ∀ x ∈ l2.map (fun x => x.1), x.length ≤ 1000 := fun x hx => by
    rw [hl3] at hx
    refine hle x ?_
    rcases List.mem_append.mp hx with h | h
    · split at h
      · rw [List.mem_singleton] at h; subst h; exact .head _
      · cases h
    · exact .tail _ h
  refine execs_cut 1 ?_
  intro R hR
  dsimp only [List.take]
  k_steps
  rename (List.map _ _)[_]? = some _ => hy1
  rw [← List.append_assoc] at hl3
  obtain rfl := em_lastY hl3 hy1
  rename Fr _ _ _ _ => F4
  rename News _ _ _ _ => N4
  subst hR
  dsimp only [List.append, List.drop]
  have hvl : v.length ≤ 16777216 := Nat.le_trans (hle v (by simp)) (by decide)
  have hlz := pieces_room hl3 (by simp only [List.length_append, List.length_cons, List.length_nil]; split <;> simp only [List.length_cons, List.length_nil] <;> omega)
  refine cut_key 1 (fun s' => ¬ (v.length ≠ 0 ∧ Txt.endswith b v = false) ∧ EmMid s.heap L s b tb ((if u.length = 0 then [u] else []) ++ (ms ++ (if v.length = 0 then [v] else []))) (u.length : Int) ((b.length : Int) - (v.length : Int)) s') ?d1 ?d2
  case d1 =>
    intro R hkey
    dsimp only [List.take]
    k_steps
    · rename Fr _ _ _ _ => F9
      rename News _ _ _ _ => N9
      rename (v.length : Int) ≠ 0 => h0
      have h1 : ¬ v.length = 0 := by omega
      rename Txt.endswith _ _ = true => hsw
      rw [if_neg h1] at hkey
      refine hkey _ ⟨fun h => absurd h.2 (by rw [hsw]; decide), EmMid.mk (Fr.overAll F9 [(Str.ofString "startpos", _), (Str.ofString "endpos", _), (Str.ofString "ws", _), (Str.ofString "got", _)] (by
        rw [List.forall_mem_cons, List.forall_mem_cons, List.forall_mem_cons, List.forall_mem_cons]
        exact ⟨rfl, rfl, rfl, rfl, fun _ h => absurd h List.not_mem_nil⟩)) N9 ?_⟩
      rw [List.map_dropLast, hl3, List.dropLast_concat, List.append_nil]
    · rename (v.length : Int) ≠ 0 => h0
      ((try dsimp only); (repeat (k_unfold; (try dsimp only))))
      exact end_bool hQ (by assumption) (by unfold emR; rw [if_pos (c := v.length ≠ 0 ∧ _) ⟨by omega, by assumption⟩, ite_self])
    · rename Fr _ _ _ _ => F9
      rename News _ _ _ _ => N9
      rename (v.length : Int) = 0 => h0
      have h1 : v.length = 0 := by omega
      rw [if_pos h1, h0, Int.sub_zero] at hkey
      exact hkey _ ⟨fun h => absurd h1 h.1, EmMid.mk (Fr.overAll F9 [(Str.ofString "startpos", _), (Str.ofString "endpos", _), (Str.ofString "ws", _), (Str.ofString "got", _)] (by
        rw [List.forall_mem_cons, List.forall_mem_cons, List.forall_mem_cons, List.forall_mem_cons]
        exact ⟨rfl, rfl, rfl, rfl, fun _ h => absurd h List.not_mem_nil⟩)) N9 (by rw [hl3, List.append_assoc])⟩
  case d2 =>
  clear hlz hl3 hl4 hl5 hl6 hy1 hy0 F4 N4 hul hvl
  rintro s' ⟨hq2, F5, N5, hws⟩
  dsimp only [List.drop]
  rename List (Str × Tok) => l3
  have hle2 : ∀ x ∈ (if u.length = 0 then [u] else []) ++ (ms ++ (if v.length = 0 then [v] else [])), x.length ≤ 1000 := fun x hx => by
    refine hle x ?_
    rcases List.mem_append.mp hx with h | h
    · split at h
      · rw [List.mem_singleton] at h; subst h; exact .head _
      · cases h
    · rcases List.mem_append.mp h with h | h
      · exact .tail _ (List.mem_append_left _ h)
      · split at h
        · rw [List.mem_singleton] at h; subst h; simp
        · cases h
  have hfin : emR b u ms v = (if (u.length : Int) > (b.length : Int) - (v.length : Int) then false else emLoop b ((b.length : Int) - (v.length : Int)) ((if u.length = 0 then [u] else []) ++ (ms ++ (if v.length = 0 then [v] else []))) (u.length : Int)) := by
    unfold emR; rw [if_neg hq1, if_neg hq2]
  generalize (if u.length = 0 then [u] else []) ++ (ms ++ (if v.length = 0 then [v] else [])) = ws at hws hle2 hfin
  k_steps
  · ((try dsimp only); (repeat (k_unfold; (try dsimp only))))
    exact end_bool hQ (by assumption) (by rw [hfin, if_pos (by assumption)])
  rw [if_neg (by assumption)] at hfin
  refine Hold.off ?_
  rename Fr _ _ _ _ => F2
  rename News _ _ _ _ => N2
  refine for_list (Pm := Value) (fun p => (Sv (Str.ofString "startpos") p (F2m F2))) (fun _ => [])
    (fun i p => ∃ k t, p = .int k t ∧ emLoop b ((b.length : Int) - (v.length : Int)) ws (u.length : Int) = emLoop b ((b.length : Int) - (v.length : Int)) ((ws).drop i) k) [Str.ofString "w"] _ _ (L := L) (vs := strValues l3) rfl rfl (.inr ⟨_, .head _, rfl, _, rfl⟩) rfl (Fr.over F2 (Str.ofString "startpos") rfl) N2 ⟨_, _, rfl, rfl⟩ ?turn ?done
  case turn =>
    rintro i v p u h' tk' I oI hv ⟨q, tq, rfl, hR⟩ hne F' N' K KT
    obtain ⟨x, tx, rfl, hx⟩ := strValues_at hv
    rw [hws] at hx
    have hxl : x.length ≤ 1000 := hle2 x (List.mem_of_getElem? hx)
    rw [drop_at hx, emLoop] at hR
    simp only [AllNe, List.nil_append, and_true] at hne
    dsimp only [List.nil_append] at N'
    dsimp only [F2m] at KT F' ⊢
    clear F2 N2
    k_steps
    · refine KT.ok _ _ ?_
      dsimp only [TurnPost]
      ((try dsimp only); (repeat (k_unfold; (try dsimp only))))
      exact end_bool hQ (by assumption) (by rw [hfin, hR, if_pos (by assumption)])
    · rw [if_neg (by assumption)] at hR
      rename Fr _ _ _ _ => F9
      rename News _ _ _ _ => N9
      refine TurnTo.mk KT (.int (find4 b x q ((b.length : Int) - (v.length : Int)) + (x.length : Int)) ?tq) F9 N9 rfl ⟨_, _, rfl, hR⟩ ?hm (fun _ h => absurd h List.not_mem_nil) (fun _ h => h) trivial
      case hm =>
      intro z hz
      have hzw : z ≠ Str.ofString "w" := by rintro rfl; exact absurd hz (by decide)
      by_cases h1 : z = Str.ofString "startpos"
      · subst h1; rfl
      · simp only [Sv, Tv, h1, hzw, hz, if_false, Bool.false_eq_true]
  case done =>
    rintro p u h' tk' ⟨q, tq, rfl, hR⟩ F' N'
    dsimp only [List.nil_append, F2m] at N' F' ⊢
    clear F2 N2
    have hlen : (strValues l3).length = (ws).length := by rw [← hws]; simp [strValues]
    rw [hlen, List.drop_length, emLoop] at hR
    k_steps
    all_goals ((try dsimp only); (repeat (k_unfold; (try dsimp only))))
    exact end_bool hQ (by assumption) (hR.symm.trans hfin.symm)
end
end Mine

end
section
open PySem PySem.W PyProof.Rows PySem.Calls PySem.Spec
namespace Mine
set_option maxRecDepth 100000 in
set_option maxHeartbeats 8000000 in
theorem c_em0 (w : World) (a b : Str) (ta tb : Tok) (hc : (Builtin.Str.occurrences a (Str.ofString "...") 0 a.length 1).isEmpty = true) :
    Ctr w 490 800 (call (.ref 21) [Value.str a ta, Value.str b tb]) Any (RBool (a == b)) := by
  w_top off
  intro p loose mean mg mb s Q E X T hPre hQ
  refine' enter (binds := [(Str.ofString "want", Value.str a ta), (Str.ofString "got", Value.str b tb)]) (m := (Sv (Str.ofString "got") (Value.str b tb) (Sv (Str.ofString "want") (Value.str a ta) (fun _ => none)))) X T.nolimit ?k6 ?k7 ?k8 ?k9 ?kB ?c2 ?c3 ?c4 ?c5 ?kM ?_
  case kM => exact rfl
  case k6 => k_dflt k_is
  case k7 => k_dflt k_is
  case k8 => decide
  case k9 => exact BindsTo.of_eq rfl
  case kB => exact locs rfl
  case c2 => exact rfl
  case c3 => exact rfl
  case c4 => exact rfl
  case c5 => decide
  intro L h₁ tk₁ F N
  try dsimp only
  k_fold
  k_steps
  all_goals ((try dsimp only); (repeat (k_unfold; (try dsimp only))))
  exact end_bool hQ (by assumption) rfl

/-- a want of pieces that are one word -/
def pinP (w b : Str) (ms : List Str) : Bool :=
  if Txt.startswith b w = true then (if Txt.endswith b w = true then (if (w.length : Int) > (b.length : Int) - (w.length : Int) then false else emLoop b ((b.length : Int) - (w.length : Int)) ms (w.length : Int)) else false) else false
theorem emR_loose (b : Str) (ms : List Str) : emR b (Str.ofString "") ms (Str.ofString "") = emLoop b (b.length : Int) (Str.ofString "" :: (ms ++ [Str.ofString ""])) 0 := by
  have e : (Str.ofString "").length = 0 := by decide
  unfold emR
  rw [if_neg (fun h => h.1 e), if_neg (fun h => h.1 e), e, if_neg (by omega), if_pos rfl]
  simp
theorem c_em1 (w : World) (a b : Str) (ta tb : Tok) (ms : List Str) (ha : a.length ≤ 1000) (hb : b.length ≤ 1000) (hs : Txt.split a (Str.ofString "...") = Str.ofString "" :: (ms ++ [Str.ofString ""])) (hc : (Builtin.Str.occurrences a (Str.ofString "...") 0 a.length 1).isEmpty = false) (hms : ms.length ≤ 1000) :
    Ctr w 490 800 (call (.ref 21) [Value.str a ta, Value.str b tb]) Any (RBool (emLoop b (b.length : Int) (Str.ofString "" :: (ms ++ [Str.ofString ""])) 0)) :=
  emR_loose b ms ▸ c_emG w a b _ _ ta tb ms ha hb hs hc hms
theorem emR_pin {b w₀ : Str} (ms : List Str) (hw : 1 ≤ w₀.length) : emR b w₀ ms w₀ = pinP w₀ b ms := by
  have h0 : ¬ w₀.length = 0 := by omega
  unfold emR pinP
  rw [if_neg h0]
  cases Txt.startswith b w₀ <;> cases Txt.endswith b w₀ <;> simp [h0]
theorem c_em2 (w : World) (a b w₀ : Str) (ta tb : Tok) (ms : List Str) (ha : a.length ≤ 1000) (hb : b.length ≤ 1000) (hw : 1 ≤ w₀.length) (hs : Txt.split a (Str.ofString "...") = w₀ :: (ms ++ [w₀])) (hc : (Builtin.Str.occurrences a (Str.ofString "...") 0 a.length 1).isEmpty = false) (hms : ms.length ≤ 1000) :
    Ctr w 490 800 (call (.ref 21) [Value.str a ta, Value.str b tb]) Any (RBool (pinP w₀ b ms)) :=
  emR_pin ms hw ▸ c_emG w a b _ _ ta tb ms ha hb hs hc hms
end Mine

end
section
open PySem PySem.W PyProof.Rows PySem.Calls PySem.Spec
namespace Mine
local macro_rules | `(tactic| walk_at "call ref") => `(tactic| (k_here; (rename (∀ _ _, Ctr _ _ _ _ _ _) => hem'); k_dflt (refine' Ctr.useB (hem' _ _) (by k_asm) (by k_asm) (by k_asm) (by k_asm) rfl (by k_room) (Nat.le_of_ble_eq_true rfl) trivial ?_; k_whole; intro h' tk' F' N')))
set_option maxRecDepth 100000 in
set_option maxHeartbeats 8000000 in
theorem c_fits (w : World) (a b : Str) (ta tb : Tok) (r : Bool) (hem : ∀ ta tb, Ctr w 490 800 (call (.ref 21) [.str a ta, .str b tb]) Any (RBool r)) :
    Ctr w 480 700 (call (.ref 72) [Value.str a ta, Value.str b tb]) Any (RBool r) := by
  w_top off
  intro p loose mean mg mb s Q E X T hPre hQ
  refine' enter (binds := [(Str.ofString "want", Value.str a ta), (Str.ofString "got", Value.str b tb)]) (m := (Sv (Str.ofString "got") (Value.str b tb) (Sv (Str.ofString "want") (Value.str a ta) (fun _ => none)))) X T.nolimit ?k6 ?k7 ?k8 ?k9 ?kB ?c2 ?c3 ?c4 ?c5 ?kM ?_
  case kM => exact rfl
  case k6 => k_dflt k_is
  case k7 => k_dflt k_is
  case k8 => decide
  case k9 => exact BindsTo.of_eq rfl
  case kB => exact locs rfl
  case c2 => exact rfl
  case c3 => exact rfl
  case c4 => exact rfl
  case c5 => decide
  intro L h₁ tk₁ F N
  try dsimp only
  k_fold
  k_steps
  all_goals ((try dsimp only); (repeat (k_unfold; (try dsimp only))))
  all_goals exact end_bool hQ (by assumption) rfl
end Mine

end
section
open PySem PySem.W PyProof.Rows PySem.Calls PySem.Spec
namespace Mine
section
local macro_rules | `(tactic| walk_at "callWith ref") => `(tactic| (k_here; k_dflt (refine callWith_def_at (by assumption) (by assumption) ?_)))
theorem bis_step {ns : List Int} {φ : Nat → Int} {r : Nat} (hφ : ∀ i : Nat, i < ns.length → (φ i < 1 ↔ i < r)) {a b : Int} (h0 : 0 ≤ a) (hb : b ≤ ns.length) (hab : a < b) :
    (a + b).fdiv 2 = (a + b) / 2 ∧ (φ ((a + b).fdiv 2).toNat < 1 ↔ (a + b) / 2 < r) := by
  have hm : (a + b).fdiv 2 = (a + b) / 2 := Int.fdiv_eq_ediv_of_nonneg _ (by decide)
  have hlt : ((a + b) / 2).toNat < ns.length := by omega
  have := hφ _ hlt
  refine ⟨hm, ?_⟩
  rw [hm, this]
  omega
theorem toNat_lt {x y : Int} (h : x < y) (h0 : 0 < y) : x.toNat < y.toNat := by omega
theorem bis_at {ns : List Int} {φ : Nat → Int} {r : Nat} (hφ : ∀ i : Nat, i < ns.length → (φ i < 1 ↔ i < r)) {a b : Int} (h0 : 0 ≤ a) (hb : b ≤ ns.length) (hab : a < b) :
    ∃ q, (a + b).fdiv 2 = q ∧ a ≤ q ∧ q < b ∧ (φ q.toNat < 1 ↔ q < r) := by
  obtain ⟨hm, st⟩ := bis_step hφ h0 hb hab
  rw [hm] at st
  exact ⟨(a + b) / 2, hm, by omega, by omega, st⟩
theorem mid_lt {a b : Int} {n : Nat} (h0 : 0 ≤ a) (hb : b ≤ (n : Int)) (hab : a < b) : ((a + b).fdiv 2).toNat < n := by
  rw [show (a + b).fdiv 2 = (a + b) / 2 from Int.fdiv_eq_ediv_of_nonneg _ (by decide)]; omega
theorem st_of {Pk : Heap → Prop} {R : Prop} {g h : Heap} {L : Addr} {m : Str → Option Value} (hst : ∀ h h', Keeps h h' → Pk h → Pk h') (hp : Pk g ∧ R) (F : Fr g L h m) : Pk h := hst _ _ F.keep hp.1
local macro_rules | `(tactic| walk_at "call ref") => `(tactic| (k_here; (with_reducible show wpAny _ _ (call (Value.ref _) _) _ _ _); (rename (∀ _ _, _ → Ctr _ _ _ _ _ _) => hk'); k_dflt (refine' Ctr.useI (hk' _ _ (mid_lt (by assumption) (by assumption) (by assumption))) (by k_asm) (by k_asm) (by k_asm) (by k_asm) rfl (by k_room) (Nat.le_of_ble_eq_true rfl) (by exact st_of (by assumption) (by assumption) (by assumption)) ?_; k_whole; intro t' h' tk' F' N')))
inductive BisP (r n : Nat) : Value × Value → Prop
  | mk {a b : Int} {t u : Tok} (h1 : 0 ≤ a) (h2 : a ≤ r) (h3 : (r : Int) ≤ b) (h4 : b ≤ n) : BisP r n (.int a t, .int b u)
set_option maxRecDepth 100000 in
set_option maxHeartbeats 8000000 in
theorem c_bisect (w : World) (l f : Addr) (vs : List Value) (ns : List Int) (tx : Tok) (φ : Nat → Int) (r : Nat) (Pk : Heap → Prop)
    (hst : ∀ h h', Keeps h h' → Pk h → Pk h') (hk : ∀ (j : Nat) t, j < ns.length → Ctr w 470 600 (call (.ref f) [.int (ns.getD j 0) t]) Pk (RInt (φ j)))
    (hf : ∀ h, Pk h → ∃ fo fd, h.get? f = some fo ∧ fo.data = .func fd) (hi : IntsAre vs ns) (hn : ns.length ≤ 100) (hr : r ≤ ns.length) (hφ : ∀ i : Nat, i < ns.length → (φ i < 1 ↔ i < r)) :
    Ctr w 460 500 (call (.ref 30) [.ref l, .int 1 tx] [(Str.ofString "key", .ref f)]) (fun h => Pk h ∧ h.IsList l vs.toArray) (RInt (r : Int)) := by
  w_top off
  intro p loose mean mg mb s Q E X T hPre hQ
  refine' enter (m := Sv (Str.ofString "key") (.ref f) (Sv (Str.ofString "hi") .none (Sv (Str.ofString "lo") (.int 0 ?tlo) (Sv (Str.ofString "x") (.int 1 tx) (Sv (Str.ofString "a") (.ref l) (fun _ => none)))))) X T.nolimit ?k6 ?k7 ?k8 ?k9 ?kB ?c2 ?c3 ?c4 ?c5 ?kM ?_
  case k6 => k_dflt k_is
  case k7 => k_dflt k_is
  case k8 => decide
  case k9 => exact binds_K (by k_in) rfl (by k_is) rfl rfl rfl
  case kM => exact rfl
  case kB => exact locs rfl
  case c2 => exact rfl
  case c3 => exact rfl
  case c4 => exact rfl
  case c5 => decide
  intro L h₁ tk₁ F N
  try dsimp only
  k_fold
  have hl := hPre.2
  obtain ⟨fo, fd, hfo, hfd⟩ := hf _ hPre.1
  k_steps
  refine Hold.off ?_
  rename Fr _ _ _ _ => F2
  rename News _ _ _ _ => N2
  refine while_param (Pm := Value × Value) (fun p => (Sv (Str.ofString "hi") p.2 (Sv (Str.ofString "lo") p.1 (F2m F2)))) (fun _ => [])
    (BisP r ns.length) (fun p => match p with | (.int a _, .int b _) => (b - a).toNat | _ => 0) [Str.ofString "mid"] _ _ (L := L) (Fr.over (Fr.over F2 (Str.ofString "lo") rfl) (Str.ofString "hi") rfl) N2 (BisP.mk (by omega) (by omega) (by omega) (by omega)) ?turn
  case turn =>
    rintro p u h' tk' @⟨a, b, t, t2, h1, h2, h3, h4⟩ F' N' K KT
    dsimp only [F2m] at KT F' ⊢
    clear F2 N2
    dsimp only [List.nil_append] at N'
    k_steps
    · rename Fr _ _ _ _ => F9
      rename News _ _ _ _ => N9
      have hab : a < b := by assumption
      obtain ⟨q, hq, h5, h6, st⟩ := bis_at hφ h1 h4 hab
      rw [hq] at F9
      have hlt := st.mp (by rw [← hq]; assumption)
      clear hφ
      refine TurnTo.mk KT (.int (q + 1) _, .int b t2) (Fr.over F9 (Str.ofString "hi") rfl) N9 rfl ⟨BisP.mk (by omega) (by omega) (by omega) (by omega), by dsimp only; exact toNat_lt (by omega) (by omega)⟩ (svn (l1 := [(Str.ofString "hi", _), (Str.ofString "lo", _), (Str.ofString "mid", _)]) (l2 := [(Str.ofString "hi", _), (Str.ofString "lo", _)]) (l3 := [(Str.ofString "hi", _), (Str.ofString "lo", _)]) rfl rfl rfl) (fun _ h => absurd h List.not_mem_nil) (fun _ h => h) trivial
    · rename Fr _ _ _ _ => F9
      rename News _ _ _ _ => N9
      have hab : a < b := by assumption
      obtain ⟨q, hq, h5, h6, st⟩ := bis_at hφ h1 h4 hab
      rw [hq] at F9
      have hlt := (not_congr st).mp (by rw [← hq]; assumption)
      clear hφ
      refine TurnTo.mk KT (.int a t, .int q _) F9 N9 rfl ⟨BisP.mk (by omega) (by omega) (by omega) (by omega), by dsimp only; exact toNat_lt (by omega) (by omega)⟩ (svn (l1 := [(Str.ofString "hi", _), (Str.ofString "mid", _)]) (l2 := [(Str.ofString "hi", _), (Str.ofString "lo", _)]) (l3 := [(Str.ofString "hi", _), (Str.ofString "lo", _)]) rfl rfl rfl) (fun _ h => absurd h List.not_mem_nil) (fun _ h => h) trivial
    · ((try dsimp only); (repeat (k_unfold; (try dsimp only))))
      exact end_int hQ (by assumption) (by omega)
end
end Mine

end
section
open PySem PySem.W PyProof.Rows PySem.Calls PySem.Spec
namespace Mine
abbrev ledger {g h : Heap} {L : Addr} {news : List (Addr × Obj)} (_ : News g L h news) : List (Addr × Obj) := news
theorem News.pair {g h : Heap} {L : Addr} {l : List (Addr × Obj)} {p q : Addr × Obj} (N : News g L h l) (h1 : p ∈ l) (h2 : q ∈ l) : News g L h [p, q] := fun x hx => by
  rcases List.mem_cons.mp hx with rfl | hx
  · exact N _ h1
  · rw [List.mem_singleton.mp hx]; exact N _ h2
theorem rangeKs_getD (a : Int) (n j : Nat) (h : j < n) : (rangeKs a n).getD j 0 = a + (j : Int) := by
  simp [rangeKs, List.getD, h]
/-- the table of a code behind its first lambda: the lambda's code, once -/
def TabIs (P : Addr) (ln cl : Nat) (qual : Str) (N : List (Addr × Obj)) : Prop :=
  ∃ c' oc vs t, N = [(P, tabObj (#[] ++ #[rawInt (ln : Int), rawInt (cl : Int), .ref c'])), (c', oc)] ∧ oc.data = .fields vs ∧ vs[1]? = some (.str qual t)
abbrev lamQ (n : Str) : Str := n ++ Str.ofString ".<locals>." ++ Str.ofString "<lambda>"
theorem IsList.of_ledger {g h : Heap} {L D : Addr} {l : List (Addr × Obj)} {vs : Array Value} {n : Nat} (N : News g L h l) (hm : (D, W.listOf vs n) ∈ l) : h.IsList D vs := ⟨_, (N _ hm).1, rfl, _, rfl⟩
local macro_rules | `(tactic| walk_at "call type:list") => `(tactic| (k_here; (with_reducible show wpAny _ _ (call (Value.type _) [Value.ref _]) _ _ _); (rename IsRange _ _ _ _ _ _ _ _ => rgX); (with_unfolding_all refine' kll_range ?k0 ?k1 ?k2 ?k3 ?k4 ?k5 ?k6 ?_; (case k0 => rfl); (case k1 => k_asm); (case k2 => k_asm); (case k3 => exact rgX); (case k4 => exact small_one (by omega) (by omega) (by omega) (by omega)); (case k5 => exact rangeSize_nat _ _); (case k6 => omega); k_whole); intro D' vs' c' h' tk' F' N' l1 hI'; (try k_lt l1); (try k_sweep)))
local macro_rules | `(tactic| walk_at "eval Name") => `(tactic| (k_here; k_dflt (refine' free_base (by k_asm) rfl (by assumption) (by assumption) ?_ rfl rfl rfl; k_whole)))
local macro_rules | `(tactic| walk_at "call ref") => `(tactic| (k_here; k_dflt (refine' Ctr.useS (c_loose _ _ _ _ _ (by assumption) (by assumption) (by assumption)) (by k_asm) (by k_asm) (by k_asm) (by k_asm) rfl (by k_room) (Nat.le_of_ble_eq_true rfl) trivial ?_; k_whole; intro t' h' tk' F' N')))
local macro_rules | `(tactic| walk_at "call ref") => `(tactic| (k_here; (rename (∀ _ _, Ctr _ _ _ _ _ _) => hem'); k_dflt (refine' Ctr.useB (c_fits _ _ _ _ _ _ hem') (by k_asm) (by k_asm) (by k_asm) (by k_asm) rfl (by k_room) (Nat.le_of_ble_eq_true rfl) trivial ?_; k_whole; intro h' tk' F' N')))
set_option maxRecDepth 100000 in
set_option maxHeartbeats 8000000 in
theorem c_most_new (w : World) (a b : Str) (ta tb : Tok) (r : Nat) (ha : a.length ≤ 10) (hb : b.length ≤ 6) (hr : r ≤ b.length + 1) 
    (hem : ∀ j : Nat, j < b.length + 1 → ∀ ta tb, Ctr w 490 800 (call (.ref 21) [.str (looseP a (1 + (j : Int))) ta, .str b tb]) Any (RBool (decide (j < r)))) :
    CtrN w 450 400 (call (.ref 86) [.str a ta, .str b tb]) 85 81 [(81, tabObj #[])] (fun v N₁ => (∃ t, v = .int (r : Int) t) ∧ TabIs 81 156 61 (lamQ (Str.ofString "_law_most")) N₁) := by
  w_top off
  refine' enterN (binds := [(Str.ofString "word", Value.str a ta), (Str.ofString "text", Value.str b tb)]) (m := (fun _ => none)) rfl ?k6 ?k7 ?k8 ?k9 ?kB ?kD ?c2 ?c3 ?c4 ?kM ?_
  case k6 => k_dflt k_is
  case k7 => k_dflt k_is
  case k8 => decide
  case k9 => exact fun _ => BindsTo.of_eq rfl
  case kB => rfl
  case kD => decide +kernel
  case kM => exact fun _ => rfl
  case c2 => exact rfl
  case c3 => exact rfl
  case c4 => exact rfl
  intro p loose mean mg mb g L s tk cells X T C F N Y l0
  k_cells Y
  k_lt l0
  simp only [List.cons_append, List.nil_append] at N
  show wpAny _ _ _ _ _ _
  k_fold
  k_steps
  rename Fr _ _ _ _ => F'
  rename News _ _ _ _ => N'
  rename IntsAre _ _ => hI'
  rename _ = Data.fields _ => d1'
  rename _ = some (Value.str (_ ++ _) _) => d2'
  rename _ = Data.cell (bindC _ _ _ (Str.ofString "word")) => dw
  rename _ = Data.cell (bindC _ _ _ (Str.ofString "text")) => dt
  have dw2 : _ = Data.cell (some (Value.str a ta)) := dw
  have dt2 : _ = Data.cell (some (Value.str b tb)) := dt
  show wpAny _ _ (call (.ref 30) [_, .int 1 _] [(Str.ofString "key", .ref _)]) _ _ _
  have e9 : ((b.length : Int) + 2 - 1).toNat = b.length + 1 := by omega
  try rw [e9] at hI'
  refine Ctr.useI (c_bisect w _ _ _ _ _ (fun j => if j < r then 0 else 1) r (fun h => ∀ q ∈ ledger N', h.get? q.1 = some q.2) (fun h h' k hp q hq => k _ _ (hp q hq)) ?hk (fun h hp => ⟨_, _, hp _ (.head _), rfl⟩) hI' (by rw [rangeKs_length]; omega) (by rw [rangeKs_length]; omega) ?hphi) F' N' X T rfl ?ud ?uu ⟨fun q hq => (N' q hq).1, ?hl⟩ ?_
  case ud => k_room
  case uu => exact Nat.le_of_ble_eq_true rfl
  case hl => exact IsList.of_ledger N' (by k_mem)
  case hphi =>
    intro i _
    by_cases h : i < r
    · have h' : ¬ r ≤ i := by omega
      simp [h, h']
    · have h' : r ≤ i := by omega
      simp [h, h']
  case hk =>
    intro j t hj p loose mean mg mb s Q E X T hPre hQ
    rw [rangeKs_length] at hj
    rw [rangeKs_getD _ _ _ hj]
    have hem' := hem j (by omega)
    have hk1 : (0 : Int) ≤ 1 + (j : Int) := by omega
    have hk2 : 1 + (j : Int) ≤ 20 := by omega
    have ho := hPre _ (.head _)
    have hoc := hPre _ (.tail _ (.head _))
    have hw := hPre (L + 1, _) (by k_mem)
    have ht := hPre (L + 1 + 1, _) (by k_mem)
    refine enterL (binds := [(Str.ofString "k", .int (1 + (j : Int)) t)]) T.nolimit ho ⟨_, _, _, _, rfl, hoc, d1', d2'⟩ (by decide) rfl (locs rfl) rfl rfl rfl (by decide) ?_
    intro L2 h2 F N
    show wpAny _ _ _ _ _ _
    k_steps
    all_goals ((try dsimp only); (repeat (k_unfold; (try dsimp only))))
    all_goals (refine end_int hQ (by assumption) ?_; simp only [*, if_true, if_false])
  intro t h' tk' F2 N2
  ((try dsimp only); (repeat (k_unfold; (try dsimp only))))
  exact ⟨_, _, _, _, rfl, F2, News.pair N2 (by k_mem) (by k_mem), ⟨_, rfl⟩, _, _, _, _, rfl, d1', d2'⟩
set_option maxRecDepth 100000 in
set_option maxHeartbeats 8000000 in
theorem c_most_hit (w : World) (a b : Str) (ta tb : Tok) (r : Nat) (ha : a.length ≤ 10) (hb : b.length ≤ 6) (hr : r ≤ b.length + 1) (N₀ : List (Addr × Obj)) (hN₀ : TabIs 81 156 61 (lamQ (Str.ofString "_law_most")) N₀) 
    (hem : ∀ j : Nat, j < b.length + 1 → ∀ ta tb, Ctr w 490 800 (call (.ref 21) [.str (looseP a (1 + (j : Int))) ta, .str b tb]) Any (RBool (decide (j < r)))) :
    CtrN w 450 400 (call (.ref 86) [.str a ta, .str b tb]) 85 81 N₀ (fun v N₁ => (∃ t, v = .int (r : Int) t) ∧ N₁ = N₀) := by
  w_top off
  obtain ⟨c', oc', vs', t', rfl, d1', d2'⟩ := hN₀
  refine' enterN (binds := [(Str.ofString "word", Value.str a ta), (Str.ofString "text", Value.str b tb)]) (m := (fun _ => none)) rfl ?k6 ?k7 ?k8 ?k9 ?kB ?kD ?c2 ?c3 ?c4 ?kM ?_
  case k6 => k_dflt k_is
  case k7 => k_dflt k_is
  case k8 => decide
  case k9 => exact fun _ => BindsTo.of_eq rfl
  case kB => rfl
  case kD => decide +kernel
  case kM => exact fun _ => rfl
  case c2 => exact rfl
  case c3 => exact rfl
  case c4 => exact rfl
  intro p loose mean mg mb g L s tk cells X T C F N Y l0
  k_cells Y
  k_lt l0
  simp only [List.cons_append, List.nil_append] at N
  show wpAny _ _ _ _ _ _
  k_fold
  k_steps
  rename Fr _ _ _ _ => F'
  rename News _ _ _ _ => N'
  rename IntsAre _ _ => hI'
  
  rename _ = Data.cell (bindC _ _ _ (Str.ofString "word")) => dw
  rename _ = Data.cell (bindC _ _ _ (Str.ofString "text")) => dt
  have dw2 : _ = Data.cell (some (Value.str a ta)) := dw
  have dt2 : _ = Data.cell (some (Value.str b tb)) := dt
  show wpAny _ _ (call (.ref 30) [_, .int 1 _] [(Str.ofString "key", .ref _)]) _ _ _
  have e9 : ((b.length : Int) + 2 - 1).toNat = b.length + 1 := by omega
  try rw [e9] at hI'
  refine Ctr.useI (c_bisect w _ _ _ _ _ (fun j => if j < r then 0 else 1) r (fun h => ∀ q ∈ ledger N', h.get? q.1 = some q.2) (fun h h' k hp q hq => k _ _ (hp q hq)) ?hk (fun h hp => ⟨_, _, hp _ (.head _), rfl⟩) hI' (by rw [rangeKs_length]; omega) (by rw [rangeKs_length]; omega) ?hphi) F' N' X T rfl ?ud ?uu ⟨fun q hq => (N' q hq).1, ?hl⟩ ?_
  case ud => k_room
  case uu => exact Nat.le_of_ble_eq_true rfl
  case hl => exact IsList.of_ledger N' (by k_mem)
  case hphi =>
    intro i _
    by_cases h : i < r
    · have h' : ¬ r ≤ i := by omega
      simp [h, h']
    · have h' : r ≤ i := by omega
      simp [h, h']
  case hk =>
    intro j t hj p loose mean mg mb s Q E X T hPre hQ
    rw [rangeKs_length] at hj
    rw [rangeKs_getD _ _ _ hj]
    have hem' := hem j (by omega)
    have hk1 : (0 : Int) ≤ 1 + (j : Int) := by omega
    have hk2 : 1 + (j : Int) ≤ 20 := by omega
    have ho := hPre _ (.head _)
    have hoc := hPre (c', _) (by k_mem)
    have hw := hPre (L + 1, _) (by k_mem)
    have ht := hPre (L + 1 + 1, _) (by k_mem)
    refine enterL (binds := [(Str.ofString "k", .int (1 + (j : Int)) t)]) T.nolimit ho ⟨_, _, _, _, rfl, hoc, d1', d2'⟩ (by decide) rfl (locs rfl) rfl rfl rfl (by decide) ?_
    intro L2 h2 F N
    show wpAny _ _ _ _ _ _
    k_steps
    all_goals ((try dsimp only); (repeat (k_unfold; (try dsimp only))))
    all_goals (refine end_int hQ (by assumption) ?_; simp only [*, if_true, if_false])
  intro t h' tk' F2 N2
  ((try dsimp only); (repeat (k_unfold; (try dsimp only))))
  exact ⟨_, _, _, _, rfl, F2, News.pair N2 (by k_mem) (by k_mem), ⟨_, rfl⟩, rfl⟩
set_option maxRecDepth 100000 in
set_option maxHeartbeats 8000000 in
theorem c_end_new (w : World) (a b : Str) (ta tb : Tok) (r : Nat) (kk : Int) (tk₀ : Tok) (hkk : 0 ≤ kk) (hkk2 : kk ≤ 20) (ha : a.length ≤ 10) (hb : b.length ≤ 6) (hr : r ≤ b.length + 1) 
    (hem : ∀ j : Nat, j < b.length + 1 → ∀ ta tb, Ctr w 490 800 (call (.ref 21) [.str (looseP a kk) ta, .str (Txt.slice b none (some (0 + (j : Int)))) tb]) Any (RBool (decide (r ≤ j)))) :
    CtrN w 450 400 (call (.ref 93) [.str a ta, .int kk tk₀, .str b tb]) 92 88 [(88, tabObj #[])] (fun v N₁ => (∃ t, v = .int (r : Int) t) ∧ TabIs 88 158 58 (lamQ (Str.ofString "_law_end")) N₁) := by
  w_top off
  refine' enterN (binds := [(Str.ofString "word", Value.str a ta), (Str.ofString "k", Value.int kk tk₀), (Str.ofString "text", Value.str b tb)]) (m := (fun _ => none)) rfl ?k6 ?k7 ?k8 ?k9 ?kB ?kD ?c2 ?c3 ?c4 ?kM ?_
  case k6 => k_dflt k_is
  case k7 => k_dflt k_is
  case k8 => decide
  case k9 => exact fun _ => BindsTo.of_eq rfl
  case kB => rfl
  case kD => decide +kernel
  case kM => exact fun _ => rfl
  case c2 => exact rfl
  case c3 => exact rfl
  case c4 => exact rfl
  intro p loose mean mg mb g L s tk cells X T C F N Y l0
  k_cells Y
  k_lt l0
  simp only [List.cons_append, List.nil_append] at N
  show wpAny _ _ _ _ _ _
  k_fold
  k_steps
  rename Fr _ _ _ _ => F'
  rename News _ _ _ _ => N'
  rename IntsAre _ _ => hI'
  rename _ = Data.fields _ => d1'
  rename _ = some (Value.str (_ ++ _) _) => d2'
  rename _ = Data.cell (bindC _ _ _ (Str.ofString "word")) => dw
  rename _ = Data.cell (bindC _ _ _ (Str.ofString "text")) => dt
  have dw2 : _ = Data.cell (some (Value.str a ta)) := dw
  have dt2 : _ = Data.cell (some (Value.str b tb)) := dt
  rename _ = Data.cell (bindC _ _ _ (Str.ofString "k")) => dk
  have dk2 : _ = Data.cell (some (Value.int kk tk₀)) := dk
  show wpAny _ _ (call (.ref 30) [_, .int 1 _] [(Str.ofString "key", .ref _)]) _ _ _
  have e9 : ((b.length : Int) + 1 - 0).toNat = b.length + 1 := by omega
  try rw [e9] at hI'
  refine Ctr.useI (c_bisect w _ _ _ _ _ (fun j => if r ≤ j then 1 else 0) r (fun h => ∀ q ∈ ledger N', h.get? q.1 = some q.2) (fun h h' k hp q hq => k _ _ (hp q hq)) ?hk (fun h hp => ⟨_, _, hp _ (.head _), rfl⟩) hI' (by rw [rangeKs_length]; omega) (by rw [rangeKs_length]; omega) ?hphi) F' N' X T rfl ?ud ?uu ⟨fun q hq => (N' q hq).1, ?hl⟩ ?_
  case ud => k_room
  case uu => exact Nat.le_of_ble_eq_true rfl
  case hl => exact IsList.of_ledger N' (by k_mem)
  case hphi =>
    intro i _
    by_cases h : i < r
    · have h' : ¬ r ≤ i := by omega
      simp [h, h']
    · have h' : r ≤ i := by omega
      simp [h, h']
  case hk =>
    intro j t hj p loose mean mg mb s Q E X T hPre hQ
    rw [rangeKs_length] at hj
    rw [rangeKs_getD _ _ _ hj]
    have hem' := hem j (by omega)
    skip
    have ho := hPre _ (.head _)
    have hoc := hPre _ (.tail _ (.head _))
    have hw := hPre (L + 1, _) (by k_mem)
    have ht := hPre (L + 1 + 1 + 1, _) (by k_mem)
    have hk := hPre (L + 1 + 1, _) (by k_mem)
    refine enterL (binds := [(Str.ofString "end", .int (0 + (j : Int)) t)]) T.nolimit ho ⟨_, _, _, _, rfl, hoc, d1', d2'⟩ (by decide) rfl (locs rfl) rfl rfl rfl (by decide) ?_
    intro L2 h2 F N
    show wpAny _ _ _ _ _ _
    k_steps
    all_goals ((try dsimp only); (repeat (k_unfold; (try dsimp only))))
    all_goals (refine end_int hQ (by assumption) ?_; simp only [*, if_true, if_false])
  intro t h' tk' F2 N2
  ((try dsimp only); (repeat (k_unfold; (try dsimp only))))
  exact ⟨_, _, _, _, rfl, F2, News.pair N2 (by k_mem) (by k_mem), ⟨_, rfl⟩, _, _, _, _, rfl, d1', d2'⟩
set_option maxRecDepth 100000 in
set_option maxHeartbeats 8000000 in
theorem c_end_hit (w : World) (a b : Str) (ta tb : Tok) (r : Nat) (kk : Int) (tk₀ : Tok) (hkk : 0 ≤ kk) (hkk2 : kk ≤ 20) (ha : a.length ≤ 10) (hb : b.length ≤ 6) (hr : r ≤ b.length + 1) (N₀ : List (Addr × Obj)) (hN₀ : TabIs 88 158 58 (lamQ (Str.ofString "_law_end")) N₀) 
    (hem : ∀ j : Nat, j < b.length + 1 → ∀ ta tb, Ctr w 490 800 (call (.ref 21) [.str (looseP a kk) ta, .str (Txt.slice b none (some (0 + (j : Int)))) tb]) Any (RBool (decide (r ≤ j)))) :
    CtrN w 450 400 (call (.ref 93) [.str a ta, .int kk tk₀, .str b tb]) 92 88 N₀ (fun v N₁ => (∃ t, v = .int (r : Int) t) ∧ N₁ = N₀) := by
  w_top off
  obtain ⟨c', oc', vs', t', rfl, d1', d2'⟩ := hN₀
  refine' enterN (binds := [(Str.ofString "word", Value.str a ta), (Str.ofString "k", Value.int kk tk₀), (Str.ofString "text", Value.str b tb)]) (m := (fun _ => none)) rfl ?k6 ?k7 ?k8 ?k9 ?kB ?kD ?c2 ?c3 ?c4 ?kM ?_
  case k6 => k_dflt k_is
  case k7 => k_dflt k_is
  case k8 => decide
  case k9 => exact fun _ => BindsTo.of_eq rfl
  case kB => rfl
  case kD => decide +kernel
  case kM => exact fun _ => rfl
  case c2 => exact rfl
  case c3 => exact rfl
  case c4 => exact rfl
  intro p loose mean mg mb g L s tk cells X T C F N Y l0
  k_cells Y
  k_lt l0
  simp only [List.cons_append, List.nil_append] at N
  show wpAny _ _ _ _ _ _
  k_fold
  k_steps
  rename Fr _ _ _ _ => F'
  rename News _ _ _ _ => N'
  rename IntsAre _ _ => hI'
  
  rename _ = Data.cell (bindC _ _ _ (Str.ofString "word")) => dw
  rename _ = Data.cell (bindC _ _ _ (Str.ofString "text")) => dt
  have dw2 : _ = Data.cell (some (Value.str a ta)) := dw
  have dt2 : _ = Data.cell (some (Value.str b tb)) := dt
  rename _ = Data.cell (bindC _ _ _ (Str.ofString "k")) => dk
  have dk2 : _ = Data.cell (some (Value.int kk tk₀)) := dk
  show wpAny _ _ (call (.ref 30) [_, .int 1 _] [(Str.ofString "key", .ref _)]) _ _ _
  have e9 : ((b.length : Int) + 1 - 0).toNat = b.length + 1 := by omega
  try rw [e9] at hI'
  refine Ctr.useI (c_bisect w _ _ _ _ _ (fun j => if r ≤ j then 1 else 0) r (fun h => ∀ q ∈ ledger N', h.get? q.1 = some q.2) (fun h h' k hp q hq => k _ _ (hp q hq)) ?hk (fun h hp => ⟨_, _, hp _ (.head _), rfl⟩) hI' (by rw [rangeKs_length]; omega) (by rw [rangeKs_length]; omega) ?hphi) F' N' X T rfl ?ud ?uu ⟨fun q hq => (N' q hq).1, ?hl⟩ ?_
  case ud => k_room
  case uu => exact Nat.le_of_ble_eq_true rfl
  case hl => exact IsList.of_ledger N' (by k_mem)
  case hphi =>
    intro i _
    by_cases h : i < r
    · have h' : ¬ r ≤ i := by omega
      simp [h, h']
    · have h' : r ≤ i := by omega
      simp [h, h']
  case hk =>
    intro j t hj p loose mean mg mb s Q E X T hPre hQ
    rw [rangeKs_length] at hj
    rw [rangeKs_getD _ _ _ hj]
    have hem' := hem j (by omega)
    skip
    have ho := hPre _ (.head _)
    have hoc := hPre (c', _) (by k_mem)
    have hw := hPre (L + 1, _) (by k_mem)
    have ht := hPre (L + 1 + 1 + 1, _) (by k_mem)
    have hk := hPre (L + 1 + 1, _) (by k_mem)
    refine enterL (binds := [(Str.ofString "end", .int (0 + (j : Int)) t)]) T.nolimit ho ⟨_, _, _, _, rfl, hoc, d1', d2'⟩ (by decide) rfl (locs rfl) rfl rfl rfl (by decide) ?_
    intro L2 h2 F N
    show wpAny _ _ _ _ _ _
    k_steps
    all_goals ((try dsimp only); (repeat (k_unfold; (try dsimp only))))
    all_goals (refine end_int hQ (by assumption) ?_; simp only [*, if_true, if_false])
  intro t h' tk' F2 N2
  ((try dsimp only); (repeat (k_unfold; (try dsimp only))))
  exact ⟨_, _, _, _, rfl, F2, News.pair N2 (by k_mem) (by k_mem), ⟨_, rfl⟩, rfl⟩
end Mine

end
section
open PySem PySem.W PyProof.Rows PySem.Calls PySem.Spec
namespace Mine
/-- a text by its codes -/
abbrev Cs (l : List Nat) : Str := ⟨l.toArray⟩
theorem Cs_len (l : List Nat) : (Cs l).length = l.length := by simp [Str.length, Cs]
theorem Cs_inj {l l' : List Nat} (h : Cs l = Cs l') : l = l' := by
  have := congrArg (fun x : Str => x.cps.toList) h
  simpa using this
theorem Cs_beq (l l' : List Nat) : (Cs l == Cs l') = decide (l = l') := by
  by_cases h : l = l'
  · subst h; simp
  · have : ¬ (Cs l = Cs l') := fun e => h (Cs_inj e)
    simp [h, this]
theorem slice_from {l : List Nat} {k : Nat} (h : k ≤ l.length) : Txt.slice (Cs l) (some (k : Int)) none = Cs (l.drop k) := by
  rw [slice_from_eq (b := (l.length : Int)) (by omega) (by rw [Cs_len]; omega) (by rw [Cs_len])]
  have e : ((l.length : Int) - (k : Int)).toNat = l.length - k := by omega
  rw [e]
  simp only [Cs, Int.toNat_natCast, List.toList_toArray]
  rw [List.take_of_length_le (by simp)]
theorem slice_to {l : List Nat} {k : Nat} (h : k ≤ l.length) : Txt.slice (Cs l) none (some (k : Int)) = Cs (l.take k) := by
  have := slice_closes_to (x := Cs l) (j := (k : Int)) ⟨by omega, by simpa using h⟩
  have e := beq_iff_eq.mp this
  rw [e]
  have e2 : (((k : Int)) - 0).toNat = k := by omega
  rw [e2]
  simp
theorem item_at {l : List Nat} {k : Nat} (h : k < l.length) : Txt.item (Cs l) (k : Int) = Cs [l[k]] := by
  rw [item_meets (n := l[k]) (by omega) (by simp [Cs, h])]
theorem item_back {l : List Nat} {k : Nat} (h : k < l.length) (i : Int) (hi : i = (k : Int) - (l.length : Int)) : Txt.item (Cs l) i = Cs [l[k]] := by
  have := item_closes_neg (x := Cs l) (i := i) (j := (k : Int)) (by omega) (by rw [Cs_len]; omega) (by rw [Cs_len]; omega)
  rw [beq_iff_eq.mp this]
  simp [Cs, h]
theorem slice_back {l : List Nat} {k : Nat} (h : k ≤ l.length) (i : Int) (hi : i = (k : Int) - (l.length : Int)) (h0 : i < 0) : Txt.slice (Cs l) none (some i) = Cs (l.take k) := by
  rw [← slice_to h]
  have e : Builtin.Str.strSliceIndices none (some i) 1 (Cs l).length = Builtin.Str.strSliceIndices none (some (k : Int)) 1 (Cs l).length := by
    have h1 : ¬ ((k : Int) < 0) := by omega
    have h2 : i + (l.length : Int) = (k : Int) := by omega
    have h3 : max (k : Int) 0 = (k : Int) := by omega
    have h4 : min (k : Int) (l.length : Int) = (k : Int) := by omega
    simp only [Builtin.Str.strSliceIndices, Cs_len, h0, h1, h2, h3, h4, if_true, if_false]
  unfold Txt.slice
  rw [e]
theorem item_beq {la lb : List Nat} {k : Nat} (ha : k < la.length) (hb : k < lb.length) : (Txt.item (Cs la) (k : Int) == Txt.item (Cs lb) (k : Int)) = decide (la[k] = lb[k]) := by
  rw [item_at ha, item_at hb, Cs_beq]
  simp
theorem item_beq_back {la lb : List Nat} {k : Nat} (ha : k < la.length) (hb : k < lb.length) (i : Int) (hi : i = (k : Int) - (la.length : Int)) (hn : la.length = lb.length) : (Txt.item (Cs la) i == Txt.item (Cs lb) i) = decide (la[k] = lb[k]) := by
  rw [item_back ha i hi, item_back hb i (by omega), Cs_beq]
  simp
theorem slice_all (l : List Nat) : Txt.slice (Cs l) none none = Cs l := by
  have e : Builtin.Str.strSliceIndices none none 1 (Cs l).length = Builtin.Str.strSliceIndices none (some (l.length : Int)) 1 (Cs l).length := by
    have h1 : ¬ ((l.length : Int) < 0) := by omega
    have h3 : max (0 : Int) (l.length : Int) = (l.length : Int) := by omega
    simp only [Builtin.Str.strSliceIndices, Cs_len, h1, h3, if_true, if_false, Int.min_self, show (1 : Int) > 0 by decide]
  have := slice_to (l := l) (k := l.length) (Nat.le_refl _)
  unfold Txt.slice at this ⊢
  rw [e, this, List.take_length]
theorem ints_of : ∀ (n : Nat) (f : Nat → Int) (vs : List Value), vs.length = n → (∀ (j : Nat) (v : Value), vs[j]? = some v → ∃ t, v = Value.int (f j) t) → IntsAre vs ((List.range n).map f)
  | 0, _, vs, h, _ => by
    rw [List.length_eq_zero_iff.mp h]; exact .nil
  | n + 1, f, v :: vs, h, hv => by
    obtain ⟨t, rfl⟩ := hv 0 v rfl
    rw [List.range_succ_eq_map, List.map_cons, List.map_map]
    exact .cons _ _ (ints_of n (f ∘ Nat.succ) vs (by simpa using h) fun j w hj => hv (j + 1) w (by simpa using hj))
theorem fitsL {i : Int} (h0 : -1000000 ≤ i) (h1 : i ≤ 1000000) : Builtin.Range.rangeFitsLong i = true := by
  unfold Builtin.Range.rangeFitsLong
  rw [Bool.and_eq_true]
  exact ⟨decide_eq_true (by omega), decide_eq_true (by omega)⟩
theorem list_range2 {w : World} {A : Around} {s : Shared} {E : Value → Shared → Prop} {Q : Value → Shared → Prop} {h₀ : Heap} {L r : Addr} {m : Str → Option Value} {news : List (Addr × Obj)} {b : Int} {t₀ u₀ v₀ : Tok}
    (hh : A.handled = none) (F : Fr h₀ L s.heap m) (N : News h₀ L s.heap news) (hr : IsRange s.heap r 2 b 2 t₀ u₀ v₀) (n : Nat) (hb : b = 2 * ((n : Int) + 1)) (h1 : 1 ≤ n) (hn : n ≤ 1000)
    (h : ∀ D us c h' tk, Fr h₀ L h' m → News h₀ L h' ((D, W.listOf (List.toArray us) c) :: news) → (∀ p ∈ news, p.1 < D) → IntsAre us ((List.range n).map fun i : Nat => 2 + (i : Int) * 2) → Q (.ref D) { s with heap := h', toks := tk }) :
    wpAny (model PP w) A (call (.type "list") [.ref r]) Q E s := by
  subst hb
  have hsz : Builtin.Range.rangeSize 2 (2 * ((n : Int) + 1)) 2 = (n : Int) := by
    unfold Builtin.Range.rangeSize
    rw [if_pos (by decide), if_pos (by omega)]
    omega
  have hsm : Builtin.Range.small 2 (2 * ((n : Int) + 1)) 2 = true := by
    unfold Builtin.Range.small
    rw [hsz, fitsL (by omega) (by omega), fitsL (by omega) (by omega), fitsL (by omega) (by omega), if_pos (by decide), fitsL (i := 2 * ((n : Int) + 1) + (2 - 1)) (by omega) (by omega)]
    simp
  refine call_list_range hh hr hsm hsz (by omega) fun h' tk acc c hk hD hI => ?_
  have hD' : h'.get? s.heap.objs.size = some (W.listOf (List.toArray acc.toList) c) := by
    rw [Array.toArray_toList]; exact hD
  refine h _ acc.toList c h' tk (F.grownK hk) (fun p hp => ?_) (fun p hp => Heap.lt_size (N p hp).1) ?_
  · rcases List.mem_cons.mp hp with rfl | hp
    · exact ⟨hD', Nat.ne_of_gt F.ns.lt, next_is_new F⟩
    · exact N.grown hk p hp
  · exact ints_of n _ _ (by rw [Array.length_toList]; exact hI.1) fun j v hj => hI.2 j v (by rw [← hj, Array.getElem?_toList])
/-- the rows of the distances: after i signs of b, at the place j -/
def levNext (i : Int) (σ : Nat → Int) (r : Nat → Int) : Nat → Int
  | 0 => min (min (2 * i) (r 0) + 2) (2 * i + σ 0)
  | j + 1 => min (min (levNext i σ r j) (r (j + 1)) + 2) (r j + σ (j + 1))
def levR (σ : Nat → Nat → Int) : Nat → Nat → Int
  | 0, j => 2 * ((j : Int) + 1)
  | i + 1, j => levNext i (σ i) (levR σ i) j
def levOut (σ : Nat → Nat → Int) (m : Nat) : Nat → Int
  | 0 => 0
  | i + 1 => levR σ (i + 1) (m - 1)
def levSub (la lb : List Nat) (i j : Nat) : Int := subCost (Cs [lb.getD i 0]) (Cs [la.getD j 0])
def levLf (i : Int) (nx : Nat → Int) : Nat → Int
  | 0 => 2 * i
  | j + 1 => nx j
theorem levR_at (σ : Nat → Nat → Int) (i j : Nat) : levR σ (i + 1) j = min (min (levLf i (levR σ (i + 1)) j) (levR σ i j) + 2) (levLf i (levR σ i) j + σ i j) := by
  cases j <;> rfl
theorem ki_setL_of {v : Value} : ∀ {l : List Value} {k : Nat}, k < l.length → ki_setL l k v = some (l.set k v)
  | [], _, h => absurd h (Nat.not_lt_zero _)
  | _ :: _, 0, _ => rfl
  | x :: r, k + 1, h => by
    unfold ki_setL
    rw [ki_setL_of (Nat.lt_of_succ_lt_succ h)]
    rfl
theorem IntsAre.set {t : Tok} {x : Int} : ∀ {vs : List Value} {ns : List Int} {k : Nat}, IntsAre vs ns → IntsAre (vs.set k (.int x t)) (ns.set k x)
  | _, _, _, .nil => .nil
  | _, _, 0, .cons n u h => .cons _ _ h
  | _, _, k + 1, .cons n u h => .cons _ _ (IntsAre.set h)
theorem row_set {m j : Nat} (hj : j < m) (f g : Nat → Int) : ((List.range m).map fun t => if t < j then f t else g t).set j (f j) = (List.range m).map fun t => if t < j + 1 then f t else g t := by
  apply List.ext_getElem
  · simp
  · intro k h1 h2
    simp only [List.length_set, List.length_map, List.length_range] at h1
    rw [List.getElem_set]
    by_cases e : j = k
    · subst e; simp
    · rw [if_neg e]
      simp only [List.getElem_map, List.getElem_range]
      by_cases h3 : k < j
      · rw [if_pos h3, if_pos (by omega)]
      · rw [if_neg h3, if_neg (by omega)]
inductive LevV (lo : Nat) : Value → Prop
  | mk {k : Nat} {t : Tok} (h : k ≤ lo) : LevV lo (.int (k : Int) t)
inductive LevW (hj n : Nat) : Value → Prop
  | mk {k : Nat} {t : Tok} (h : k + hj ≤ n) : LevW hj n (.int (-(k : Int)) t)
inductive LevI (σ : Nat → Nat → Int) (hj i : Nat) : Value × List Value × Nat → Prop
  | mk {tr : Tok} {vs : List Value} {nn : Nat} (hvs : IntsAre vs ((List.range hj).map (levR σ i))) : LevI σ hj i (.int (levOut σ hj i) tr, vs, nn)
inductive LevJ (σ : Nat → Nat → Int) (hj i j : Nat) : Value × Value × Value × List Value × Nat → Prop
  | mk {td tr tm : Tok} {mn : Int} {vs : List Value} {nn : Nat} (hmn : ∀ t, t < j → mn ≤ levR σ (i + 1) t) (hvs : IntsAre vs ((List.range hj).map fun t => if t < j then levR σ (i + 1) t else levR σ i t)) :
      LevJ σ hj i j (.int (levLf i (levR σ i) j) td, .int (levLf i (levR σ (i + 1)) j) tr, .int mn tm, vs, nn)
inductive LevMid (g : Heap) (L : Addr) (s : Shared) (a b : Str) (mc : Int) : Shared → Prop
  | mk {h : Heap} {tk : Nat} {m : Str → Option Value} {t1 t2 t3 : Tok} (F : Fr g L h (Sv (Str.ofString "a") (.str a t1) (Sv (Str.ofString "b") (.str b t2) (Sv (Str.ofString "max_cost") (.int mc t3) m)))) :
      LevMid g L s a b mc { heap := h, gens := s.gens, drawn := s.drawn, toks := tk, os := s.os }
section
local macro_rules | `(tactic| walk_at "setItem ref int") => `(tactic| (k_here; k_dflt (refine' ki_set ?F ?N ?a ?b (ki_setL_of ?k) ?U ?_; (case F => k_asm); (case N => k_asm); (case U => k_upd); (case a => omega); (case b => omega); (case k => (try simp only [Array.length_toList, List.size_toArray]); omega)); intro h' F' N'; (try dsimp only [List.nil_append, List.cons_append] at N')))
local macro_rules | `(tactic| walk_at "call ref") => `(tactic| (k_here; k_dflt (refine' Ctr.useI ((by assumption : ∀ ta tb, Ctr _ _ _ (call (.ref 51) [.str _ ta, .str _ tb]) Any (RInt _)) _ _) (by k_asm) (by k_asm) (by k_asm) (by k_asm) rfl (by k_room) (Nat.le_of_ble_eq_true rfl) trivial ?_; k_whole; intro t' h' tk' F' N')))
local macro_rules | `(tactic| walk_at "call type:list") => `(tactic| (k_here; (with_reducible show wpAny _ _ (call (Value.type _) [Value.ref _]) _ _ _); (rename IsRange _ _ _ _ _ _ _ _ => rgX); (with_unfolding_all refine' list_range2 ?k0 ?k1 ?k2 rgX _ (congrArg (fun x : Int => 2 * (x + 1)) (by assumption)) ?k5 ?k6 ?_; (case k0 => rfl); (case k1 => k_asm); (case k2 => k_asm); (case k5 => omega); (case k6 => omega); k_whole); intro D' vs' c' h' tk' F' N' l1 hI'; (try k_lt l1)))
local macro_rules | `(tactic| walk_at "subscriptTail Name Slice str ref") => `(tactic| (k_here; (with_reducible show wpAny _ _ (subscriptTail _ (Expr.Slice none (some (Expr.BoolOp _ _ _)) none _) (Value.str _ _) _) _ _ _); (with_reducible rename Fr _ _ _ _ => F'); (with_reducible rename News _ _ _ _ => N'); (refine slice_strN_nn_len (hsz := ?hsz) (s := ⟨_, _, _, _, _⟩) F' N' ?_); (case hsz => rw [Cs_len, sizeLine_eq]; omega); intro _ _ _ _ _ _))
local macro_rules | `(tactic| walk_at "truthy str") => `(tactic| (k_here; refine KXt.truthy_pos (by assumption) (by assumption) (by omega) ?_; intro _))
theorem ine_yes {x y : Int} {P Q : Prop} (h : x ≠ y) (p : P) : if (x != y) = true then P else Q := by rw [if_pos (bne_iff_ne.mpr h)]; exact p
theorem ine_no {x y : Int} {P Q : Prop} (h : x = y) (q : Q) : if (x != y) = true then P else Q := by rw [if_neg (by rw [h]; simp)]; exact q
local macro_rules | `(tactic| walk_at "ite") => `(tactic| first | refine ine_yes (by omega) ?_ | refine ine_no (by omega) ?_)
set_option maxRecDepth 100000 in
set_option maxHeartbeats 8000000 in
theorem c_lev (w : World) (la lb : List Nat) (ta tb tc : Tok) (mc : Int) (hmc0 : 0 ≤ mc) (lo hi : Nat) (hn : la.length = lb.length) (hn10 : la.length ≤ 10) (hlo : lo < hi) (hhi : hi ≤ la.length)
    (hpre : ∀ i, (h : i < la.length) → i < lo → la[i] = lb[i]'(hn ▸ h)) (hpost : ∀ i, (h : i < la.length) → hi ≤ i → la[i] = lb[i]'(hn ▸ h))
    (hnl : ∀ (h : lo < la.length), la[lo] ≠ lb[lo]'(hn ▸ h)) (hnh : ∀ (h : hi - 1 < la.length), la[hi - 1] ≠ lb[hi - 1]'(hn ▸ h))
    (hdg : ∀ i, i < hi - lo → levR (levSub ((la.drop lo).take (hi - lo)) ((lb.drop lo).take (hi - lo))) (i + 1) i ≤ mc) :
    Ctr w 480 700 (call (.ref 58) [Value.str (Cs la) ta, Value.str (Cs lb) tb, Value.int mc tc]) Any (RInt (levOut (levSub ((la.drop lo).take (hi - lo)) ((lb.drop lo).take (hi - lo))) (hi - lo) (hi - lo))) := by
  w_top off
  intro p loose mean mg mb s Q E X T hPre hQ
  refine' enter (binds := [(Str.ofString "a", Value.str (Cs la) ta), (Str.ofString "b", Value.str (Cs lb) tb), (Str.ofString "max_cost", Value.int mc tc)]) (m := (Sv (Str.ofString "max_cost") (Value.int mc tc) (Sv (Str.ofString "b") (Value.str (Cs lb) tb) (Sv (Str.ofString "a") (Value.str (Cs la) ta) (fun _ => none))))) X T.nolimit ?k6 ?k7 ?k8 ?k9 ?kB ?c2 ?c3 ?c4 ?c5 ?kM ?_
  case kM => exact rfl
  case k6 => k_dflt k_is
  case k7 => k_dflt k_is
  case k8 => decide
  case k9 => exact BindsTo.of_eq rfl
  case kB => exact locs rfl
  case c2 => exact rfl
  case c3 => exact rfl
  case c4 => exact rfl
  case c5 => decide
  intro L h₁ tk₁ F N
  try dsimp only
  k_fold
  have hab : (Cs la == Cs lb) = false := by
    rw [Cs_beq]
    apply decide_eq_false
    intro e
    subst e
    exact hnl (by omega) rfl
  refine cut_key 5 (LevMid s.heap L s (Cs (la.drop lo)) (Cs (lb.drop lo)) mc) ?p1 ?p2
  case p1 =>
    intro R hkey
    dsimp only [List.take]
    k_steps
    refine Hold.off ?_
    rename Fr _ _ _ _ => F2
    rename News _ _ _ _ => N2
    refine while_param (Pm := Value) (fun p => (Sv (Str.ofString "pre") p (F2m F2))) (fun _ => [])
      (LevV lo) (fun p => match p with | .int a _ => (lo : Nat) - a.toNat | _ => 0) [Str.ofString "post"] _ _ (L := L) (Fr.over F2 (Str.ofString "pre") rfl) N2 (LevV.mk (k := 0) (Nat.zero_le _)) ?turn
    case turn =>
      rintro p u h' tk' ⟨hk⟩ F' N' K KT
      rename_i k t
      dsimp only [F2m] at KT F' ⊢
      clear F2 N2
      dsimp only [List.nil_append] at N'
      obtain ⟨r, hr⟩ : ∃ r, la.length = k + (r + 1) := ⟨la.length - k - 1, by omega⟩
      have hr2 : lb.length = k + (r + 1) := hn ▸ hr
      have hr3 : k < la.length := by omega
      have hr4 : k < lb.length := by omega
      have hA : (Txt.slice (Cs la) (some (k : Int)) none).length = r + 1 := by rw [slice_from (Nat.le_of_lt hr3), Cs_len, List.length_drop, hr, Nat.add_sub_cancel_left]
      have hB : (Txt.slice (Cs lb) (some (k : Int)) none).length = r + 1 := by rw [slice_from (Nat.le_of_lt hr4), Cs_len, List.length_drop, hr2, Nat.add_sub_cancel_left]
      have hs1 : 1 ≤ (Txt.slice (Cs la) (some (k : Int)) none).length := by omega
      have hs2 : (Txt.slice (Cs la) (some (k : Int)) none).length ≤ 1000 := by omega
      have hs3 : 1 ≤ (Txt.slice (Cs lb) (some (k : Int)) none).length := by omega
      have hs4 : (Txt.slice (Cs lb) (some (k : Int)) none).length ≤ 1000 := by omega
      have hl1 : (k : Int) < (Cs la).length := by rw [Cs_len]; omega
      have hl2 : (k : Int) < (Cs lb).length := by rw [Cs_len]; omega
      k_steps
      · rename (_ == _) = true => he
        rw [item_beq hr3 hr4] at he
        have he2 := of_decide_eq_true he
        have hk2 : k < lo := Nat.lt_of_le_of_ne hk fun q => by subst q; exact absurd he2 (hnl hr3)
        rename Fr _ _ _ _ => F9
        rename News _ _ _ _ => N9
        exact TurnTo.mk KT (.int ((k : Int) + 1) _) F9 N9 rfl ⟨LevV.mk (k := k + 1) hk2, Nat.sub_lt_sub_left hk2 (Nat.lt_succ_self k)⟩
          (svn (l1 := [(Str.ofString "pre", _)]) (l2 := [(Str.ofString "pre", _)]) (l3 := [(Str.ofString "pre", _)]) rfl rfl rfl) (fun _ h => absurd h List.not_mem_nil) (fun _ h => h) trivial
      · rename (_ == _) = false => he
        rw [item_beq hr3 hr4] at he
        have he2 := of_decide_eq_false he
        have hk2 : k = lo := Nat.le_antisymm hk (Nat.le_of_not_lt fun h => absurd (hpre k hr3 h) he2)
        subst hk2
        dsimp only
        k_steps
        rename Fr _ _ _ _ => F9
        rw [slice_from (Nat.le_of_lt hr3), slice_from (Nat.le_of_lt hr4)] at F9
        exact hkey _ (LevMid.mk (Fr.overAll F9 [(Str.ofString "a", _), (Str.ofString "b", _), (Str.ofString "max_cost", _)] (by
          rw [List.forall_mem_cons, List.forall_mem_cons, List.forall_mem_cons]
          exact ⟨rfl, rfl, rfl, fun _ h => absurd h List.not_mem_nil⟩)))
  case p2 =>
  rintro s' ⟨F3⟩
  dsimp only [List.drop]
  have h1 : (la.drop lo).length = (lb.drop lo).length := by simp only [List.length_drop]; omega
  have h2' : (la.drop lo).length ≤ 10 := by simp only [List.length_drop]; omega
  have h3 : hi - lo ≤ (la.drop lo).length := by simp only [List.length_drop]; omega
  have h4 : ∀ i, (h : i < (la.drop lo).length) → hi - lo ≤ i → (la.drop lo)[i] = (lb.drop lo)[i]'(h1 ▸ h) := fun i h hi' => by
    simp only [List.length_drop] at h
    simp only [List.getElem_drop]
    exact hpost (lo + i) (by omega) (by omega)
  have h5 : ∀ h : hi - lo - 1 < (la.drop lo).length, (la.drop lo)[hi - lo - 1] ≠ (lb.drop lo)[hi - lo - 1]'(h1 ▸ h) := fun h => by
    simp only [List.getElem_drop, show lo + (hi - lo - 1) = hi - 1 by omega]
    exact hnh (by omega)
  have h6 : 0 < hi - lo := by omega
  clear hpre hpost hnl hnh hab N h₁ F
  generalize la.drop lo = xa at h1 h2' h3 h4 h5 F3 hQ hdg
  generalize lb.drop lo = xb at h1 h2' h3 h4 h5 F3 hQ hdg
  generalize hi - lo = hj at h3 h4 h5 h6 hQ hdg
  clear hn hn10 hlo hhi
  rename Heap => h2
  have N3 : News s.heap L h2 [] := News.nil
  refine cut_key 4 (LevMid s.heap L s (Cs (xa.take hj)) (Cs (xb.take hj)) mc) ?p3 ?p4
  case p3 =>
    intro R hkey
    dsimp only [List.take]
    k_steps
    refine Hold.off ?_
    rename Fr _ _ _ _ => F3
    rename News _ _ _ _ => N3
    refine while_param (Pm := Value) (fun p => (Sv (Str.ofString "post") p (F2m F3))) (fun _ => [])
      (LevW hj xa.length) (fun p => match p with | .int a _ => (xa.length : Nat) - a.natAbs | _ => 0) [Str.ofString "pre"] _ _ (L := L) (Fr.over F3 (Str.ofString "post") rfl) N3 (LevW.mk (k := 0) (by omega)) ?turn2
    case turn2 =>
      rintro p u2 h' tk' ⟨hk2⟩ F' N' K KT
      rename_i k2 t2
      dsimp only [F2m] at KT F' ⊢
      clear F3 N3
      dsimp only [List.nil_append] at N'
      have hc1 : ((Cs xa).length : Int) = xa.length := by rw [Cs_len]
      have hc2 : ((Cs xb).length : Int) = xb.length := by rw [Cs_len]
      obtain ⟨r, hr⟩ : ∃ r, xa.length = r + 1 + k2 := ⟨xa.length - k2 - 1, by omega⟩
      have hr2 : xb.length = r + 1 + k2 := h1 ▸ hr
      have hr3 : r < xa.length := by omega
      have hr4 : r < xb.length := by omega
      have hr5 : r + 1 ≤ 1000 := by omega
      have fin : ∀ c : Bool, (Txt.item (Cs xa) (-(k2 : Int) - 1) == Txt.item (Cs xb) (-(k2 : Int) - 1)) = c → (c = true → k2 + 1 + hj ≤ xa.length) ∧ (c = false → r + 1 = hj) := fun c he => by
        rw [item_beq_back hr3 hr4 _ (by omega) h1] at he
        subst he
        refine ⟨fun he => ?_, fun he => ?_⟩
        · have he2 := of_decide_eq_true he
          rcases Nat.lt_or_ge (k2 + hj) xa.length with h | h
          · omega
          · obtain rfl : hj = r + 1 := by omega
            exact absurd he2 (h5 hr3)
        · have he2 := of_decide_eq_false he
          rcases Nat.lt_or_ge r hj with h | h
          · omega
          · exact absurd (h4 r hr3 h) he2
      rcases Nat.eq_zero_or_pos k2 with hk0 | hkp
      · subst hk0
        have hz : (-((0 : Nat) : Int)) = 0 := rfl
        have hlxa : (Txt.slice (Cs xa) none none).length = r + 1 := by rw [slice_all, Cs_len, hr]
        have h1xa : 1 ≤ (Txt.slice (Cs xa) none none).length := by omega
        have h2xa : (Txt.slice (Cs xa) none none).length ≤ 1000 := by omega
        have hlxb : (Txt.slice (Cs xb) none none).length = r + 1 := by rw [slice_all, Cs_len, hr2]
        have h1xb : 1 ≤ (Txt.slice (Cs xb) none none).length := by omega
        have h2xb : (Txt.slice (Cs xb) none none).length ≤ 1000 := by omega
        k_steps
        all_goals (try (exfalso; omega))
        · rename (_ == _) = true => he
          have hk3 := (fin _ he).1 rfl
          rename Fr _ _ _ _ => F9
          rename News _ _ _ _ => N9
          exact TurnTo.mk KT (.int (-((0 : Nat) : Int) - 1) _) F9 N9 rfl ⟨LevW.mk (k := 1) (by omega), by show xa.length - 1 < xa.length - 0; omega⟩
            (svn (l1 := [(Str.ofString "post", _)]) (l2 := [(Str.ofString "post", _)]) (l3 := [(Str.ofString "post", _)]) rfl rfl rfl) (fun _ h => absurd h List.not_mem_nil) (fun _ h => h) trivial
        · rename (_ == _) = false => he
          have hk3 := (fin _ he).2 rfl
          dsimp only
          k_steps
          rename Fr _ _ _ _ => F9
          rw [slice_all, slice_all] at F9
          have e1 : xa.take hj = xa := List.take_of_length_le (by omega)
          have e2 : xb.take hj = xb := List.take_of_length_le (by omega)
          rw [e1, e2] at hkey
          exact hkey _ (LevMid.mk (Fr.overAll F9 [(Str.ofString "a", _), (Str.ofString "b", _), (Str.ofString "max_cost", _)] (by
          rw [List.forall_mem_cons, List.forall_mem_cons, List.forall_mem_cons]
          exact ⟨rfl, rfl, rfl, fun _ h => absurd h List.not_mem_nil⟩)))
      · have hz : (-(k2 : Int)) ≠ 0 := by omega
        have hsa : Txt.slice (Cs xa) none (some (-(k2 : Int))) = Cs (xa.take (r + 1)) := slice_back hr3 _ (by omega) (by omega)
        have hsb : Txt.slice (Cs xb) none (some (-(k2 : Int))) = Cs (xb.take (r + 1)) := slice_back hr4 _ (by omega) (by omega)
        have hlxa : (Txt.slice (Cs xa) none (some (-(k2 : Int)))).length = r + 1 := by rw [hsa, Cs_len, List.length_take]; exact Nat.min_eq_left hr3
        have h1xa : 1 ≤ (Txt.slice (Cs xa) none (some (-(k2 : Int)))).length := by omega
        have h2xa : (Txt.slice (Cs xa) none (some (-(k2 : Int)))).length ≤ 1000 := by omega
        have hlxb : (Txt.slice (Cs xb) none (some (-(k2 : Int)))).length = r + 1 := by rw [hsb, Cs_len, List.length_take]; exact Nat.min_eq_left hr4
        have h1xb : 1 ≤ (Txt.slice (Cs xb) none (some (-(k2 : Int)))).length := by omega
        have h2xb : (Txt.slice (Cs xb) none (some (-(k2 : Int)))).length ≤ 1000 := by omega
        k_steps
        all_goals (try (exfalso; omega))
        · rename (_ == _) = true => he
          have hk3 := (fin _ he).1 rfl
          rename Fr _ _ _ _ => F9
          rename News _ _ _ _ => N9
          have e9 : -(k2 : Int) - 1 = -((k2 + 1 : Nat) : Int) := by omega
          rw [e9] at F9
          exact TurnTo.mk KT (.int (-((k2 + 1 : Nat) : Int)) _) F9 N9 rfl ⟨LevW.mk hk3, by show xa.length - (-((k2 + 1 : Nat) : Int)).natAbs < xa.length - (-(k2 : Int)).natAbs; rw [Int.natAbs_neg, Int.natAbs_neg]; exact Nat.sub_lt_sub_left (by omega) (Nat.lt_succ_self k2)⟩
            (svn (l1 := [(Str.ofString "post", _)]) (l2 := [(Str.ofString "post", _)]) (l3 := [(Str.ofString "post", _)]) rfl rfl rfl) (fun _ h => absurd h List.not_mem_nil) (fun _ h => h) trivial
        · rename (_ == _) = false => he
          have hk3 := (fin _ he).2 rfl
          dsimp only
          k_steps
          rename Fr _ _ _ _ => F9
          rw [hsa, hsb, hk3] at F9
          exact hkey _ (LevMid.mk (Fr.overAll F9 [(Str.ofString "a", _), (Str.ofString "b", _), (Str.ofString "max_cost", _)] (by
          rw [List.forall_mem_cons, List.forall_mem_cons, List.forall_mem_cons]
          exact ⟨rfl, rfl, rfl, fun _ h => absurd h List.not_mem_nil⟩)))
  case p4 =>
    clear N3 F3 h2
    rintro s' ⟨F4⟩
    rename Heap => h2
    dsimp only [List.drop]
    have N4 : News s.heap L h2 [] := News.nil
    have l1 : (xa.take hj).length = hj := by rw [List.length_take]; exact Nat.min_eq_left h3
    have l2 : (xb.take hj).length = hj := by rw [List.length_take]; exact Nat.min_eq_left (h1 ▸ h3)
    have hm10 : hj ≤ 10 := Nat.le_trans h3 h2'
    clear h4 h5 h1 h2' h3
    generalize xa.take hj = ya at l1 F4 hQ hdg
    generalize xb.take hj = yb at l2 F4 hQ hdg
    generalize hσ : levSub ya yb = σ at hQ hdg
    have hc1 : ((Cs ya).length : Int) = hj := by rw [Cs_len, l1]
    have hc2 : ((Cs yb).length : Int) = hj := by rw [Cs_len, l2]
    have hc3 : 1 ≤ (Cs ya).length := by omega
    have hc4 : 1 ≤ (Cs yb).length := by omega
    have hc5 : (Cs ya).length ≤ 1000 := by omega
    have hc6 : (Cs yb).length ≤ 1000 := by omega
    refine execs_cut 6 ?_
    intro R hR
    dsimp only [List.take]
    k_steps
    dsimp only
    rename Fr _ _ _ _ => F5
    rename News _ _ _ _ => N5
    rename IntsAre _ _ => hI
    subst hR
    dsimp only [List.append, List.drop]
    have e0 : (List.range hj).map (fun i : Nat => 2 + (i : Int) * 2) = (List.range hj).map (levR σ 0) := by
      apply List.map_congr_left
      intro i _
      show 2 + (i : Int) * 2 = 2 * ((i : Int) + 1)
      omega
    rw [e0] at hI
    refine execs_cut 1 ?_
    intro R hR
    dsimp only [List.take]
    k_steps
    refine Hold.off ?_
    rename Fr _ _ _ _ => F6
    rename News _ _ _ _ => N6
    refine for_range (Pm := Value × List Value × Nat) (fun p => (Sv (Str.ofString "result") p.1 (F2m F6))) (fun p => [(_, W.listOf p.2.1.toArray p.2.2)])
      (LevI σ hj)
      [Str.ofString "bindex", Str.ofString "bchar", Str.ofString "distance", Str.ofString "minimum", Str.ofString "index", Str.ofString "substitute", Str.ofString "insert_delete"] [] (_, _, _) (L := L) (n := hj) rfl rfl (by assumption) (small_one (by omega) (by omega) (by omega) (by omega)) ?hsz rfl (Fr.over F6 (Str.ofString "result") rfl) N6 (LevI.mk (i := 0) hI) ?turn4 ?done4
    case hsz => rw [rangeSize_nat]; omega
    case turn4 =>
      rintro i ti p u h' tk' I oI hin ⟨hvs⟩ hne F' N' K KT
      rename_i tr vs nn
      dsimp only [F2m] at KT F' ⊢
      clear F6 N6
      dsimp only [List.cons_append, List.nil_append] at N' hne
      simp only [AllNe, and_true] at hne
      k_steps
      refine Hold.off ?_
      rename Fr _ _ _ _ => F7
      rename News _ _ _ _ => N7
      refine for_range (Pm := Value × Value × Value × List Value × Nat) (fun p => (Sv (Str.ofString "minimum") p.2.2.1 (Sv (Str.ofString "result") p.2.1 (Sv (Str.ofString "distance") p.1 (F2m F7))))) (fun p => [(_, W.listOf p.2.2.2.1.toArray p.2.2.2.2)])
        (LevJ σ hj i)
        [Str.ofString "index", Str.ofString "substitute", Str.ofString "insert_delete"] [(I, oI)] (_, _, _, _, _) (L := L) (n := hj) rfl rfl (by assumption) (small_one (by omega) (by omega) (by omega) (by omega)) ?hsz5 rfl
        (Fr.over (Fr.over (Fr.over F7 (Str.ofString "distance") rfl) (Str.ofString "result") rfl) (Str.ofString "minimum") rfl) (fun q hq => N7 q (by
          rcases List.mem_cons.mp hq with rfl | hq
          · exact .tail _ (.head _)
          · rw [List.mem_singleton.mp hq]; exact .head _)) ?h05 ?turn5 ?done5
      case hsz5 => rw [rangeSize_nat]; omega
      case h05 =>
        have e5 : (0 + (i : Int)) * 2 = levLf i (levR σ i) 0 := by show _ = 2 * (i : Int); omega
        rw [e5]
        exact LevJ.mk (j := 0) (fun t ht => absurd ht (Nat.not_lt_zero _)) (by simpa using hvs)
      case turn5 =>
        rintro j tj p u2 h' tk' I2 oI2 hjn ⟨hmn, hvs2⟩ hne2 F' N' K KT
        rename_i td tr2 tm mn vs2 nn2
        dsimp only [F2m] at KT F' ⊢
        clear F7 N7
        dsimp only [List.cons_append, List.nil_append] at N' hne2
        simp only [AllNe, and_true] at hne2
        have hv2 : vs2.length = hj := by simpa using IntsAre.length hvs2
        have e1 : (0 + (j : Int)).toNat = j := by rw [Int.zero_add]; rfl
        have e2 : ((List.range hj).map fun t => if t < j then levR σ (i + 1) t else levR σ i t).getD j 0 = levR σ i j := by
          simp [List.getD, hjn]
        have hsub : ∀ ta tb, Ctr w 490 800 (call (.ref 51) [.str (Txt.item (Cs yb) (0 + (i : Int))) ta, .str (Txt.item (Cs ya) (0 + (j : Int))) tb]) Any (RInt (σ i j)) := fun ta tb => by
          have e3 : subCost (Txt.item (Cs yb) (0 + (i : Int))) (Txt.item (Cs ya) (0 + (j : Int))) = σ i j := by
            rw [Int.zero_add, Int.zero_add, item_at (l := yb) (by omega), item_at (l := ya) (by omega), ← hσ]
            unfold levSub
            rw [List.getD_eq_getElem?_getD, List.getD_eq_getElem?_getD, List.getElem?_eq_getElem (by omega), List.getElem?_eq_getElem (by omega)]
            rfl
          rw [← e3]
          exact c_sub w _ _ ta tb (by rw [len_item]; decide) (by rw [len_item]; decide)
        have hX : (if levLf i (levR σ i) j + σ i j < (if levR σ i j < levLf i (levR σ (i + 1)) j then levR σ i j else levLf i (levR σ (i + 1)) j) + 2
            then levLf i (levR σ i) j + σ i j else (if levR σ i j < levLf i (levR σ (i + 1)) j then levR σ i j else levLf i (levR σ (i + 1)) j) + 2) = levR σ (i + 1) j := by
          rw [levR_at]
          generalize levLf i (levR σ i) j + σ i j = x1
          generalize levR σ i j = x2
          generalize levLf i (levR σ (i + 1)) j = x3
          split <;> split <;> omega
        refine execs_cut 2 ?_
        intro R2 hR2
        dsimp only [List.take]
        k_steps
        rename Fr _ _ _ _ => F8
        rw [e1, e2] at F8
        subst hR2
        dsimp only [List.append, List.drop]
        refine execs_cut 2 ?_
        intro R2 hR2
        dsimp only [List.take]
        k_steps
        rename Fr _ _ _ _ => F8
        rw [hX] at F8
        subst hR2
        dsimp only [List.append, List.drop]
        k_steps
        · rename Fr _ _ _ _ => F9
          rename News _ _ _ _ => N9
          rename (_ : Int) < mn => hcmp
          rw [e1] at N9
          refine TurnTo.mk KT (.int (levR σ i j) _, .int (levR σ (i + 1) j) _, .int (levR σ (i + 1) j) _, vs2.set j (.int (levR σ (i + 1) j) ?c1), nn2) F9 N9 rfl
            (LevJ.mk (j := j + 1) (fun t ht => by
            rcases Nat.lt_or_ge t j with h | h
            · exact Int.le_trans (Int.le_of_lt hcmp) (hmn t h)
            · rw [show t = j by omega]; exact Int.le_refl _) (by rw [← row_set hjn]; exact IntsAre.set hvs2))
            (svn (l1 := [(Str.ofString "minimum", _), (Str.ofString "result", _), (Str.ofString "insert_delete", _), (Str.ofString "distance", _), (Str.ofString "substitute", _), (Str.ofString "index", _)]) (l2 := [(Str.ofString "minimum", _), (Str.ofString "result", _), (Str.ofString "distance", _)]) (l3 := [(Str.ofString "minimum", _), (Str.ofString "result", _), (Str.ofString "distance", _)]) rfl rfl rfl) (fun q hq => ?hc1) (fun q hq => ?hs1) ⟨hne2.1, trivial⟩
          case hc1 => rw [List.mem_singleton.mp hq]; refine List.Mem.tail _ ?_; exact .head _
          case hs1 =>
            rcases List.mem_cons.mp hq with rfl | hq
            · exact .head _
            · rw [List.mem_singleton.mp hq]; exact .tail _ (.tail _ (.head _))
        · rename Fr _ _ _ _ => F9
          rename News _ _ _ _ => N9
          rename ¬ (_ : Int) < mn => hcmp
          rw [e1] at N9
          refine TurnTo.mk KT (.int (levR σ i j) _, .int (levR σ (i + 1) j) _, .int mn tm, vs2.set j (.int (levR σ (i + 1) j) ?c2), nn2) (Fr.over F9 (Str.ofString "minimum") rfl) N9 rfl
            (LevJ.mk (j := j + 1) (fun t ht => by
            rcases Nat.lt_or_ge t j with h | h
            · exact hmn t h
            · rw [show t = j by omega]; exact Int.not_lt.mp hcmp) (by rw [← row_set hjn]; exact IntsAre.set hvs2))
            (svn (l1 := [(Str.ofString "minimum", _), (Str.ofString "result", _), (Str.ofString "insert_delete", _), (Str.ofString "distance", _), (Str.ofString "substitute", _), (Str.ofString "index", _)]) (l2 := [(Str.ofString "minimum", _), (Str.ofString "result", _), (Str.ofString "distance", _)]) (l3 := [(Str.ofString "minimum", _), (Str.ofString "result", _), (Str.ofString "distance", _)]) rfl rfl rfl) (fun q hq => ?hc2) (fun q hq => ?hs2) ⟨hne2.1, trivial⟩
          case hc2 => rw [List.mem_singleton.mp hq]; refine List.Mem.tail _ ?_; exact .head _
          case hs2 =>
            rcases List.mem_cons.mp hq with rfl | hq
            · exact .head _
            · rw [List.mem_singleton.mp hq]; exact .tail _ (.tail _ (.head _))
      case done5 =>
        rintro p u2 h' tk' ⟨hmn, hvs2⟩ F' N'
        rename_i td tr2 tm mn vs2 nn2
        dsimp only [F2m] at F' ⊢
        clear F7 N7
        dsimp only [List.cons_append, List.nil_append] at N'
        have hmc1 : ¬ mn > mc := fun h => absurd (hmn i hin) (Int.not_le.mpr (Int.lt_of_le_of_lt (hdg i hin) h))
        k_steps
        rename Fr _ _ _ _ => F9
        rename News _ _ _ _ => N9
        have e : ((List.range hj).map fun t => if t < hj then levR σ (i + 1) t else levR σ i t) = (List.range hj).map (levR σ (i + 1)) := by
          apply List.map_congr_left
          intro t ht
          rw [if_pos (List.mem_range.mp ht)]
        rw [e] at hvs2
        have e7 : levLf i (levR σ (i + 1)) hj = levOut σ hj (i + 1) := by obtain ⟨q, rfl⟩ : ∃ q, hj = q + 1 := ⟨hj - 1, by omega⟩; rfl
        rw [e7] at F9
        exact TurnTo.mk KT (.int (levOut σ hj (i + 1)) _, vs2, nn2) F9 N9 rfl
          (LevI.mk (i := i + 1) hvs2) (fun z hz => (ovs_tv (l := []) (ts_sub rfl hz)).trans (svn (l1 := [(Str.ofString "minimum", _), (Str.ofString "result", _), (Str.ofString "distance", _), (Str.ofString "minimum", _), (Str.ofString "result", _), (Str.ofString "distance", _), (Str.ofString "bchar", _), (Str.ofString "bindex", _)]) (l2 := [(Str.ofString "result", _)]) (l3 := [(Str.ofString "result", _)]) rfl rfl rfl z hz)) (fun q hq => by rw [List.mem_singleton.mp hq]; exact .head _) (fun q hq => by rw [List.mem_singleton.mp hq]; exact .tail _ (.head _)) ⟨hne, trivial⟩
    case done4 =>
      rintro p u h' tk' ⟨hvs⟩ F' N'
      dsimp only [F2m] at F' ⊢
      clear F6 N6
      dsimp only [List.cons_append, List.nil_append] at N'
      subst hR
      dsimp only [List.append, List.drop]
      k_steps
      ((try dsimp only); (repeat (k_unfold; (try dsimp only))))
      exact end_int hQ (by assumption) rfl
end
end Mine

end
section
open PySem PySem.W PyProof.Rows PySem.Calls PySem.Spec
namespace Mine
section

local macro_rules | `(tactic| walk_at "eval ListComp") => `(tactic| (refine hold ?_))
/-- how many ones a number's binary figures have -/
def pc (n : Nat) : Int := ((n % 2 + n / 2 % 2 + n / 4 % 2 + n / 8 % 2 + n / 16 % 2 + n / 32 % 2 : Nat) : Int)
theorem pc_all : ∀ n : Fin 64, pc n.val = pc (n.val / 2) + ((n.val % 2 : Nat) : Int) := by decide +kernel
theorem pc_step {n : Nat} (h : n < 64) : pc n = pc (n / 2) + ((n % 2 : Nat) : Int) := pc_all ⟨n, h⟩
theorem IsList.of_lst {g h : Heap} {L D : Addr} {l : List (Addr × Obj)} {ys : List Value} (N : News g L h l) (hm : (D, LCg.lst ys) ∈ l) : h.IsList D ys.toArray := ⟨_, (N _ hm).1, rfl, _, rfl⟩
theorem beq_zero (n : Nat) : (((n : Nat) : Int) == 0) = decide (n = 0) := by
  rw [Bool.eq_iff_iff, beq_iff_eq, decide_eq_true_eq]; omega
/-- a set of places meets all stretches -/
def hitP (ns : List Int) (i : Nat) : Bool := ns.all fun x => !decide (x.toNat &&& i = 0)
theorem bitAnd_nn {k : Int} (h : 0 ≤ k) (i : Nat) : Builtin.bitAnd k (i : Int) = ((k.toNat &&& i : Nat) : Int) := by
  obtain ⟨q, rfl⟩ := Int.eq_ofNat_of_zero_le h
  rfl
theorem all_filter (ns : List Int) (q : Int → Bool) : decide (ns.filter q = []) = ns.all fun x => !q x := by
  induction ns with
  | nil => rfl
  | cons a r ih =>
    rw [List.filter_cons, List.all_cons, ← ih]
    cases q a <;> simp
set_option maxRecDepth 100000 in
set_option maxHeartbeats 8000000 in
theorem c_fewest (w : World) (l : Addr) (vs : List Value) (kk : Nat) (ns : List Int) (size : Nat) (ts : Tok) (hi : IntsAre vs ns) (hn : ns.length ≤ 10) (hsize : size ≤ 6) (hns : ∀ x ∈ ns, 0 ≤ x ∧ x < 64) (hpos : 0 < (((List.range (2 ^ size)).filter (hitP ns)).map pc).length) :
    CtrN w 450 400 (call (.ref 105) [.ref l, .int (size : Int) ts]) 85 81 [(l, W.listOf vs.toArray kk)] (fun v N₁ => (∃ M, IsI M v ∧ M ∈ ((List.range (2 ^ size)).filter (hitP ns)).map pc ∧ ∀ a ∈ ((List.range (2 ^ size)).filter (hitP ns)).map pc, M ≤ a) ∧ N₁ = [(l, W.listOf vs.toArray kk)]) := by
  w_top off
  refine' enterN (binds := [(Str.ofString "stretches", Value.ref l), (Str.ofString "size", Value.int (size : Int) ts)]) (m := (Sv (Str.ofString "size") (Value.int (size : Int) ts) (fun _ => none))) rfl ?k6 ?k7 ?k8 ?k9 ?kB ?kD ?c2 ?c3 ?c4 ?kM ?_
  case k6 => k_dflt k_is
  case k7 => k_dflt k_is
  case k8 => decide
  case k9 => exact fun _ => BindsTo.of_eq rfl
  case kB => rfl
  case kD => decide +kernel
  case kM => exact fun _ => rfl
  case c2 => exact rfl
  case c3 => exact rfl
  case c4 => exact rfl
  intro p loose mean mg mb g L s tk cells X T C F N Y l0
  k_cells Y
  k_lt l0
  simp only [List.cons_append, List.nil_append] at N
  show wpAny _ _ _ _ _ _
  k_fold
  k_steps
  refine Hold.off ?_
  rename Fr _ _ _ _ => F2
  rename News _ _ _ _ => N2
  have hpow : ((2 : Int) ^ (size : Int).toNat) = ((2 ^ size : Nat) : Int) := by simp
  have hp1 : 1 ≤ 2 ^ size := Nat.one_le_two_pow
  have hp2 : 2 ^ size ≤ 64 := Nat.le_trans (Nat.pow_le_pow_right (by decide) hsize) (by decide)
  refine for_range (Pm := List Value × Nat) (fun _ => (F2m F2)) (fun p => [(_, W.listOf p.1.toArray p.2)])
    (fun i p => IntsAre p.1 ((List.range (i + 1)).map pc)) [Str.ofString "places"] [_, _, _] (_, _) (L := L) (n := 2 ^ size - 1) rfl rfl (by assumption) (small_one (by omega) (by omega) (by omega) (by omega)) ?hsz rfl F2 N2 (.cons 0 _ .nil) ?turn ?done
  case hsz => rw [rangeSize_nat]; omega
  case turn =>
    rintro i ti ⟨vs2, nn⟩ u h' tk' I oI hin hvs2 hne F' N' K KT
    dsimp only [F2m] at KT F' ⊢
    dsimp only [List.cons_append, List.nil_append] at N' hne
    simp only [AllNe, and_true] at hne
    have hv2 : vs2.length = i + 1 := by simpa using IntsAre.length hvs2
    have hj1 : ((1 : Int) + (i : Int)).fdiv 2 = (((1 + i) / 2 : Nat) : Int) := by
      rw [Int.fdiv_eq_ediv_of_nonneg _ (by decide)]; omega
    have hj2 : ((1 : Int) + (i : Int)).fmod 2 = (((1 + i) % 2 : Nat) : Int) := by
      rw [Int.fmod_eq_emod_of_nonneg _ (by decide)]; omega
    k_steps
    rename Fr _ _ _ _ => F9
    rename News _ _ _ _ => N9
    have hlt : (1 + i) / 2 < i + 1 := by omega
    have hg : ((List.range (i + 1)).map pc).getD ((1 + i) / 2) 0 = pc ((1 + i) / 2) := by simp [List.getD, hlt]
    have hval : ((List.range (i + 1)).map pc).getD (((1 : Int) + (i : Int)).fdiv 2).toNat 0 + ((1 : Int) + (i : Int)).fmod 2 = pc (i + 1) := by
      rw [hj1, hj2, Int.toNat_natCast, hg, Nat.add_comm 1 i, ← pc_step (by omega)]
    rw [hval] at N9
    refine TurnTo.mk KT (vs2 ++ [.int (pc (i + 1)) ?tq], nn + 1) F9 N9 rfl ?hp ?hm (fun q hq => ?hc) (fun q hq => ?hs) ⟨hne.1, trivial⟩
    case hp =>
      show IntsAre (vs2 ++ [_]) _
      rw [List.range_succ, List.map_append]
      exact IntsAre.append hvs2 (.cons _ _ .nil)
    case hm =>
      intro z hz
      have hz1 : z ≠ Str.ofString "places" := by rintro rfl; exact absurd hz (by decide)
      simp only [Sv, Tv, hz1, hz, if_false, Bool.false_eq_true]
    case hc => rw [List.mem_singleton.mp hq]; refine List.mem_cons_of_mem _ (List.mem_cons.mpr (Or.inl ?_)); simp; rfl
    case hs =>
      rcases List.mem_cons.mp hq with rfl | hq
      · exact .head _
      · exact .tail _ (.tail _ hq)
  case done =>
    rintro ⟨vs2, nn⟩ u h' tk' hvs2 F' N'
    dsimp only [F2m] at F' ⊢
    dsimp only [List.cons_append, List.nil_append] at N'
    have e1 : 2 ^ size - 1 + 1 = 2 ^ size := by omega
    rw [e1] at hvs2
    have hv2 : vs2.length = 2 ^ size := by simpa using IntsAre.length hvs2
    clear F2 N2
    k_steps
    refine Hold.off ?_
    rename Fr _ _ _ _ => F3
    rename News _ _ _ _ => N3
    refine comp_cell F3 (by with_unfolding_all rfl) rfl (by decide) (fun _ => rfl) (fun _ => rfl) (fun _ _ => rfl) (hitP ns) pc (2 ^ size) (by rw [sizeLine_eq]; omega) ?_
    k_steps
    rename Fr _ _ _ _ => F4
    rename News _ _ _ _ => N4
    rename _ = Data.cell (bindC _ _ _ (Str.ofString "stretches")) => dst
    have dst2 : _ = Data.cell (some (Value.ref l)) := dst
    refine Hold.off (CellSrc.mk rfl F4 N4 (by assumption) (small_one (by omega) (by omega) (by omega) (by omega)) (by rw [rangeSize_nat]; omega) ?hT ?hE ?hF)
    case hT =>
      intro i tv I oI Cc oC c oc D ys hh tk9 E' hin hoc F5 N5
      show wpAny _ _ _ (fun ok s₂ => Hold _) _ _
      clear F4 N4
      k_steps
      refine Hold.off ?_
      refine LCt.ListComp_T F5 (by with_unfolding_all rfl) (by decide) (by rfl) (by decide) (by rfl) ?_
      k_steps
      rename Fr _ _ _ _ => F6
      rename News _ _ _ _ => N6
      refine LCt.CompSrcT.ledger rfl F6 N6 (.tail _ (.tail _ (.tail _ (.tail _ (.tail _ (.tail _ (.tail _ (.head _)))))))) (by rw [sizeLine_eq, List.size_toArray, IntsAre.length hi]; omega) fun g9 => rest_filter hi (fun k => decide (k.toNat &&& i = 0)) (.inr ⟨_, .tail _ (.tail _ (.tail _ (.tail _ (.tail _ (.tail _ (.tail _ (.head _))))))), rfl, _, rfl⟩) ?iT ?iE ?iF
      case iT =>
        intro k t I2 oI2 C2 oC2 D2 m2 ys2 h9 tk8 E2 hk hC2 hx2 F7 N7
        obtain ⟨hk0, hk64⟩ := hns k hk
        k_steps
        refine Hold.off ⟨?_, .mk (by assumption) (by assumption)⟩
        rw [bitAnd_nn hk0]
        exact beq_zero _
      case iE =>
        intro k t I2 oI2 C2 oC2 D2 m2 ys2 h9 tk8 E2 hk hC2 hx2 F7 N7
        k_steps
        exact Hold.off ⟨⟨_, rfl⟩, .mk (by assumption) (by assumption)⟩
      case iF =>
        intro ys9 hys9 D9 h10 tk10 F10 N10 _
        k_steps
        rename Fr _ _ _ _ => F11
        rename News _ _ _ _ => N11
        exact Hold.off ⟨all_filter _ _, .mk F11 (fun q hq => N11 q (.tail _ (.tail _ hq)))⟩
    case hE =>
      intro i tv I oI Cc oC c oc D ys hh tk9 E' hin hpi hoc F5 N5
      show wpAny _ _ _ (fun ok s₂ => Hold _) _ _
      clear F4 N4
      rename _ = Data.cell (bindC _ _ _ (Str.ofString "ones")) => don
      have hg : ((List.range (2 ^ size)).map pc).getD (i : Int).toNat 0 = pc i := by simp [List.getD, hin]
      k_steps
      refine Hold.off ⟨⟨_, congrArg (fun z => Value.int z _) hg⟩, .mk (by assumption) (by assumption)⟩
    case hF =>
      intro D9 hh tk9 ys9 hys9 F9 N9 hne9
      k_steps
      rename Fr _ _ _ _ => F11
      rename News _ _ _ _ => N11
      exact ⟨_, _, _, _, rfl, F11, fun q hq => N11 q (by rw [List.mem_singleton.mp hq]; k_mem), ⟨_, IsI.mk rfl, by assumption, by assumption⟩, rfl⟩
end
end Mine

end
end
section
open PySem PySem.W PyProof.Rows PySem.Calls PySem.Spec
namespace Mine
section
local macro_rules | `(tactic| walk_at "call ref") => `(tactic| (k_here; (rename (∀ _ _ _, Ctr _ _ _ _ _ _) => hlev'); k_dflt (refine' Ctr.useI (hlev' _ _ _) (by k_asm) (by k_asm) (by k_asm) (by k_asm) rfl (by k_room) (Nat.le_of_ble_eq_true rfl) trivial ?_; k_whole; intro t' h' tk' F' N')))
set_option maxRecDepth 100000 in
set_option maxHeartbeats 8000000 in
theorem c_price (w : World) (a b : Str) (ta tb tc : Tok) (mc r : Int) (hlev : ∀ ta tb tc, Ctr w 480 700 (call (.ref 58) [.str a ta, .str b tb, .int mc tc]) Any (RInt r)) :
    Ctr w 470 600 (call (.ref 100) [Value.str a ta, Value.str b tb, Value.int mc tc]) Any (RInt r) := by
  w_top off
  intro p loose mean mg mb s Q E X T hPre hQ
  refine' enter (binds := [(Str.ofString "one", Value.str a ta), (Str.ofString "other", Value.str b tb), (Str.ofString "bound", Value.int mc tc)]) (m := (Sv (Str.ofString "bound") (Value.int mc tc) (Sv (Str.ofString "other") (Value.str b tb) (Sv (Str.ofString "one") (Value.str a ta) (fun _ => none))))) X T.nolimit ?k6 ?k7 ?k8 ?k9 ?kB ?c2 ?c3 ?c4 ?c5 ?kM ?_
  case kM => exact rfl
  case k6 => k_dflt k_is
  case k7 => k_dflt k_is
  case k8 => decide
  case k9 => exact BindsTo.of_eq rfl
  case kB => exact locs rfl
  case c2 => exact rfl
  case c3 => exact rfl
  case c4 => exact rfl
  case c5 => decide
  intro L h₁ tk₁ F N
  try dsimp only
  k_fold
  k_steps
  all_goals ((try dsimp only); (repeat (k_unfold; (try dsimp only))))
  all_goals exact end_int hQ (by assumption) rfl
end
end Mine

end
section
open PySem PySem.W PyProof.Rows PySem.Calls PySem.Spec
namespace Mine
set_option maxRecDepth 100000 in
set_option maxHeartbeats 8000000 in
theorem c_lev0 (w : World) (a : Str) (ta tb tc : Tok) (mc : Int) :
    Ctr w 480 700 (call (.ref 58) [Value.str a ta, Value.str a tb, Value.int mc tc]) Any (RInt 0) := by
  w_top off
  intro p loose mean mg mb s Q E X T hPre hQ
  refine' enter (binds := [(Str.ofString "a", Value.str a ta), (Str.ofString "b", Value.str a tb), (Str.ofString "max_cost", Value.int mc tc)]) (m := (Sv (Str.ofString "max_cost") (Value.int mc tc) (Sv (Str.ofString "b") (Value.str a tb) (Sv (Str.ofString "a") (Value.str a ta) (fun _ => none))))) X T.nolimit ?k6 ?k7 ?k8 ?k9 ?kB ?c2 ?c3 ?c4 ?c5 ?kM ?_
  case kM => exact rfl
  case k6 => k_dflt k_is
  case k7 => k_dflt k_is
  case k8 => decide
  case k9 => exact BindsTo.of_eq rfl
  case kB => exact locs rfl
  case c2 => exact rfl
  case c3 => exact rfl
  case c4 => exact rfl
  case c5 => decide
  intro L h₁ tk₁ F N
  try dsimp only
  k_fold
  have hab : (a == a) = true := beq_self_eq_true _
  k_steps
  all_goals ((try dsimp only); (repeat (k_unfold; (try dsimp only))))
  all_goals first
    | exact end_int hQ (by assumption) rfl
    | (exfalso; simp_all; done)
end Mine

end
section
open PySem PySem.W PyProof.Rows PySem.Calls PySem.Spec
namespace Mine
theorem empty_cps : (Str.ofString "").cps = #[] := by decide +kernel
theorem join_chars (l : List Nat) : Txt.join (Str.ofString "") (l.map fun c => Cs [c]) = Cs l := by
  have key : ∀ (r : List Nat) (acc : Array Nat), (r.map fun c => Cs [c]).foldl (fun acc p => acc ++ (Str.ofString "").cps ++ p.cps) acc = acc ++ r.toArray := by
    intro r
    induction r with
    | nil => intro acc; simp
    | cons a r ih =>
      intro acc
      rw [List.map_cons, List.foldl_cons, ih, empty_cps]
      simp
  cases l with
  | nil => rfl
  | cons a r =>
    show (⟨(r.map fun c => Cs [c]).foldl (fun acc p => acc ++ (Str.ofString "").cps ++ p.cps) (Cs [a]).cps⟩ : Str) = _
    rw [key]
    simp [Cs]
theorem join_w {α : Type} (l : List α) (f : α → Nat) (h : l.length ≤ 1000) : ((l.map fun c => Cs [f c]).map (·.length)).sum + (l.map fun c => Cs [f c]).length ≤ 1048576 := by
  have e : ((l.map fun c => Cs [f c]).map (·.length)).sum = l.length := by
    clear h
    induction l with
    | nil => rfl
    | cons a r ih => simp only [List.map_cons, List.sum_cons, List.length_cons, ih, Cs_len, List.length_nil]; omega
  rw [e, List.length_map]; omega
theorem join_map {α : Type} (l : List α) (f : α → Nat) : Txt.join (Str.ofString "") (l.map fun c => Cs [f c]) = Cs (l.map f) := by
  rw [← join_chars, List.map_map]; rfl
end Mine

end
section
open PySem PySem.W PyProof.Rows PySem.Calls PySem.Spec
open PySem.StrLaws PySem.Builtin PySem.Builtin.Str
namespace Mine
theorem subAt_list (l w : List Nat) (i : Nat) : subAt (Cs l) (Cs w) i = decide ((l.drop i).take w.length = w) := by
  unfold subAt
  rw [Cs_len]
  have e : (Cs l).cps.extract i (i + w.length) = ((l.drop i).take w.length).toArray := by
    simp [Cs]
  rw [e, Bool.eq_iff_iff, beq_iff_eq, decide_eq_true_eq]
  constructor
  · intro h
    have := congrArg Array.toList h
    simpa using this
  · intro h
    rw [h]
theorem strSub_list (l : List Nat) (i j : Nat) : strSub (Cs l) i j = Cs ((l.drop i).take (j - i)) := by
  unfold strSub
  simp [Cs]
def DD : List Nat := [46, 46, 46]
theorem dots_eq : Str.ofString "..." = Cs DD := by decide +kernel
/-- pieces with the three dots between them -/
def flat : List Nat → List (List Nat) → List Nat
  | p, [] => p
  | p, q :: r => p ++ DD ++ flat q r
theorem at_list {l : List Nat} {w : List Nat} {hi i : Nat} : At (Cs l) (Cs w) hi i ↔ i + w.length ≤ hi ∧ (l.drop i).take w.length = w := by
  unfold At
  rw [Cs_len, subAt_list, decide_eq_true_eq]
theorem not_at {l : List Nat} {hi i : Nat} (h : ∀ c, l[i]? = some c → c ≠ 46) : ¬ At (Cs l) (Cs DD) hi i := by
  rw [at_list]
  rintro ⟨_, h2⟩
  have h3 := congrArg (fun z => z[0]?) h2
  simp [DD] at h3
  exact h 46 h3 rfl
theorem is_at {pre p r : List Nat} {hi : Nat} (hh : pre.length + p.length + 3 ≤ hi) : At (Cs (pre ++ (p ++ DD ++ r))) (Cs DD) hi (pre.length + p.length) := by
  rw [at_list]
  refine ⟨hh, ?_⟩
  have e : pre ++ (p ++ DD ++ r) = (pre ++ p) ++ (DD ++ r) := by simp
  rw [e, List.drop_append_of_le_length (by simp)]
  rw [List.drop_of_length_le (by simp)]
  simp [DD]
theorem parts_of : ∀ (ps : List (List Nat)) (p pre : List Nat) (cuts : List Nat) (f : Nat), (∀ c ∈ p, c ≠ 46) → (∀ q ∈ ps, ∀ c ∈ q, c ≠ 46) →
    ChainG (Cs (pre ++ flat p ps)) (Cs DD) (pre ++ flat p ps).length pre.length cuts f → (∀ k, f ≤ k → ¬ At (Cs (pre ++ flat p ps)) (Cs DD) (pre ++ flat p ps).length k) →
    partsFrom (Cs (pre ++ flat p ps)) 3 pre.length cuts = (p :: ps).map Cs
  | [], p, pre, cuts, f, hp, _, hc, hf => by
    cases cuts with
    | nil =>
      show [strSub (Cs (pre ++ flat p [])) pre.length (Cs (pre ++ flat p [])).length] = [Cs p]
      rw [strSub_list, Cs_len]
      simp [flat]
    | cons c r =>
      exfalso
      refine not_at (l := pre ++ flat p []) (fun a ha => ?_) hc.2.1
      have h1 := hc.1
      rw [List.getElem?_append_right h1] at ha
      exact hp a (List.mem_of_getElem? ha)
  | q :: ps, p, pre, cuts, f, hp, hq, hc, hf => by
    have hlen : (pre ++ flat p (q :: ps)).length = pre.length + p.length + 3 + (flat q ps).length := by
      simp [flat, DD]; omega
    have hat : At (Cs (pre ++ flat p (q :: ps))) (Cs DD) (pre ++ flat p (q :: ps)).length (pre.length + p.length) := is_at (by omega)
    have hno : ∀ k, pre.length ≤ k → k < pre.length + p.length → ¬ At (Cs (pre ++ flat p (q :: ps))) (Cs DD) (pre ++ flat p (q :: ps)).length k := by
      intro k h1 h2
      refine not_at fun a ha => ?_
      rw [List.getElem?_append_right h1] at ha
      have e : flat p (q :: ps) = p ++ (DD ++ flat q ps) := by simp [flat]
      rw [e, List.getElem?_append_left (by omega)] at ha
      exact hp a (List.mem_of_getElem? ha)
    cases cuts with
    | nil =>
      exfalso
      have e : f = pre.length := hc
      exact hf _ (by omega) hat
    | cons c r =>
      obtain ⟨h1, h2, h3, h4⟩ := hc
      have ec : c = pre.length + p.length := by
        rcases Nat.lt_trichotomy c (pre.length + p.length) with h | h | h
        · exact absurd h2 (hno c h1 h)
        · exact h
        · exact absurd hat (h3 _ (by omega) h)
      subst ec
      have e1 : pre ++ flat p (q :: ps) = (pre ++ p ++ DD) ++ flat q ps := by simp [flat]
      have e2 : pre.length + p.length + (Cs DD).length = (pre ++ p ++ DD).length := by rw [Cs_len, List.length_append, List.length_append]
      rw [e2] at h4
      show strSub _ _ _ :: partsFrom _ 3 (pre.length + p.length + 3) r = _
      have e3 : pre.length + p.length + 3 = (pre ++ p ++ DD).length := by simp [DD]; omega
      rw [e3]
      rw [e1] at h4 hf ⊢
      rw [parts_of ps q (pre ++ p ++ DD) r f (hq q (.head _)) (fun z hz => hq z (.tail _ hz)) h4 hf, strSub_list]
      simp only [List.map_cons]
      congr 2
      simp [List.drop_append, List.take_append]
theorem kind_pos (x : Str) : 1 ≤ Builtin.Str.strKind x := by unfold Builtin.Str.strKind; split <;> (try split) <;> decide
theorem split_flat (p : List Nat) (ps : List (List Nat)) (hps : ps ≠ []) (hp : ∀ c ∈ p, c ≠ 46) (hq : ∀ q ∈ ps, ∀ c ∈ q, c ≠ 46) :
    Txt.split (Cs (flat p ps)) (Str.ofString "...") = (p :: ps).map Cs ∧ (occurrences (Cs (flat p ps)) (Str.ofString "...") 0 (Cs (flat p ps)).length 1).isEmpty = false := by
  rw [dots_eq]
  obtain ⟨q, r, rfl⟩ : ∃ q r, ps = q :: r := by
    cases ps with
    | nil => exact absurd rfl hps
    | cons q r => exact ⟨q, r, rfl⟩
  have hlen : (flat p (q :: r)).length = p.length + 3 + (flat q r).length := by simp [flat, DD]; omega
  have hat : At (Cs (flat p (q :: r))) (Cs DD) (flat p (q :: r)).length (0 + p.length) := is_at (pre := []) (by simp; omega)
  constructor
  · unfold Txt.split
    rw [if_neg, if_neg]
    · obtain ⟨f, h1, h2⟩ := occ_tight (Cs (flat p (q :: r))) (Cs DD) (by decide)
      rw [partsBetween_eq]
      rw [Cs_len] at h1 h2 ⊢
      exact parts_of (q :: r) p [] _ f hp hq h1 h2
    · rcases occ_head_from (Cs (flat p (q :: r))) (Cs DD) 0 ((Cs (flat p (q :: r))).length + 1) (by omega) with ⟨h0, hn⟩ | ⟨i, t, h0, _⟩
      · exact absurd (by rw [Cs_len]; exact hat) (hn _ (Nat.zero_le _))
      · rw [h0]; simp
    · have h1 : ¬ (Cs (flat p (q :: r))).length < (Cs DD).length := by rw [Cs_len, Cs_len, hlen]; simp [DD]; omega
      have h2 : ¬ Builtin.Str.strKind (Cs (flat p (q :: r))) < Builtin.Str.strKind (Cs DD) := by
        have := kind_pos (Cs (flat p (q :: r)))
        have e : Builtin.Str.strKind (Cs DD) = 1 := by decide +kernel
        omega
      simp [h1, h2]
  · rcases occ_head_from (Cs (flat p (q :: r))) (Cs DD) 0 1 (by omega) with ⟨h0, hn⟩ | ⟨i, t, h0, _⟩
    · exact absurd (by rw [Cs_len]; exact hat) (hn _ (Nat.zero_le _))
    · rw [h0]; rfl
theorem occ_free (p : List Nat) (hp : ∀ c ∈ p, c ≠ 46) : (occurrences (Cs p) (Str.ofString "...") 0 (Cs p).length 1).isEmpty = true := by
  rw [dots_eq]
  rcases occ_head_from (Cs p) (Cs DD) 0 1 (by omega) with ⟨h0, hn⟩ | ⟨i, t, h0, _, h2, _⟩
  · rw [h0]; rfl
  · exfalso
    rw [Cs_len] at h2
    exact not_at (fun c hc => hp c (List.mem_of_getElem? hc)) h2
end Mine

end
section
open PySem PySem.W PyProof.Rows PySem.Calls PySem.Spec
namespace Mine
abbrev FrG {g h : Heap} {L : Addr} {m : Str → Option Value} (_ : Fr g L h m) : Heap := g
/-- an address off others -/
def Off (a : Addr) (l : List Addr) : Prop := ∀ b ∈ l, @Ne Nat b a
theorem Off.nil {a : Addr} : Off a [] := fun _ h => nomatch h
theorem Off.cons {a b : Addr} {l : List Addr} (h : @Ne Nat b a) (r : Off a l) : Off a (b :: l) := fun c hc => by
  rcases List.mem_cons.mp hc with rfl | hc
  · exact h
  · exact r c hc
theorem sub_idx {α : Type} {l rest : List α} (is : List Nat) (h : is.map (fun i => l[i]?) = rest.map some) : ∀ q ∈ rest, q ∈ l := fun q hq => by
  have h1 : some q ∈ rest.map some := List.mem_map_of_mem hq
  rw [← h] at h1
  obtain ⟨i, _, e⟩ := List.mem_map.mp h1
  exact List.mem_of_getElem? e
theorem fmc {α : Type} {P : α → Prop} {a : α} {l : List α} (h : P a) (r : ∀ p ∈ l, P p) : ∀ p ∈ a :: l, P p := List.forall_mem_cons.mpr ⟨h, r⟩
theorem ncons {g h : Heap} {L : Addr} {news rest : List (Addr × Obj)} {p : Addr × Obj} (N : News g L h news) (hm : p ∈ news) (r : News g L h rest) : News g L h (p :: rest) := fun q hq => by
  rcases List.mem_cons.mp hq with rfl | hq
  · exact N _ hm
  · exact r q hq
theorem nsub {g h : Heap} {L : Addr} {news rest : List (Addr × Obj)} (N : News g L h news) (hs : ∀ p ∈ rest, p ∈ news) : News g L h rest := fun q hq => N q (hs q hq)
theorem upN {L n : Nat} (h : n < L) (k : Nat) : @Ne Nat (L + k) n := Nat.ne_of_gt (Nat.lt_of_lt_of_le h (Nat.le_add_right L k))
theorem upL {L : Nat} (a b : Nat) (h : Nat.beq a b = false) : @Ne Nat (L + a) (L + b) := fun e => Bool.false_ne_true (h.symm.trans ((Nat.add_left_cancel e) ▸ Nat.beq_refl a))
theorem Off.at {a : Addr} {l : List Addr} (h : Off a l) (b : Addr) (hb : b ∈ l) : @Ne Nat b a := h b hb
theorem Off.of {a : Addr} {news : List (Addr × Obj)} (h : AllNe a news) {l : List Addr} (hl : ∀ b ∈ l, b ∈ news.map (·.1)) : Off a l := fun b hb => by
  obtain ⟨p, hp, rfl⟩ := List.mem_map.mp (hl b hb)
  exact AllNe.mem h p hp
theorem Off.of2 {a : Addr} {l l' : List Addr} (h : Off a l) (hs : ∀ b ∈ l', b ∈ l) : Off a l' := fun b hb => h b (hs b hb)
theorem Off.all {a : Addr} {l : List Addr} (h : Off a l) {news : List (Addr × Obj)} (hl : ∀ p ∈ news, p.1 ∈ l) : AllNe a news := AllNe.of fun p hp => h _ (hl p hp)
theorem off1_all {D : Addr} : ∀ {l : List (Addr × Obj)}, LCg.Off1 D l → AllNe D l
  | [], _ => trivial
  | _ :: _, h => ⟨h.1, off1_all h.2⟩
theorem allNe_sub {a : Addr} {l l' : List (Addr × Obj)} (h : AllNe a l) (hs : ∀ b ∈ l'.map (·.1), b ∈ l.map (·.1)) : AllNe a l' := AllNe.of fun p hp => by
  obtain ⟨q, hq, e⟩ := List.mem_map.mp (hs _ (List.mem_map_of_mem hp))
  rw [← e]; exact AllNe.mem h q hq
theorem Upd.ofAll {d : Addr} {o o' : Obj} {post : List (Addr × Obj)} (h2 : AllNe d post) : ∀ {pre : List (Addr × Obj)}, AllNe d pre → Upd d o o' (pre ++ (d, o) :: post) (pre ++ (d, o') :: post)
  | [], _ => .head (AllNe.mem h2)
  | _ :: _, h => .tail h.1 (Upd.ofAll h2 h.2)
theorem UpdF.ofAll {d : Addr} {o : Obj} {post : List (Addr × Obj)} (h2 : AllNe d post) : ∀ {pre : List (Addr × Obj)}, AllNe d pre → UpdF d o (pre ++ (d, o) :: post) (fun o' => pre ++ (d, o') :: post)
  | [], _ => .head (AllNe.mem h2)
  | _ :: _, h => .tail h.1 (UpdF.ofAll h2 h.2)
def motifOf (r : Int) : List Int := if r = 0 then [0, 0] else if r = 1 then [0, 1, 0] else [0, 1, 0, 1]
theorem motif_len (r : Int) : 2 ≤ (motifOf r).length ∧ (motifOf r).length ≤ 4 := by
  unfold motifOf; split <;> (try split) <;> decide
/-- what one number of the script lays -/
def piece (mo : List Int) (x : Int) : List Int := if x.fmod 4 = 0 then mo else if x.fmod 4 = 1 then mo.drop 1 else if x.fmod 4 = 2 then [0] else [1]
abbrev partsOf (Z : Int) (cs : List Int) : List Int := cs.map fun c => (Z + 8 * c).fmod 16
abbrev loC (Z c : Int) : Nat := (97 + (Z + 8 * c).fmod 16).toNat
abbrev textOf (Z : Int) (cs : List Int) : Str := Cs (cs.map (loC Z))
theorem parts_bnd (Z : Int) (cs : List Int) (j : Nat) : 0 ≤ (partsOf Z cs).getD j 0 ∧ (partsOf Z cs).getD j 0 < 16 := by
  unfold partsOf
  rw [List.getD_eq_getElem?_getD, List.getElem?_map]
  cases cs[j]? with
  | none => simp
  | some c => exact ⟨Int.fmod_nonneg_of_pos _ (by decide), Int.fmod_lt_of_pos _ (by decide)⟩
theorem parts_at (Z : Int) (cs : List Int) {j : Nat} (h : j < cs.length) : (partsOf Z cs).getD j 0 = (Z + 8 * cs.getD j 0).fmod 16 := by
  unfold partsOf
  simp [List.getD_eq_getElem?_getD, h]
/-- the sign of a place, plain or pale -/
abbrev sgC (Z c : Int) (b : Bool) : Nat := ((if b = true then 65 else 97) + (Z + 8 * c).fmod 16).toNat
theorem parts_mem {Z k : Int} {cs : List Int} (h : k ∈ partsOf Z cs) : 0 ≤ k ∧ k < 16 := by
  obtain ⟨c, _, rfl⟩ := List.mem_map.mp h
  exact ⟨Int.fmod_nonneg_of_pos _ (by decide), Int.fmod_lt_of_pos _ (by decide)⟩
theorem sign_at (Z : Int) (cs : List Int) {j : Nat} (h : j < cs.length) (q : Int) (b : Bool) : signP ((partsOf Z cs).getD j 0 + 16 * q) b = Cs [sgC Z (cs.getD j 0) b] := by
  rw [parts_at Z cs h]
  unfold signP
  have e : ((Z + 8 * cs.getD j 0).fmod 16 + 16 * q).fmod 16 = (Z + 8 * cs.getD j 0).fmod 16 := by
    rw [Int.fmod_eq_emod_of_nonneg _ (by decide), Int.fmod_eq_emod_of_nonneg _ (by decide)]; omega
  rw [e]
theorem sign_at0 (Z : Int) (cs : List Int) {j : Nat} (h : j < cs.length) (b : Bool) : signP ((partsOf Z cs).getD j 0) b = Cs [sgC Z (cs.getD j 0) b] := by
  have := sign_at Z cs h 0 b
  rwa [Int.mul_zero, Int.add_zero] at this
theorem range_at {α : Type} (cs : List Int) (f : Int → α) : (rangeKs 0 cs.length).map (fun k => f (cs.getD k.toNat 0)) = cs.map f := by
  apply List.ext_getElem
  · simp [rangeKs]
  · intro i h1 h2
    simp [rangeKs] at h1 ⊢
    simp [List.getD_eq_getElem?_getD, h1]
/-- the code that a table holds lies apart from the table -/
theorem tab_ne {g h : Heap} {L P c' : Addr} {ln cl : Nat} {oc : Obj} {vs : Array Value} {q : Str} {t : Tok} {rest : List (Addr × Obj)} (N : News g L h ((P, tabObj (#[] ++ #[rawInt (ln : Int), rawInt (cl : Int), .ref c'])) :: (c', oc) :: rest)) (hd : oc.data = .fields vs) (hq : vs[1]? = some (.str q t)) : @Ne Nat c' P := by
  intro e
  have h1 := (N _ (.head _)).1
  have h2 := (N _ (.tail _ (.head _))).1
  have e' : c' = P := e
  dsimp only at h1 h2
  rw [e', h1] at h2
  have h3 := Option.some.inj h2
  rw [← h3] at hd
  have h4 : (#[] ++ #[rawInt (ln : Int), rawInt (cl : Int), Value.ref c']) = vs := by injection hd
  rw [← h4] at hq
  simp [rawInt] at hq
/-- where the motif stands in the strip's front of e places -/
def spotsF (mo cs : List Int) (e : Nat) : List Int := (rangeKs 0 ((e : Int) - (mo.length : Int) + 1).toNat).filter fun k => decide ((cs.drop k.toNat).take mo.length = mo)
def strF (mo cs : List Int) (e : Nat) : List Int := (spotsF mo cs e).map fun k => (2 ^ mo.length - 1) * 2 ^ k.toNat
def allHit (ss : List Int) (e : Nat) : List Int := ((List.range (2 ^ e)).filter (hitP ss)).map pc
def FewOk (mo cs : List Int) (Fw : Nat → Nat) : Prop := ∀ e, e ≤ cs.length → 0 < (allHit (strF mo cs e) e).length ∧ ∀ M, M ∈ allHit (strF mo cs e) e → (∀ a ∈ allHit (strF mo cs e) e, M ≤ a) → M = (Fw e : Int)
abbrev EmIs (w : World) (a b : Str) (r : Bool) : Prop := ∀ ta tb, Ctr w 490 800 (call (.ref 21) [.str a ta, .str b tb]) Any (RBool r)
/-- what the middle test asks of the front of e places -/
def pinR (mo cs : List Int) (Fw : Nat → Nat) (e k : Nat) : Bool :=
  if k = 1 then decide (cs.take e = mo) else decide ((0 : Int) ∈ spotsF mo cs e) && (decide (((e : Int) - (mo.length : Int)) ∈ spotsF mo cs e) && decide (k ≤ Fw e))
theorem strs_set {t : Tok} {x : Str} : ∀ {vs : List Value} {ys : List Str} {k : Nat}, StrsAre vs ys → StrsAre (vs.set k (.str x t)) (ys.set k x)
  | _, _, _, .nil => .nil
  | _, _, 0, .cons y u h => .cons _ _ h
  | _, _, k + 1, .cons y u h => .cons _ _ (strs_set h)
theorem strs_len : ∀ {vs : List Value} {ys : List Str}, StrsAre vs ys → vs.length = ys.length
  | _, _, .nil => rfl
  | _, _, .cons _ _ h => congrArg (· + 1) (strs_len h)
theorem sgn_bnd (Z : Int) (cs : List Int) (x : Nat) (y : Int) : 0 ≤ (partsOf Z cs).getD x 0 + 16 * y.fmod 3 ∧ (partsOf Z cs).getD x 0 + 16 * y.fmod 3 < 48 := by
  have h1 := parts_bnd Z cs x
  have h2 := fmod_lo y (n := 3) (by decide)
  have h3 := fmod_hi y (n := 3) (by decide)
  exact ⟨by omega, by omega⟩
theorem parts_bnd48 (Z : Int) (cs : List Int) (j : Nat) : 0 ≤ (partsOf Z cs).getD j 0 ∧ (partsOf Z cs).getD j 0 < 48 := by
  have h := parts_bnd Z cs j
  exact ⟨h.1, by omega⟩
theorem any_mem (l : List Int) (c : Int) : (l.any fun x => x == c) = decide (c ∈ l) := by
  rw [Bool.eq_iff_iff, decide_eq_true_eq]
  simp
theorem pinA {mo cs : List Int} {Fw : Nat → Nat} {i j : Nat} (h : 1 + (j : Int) = 1) : pinR mo cs Fw i (1 + j) = decide (List.take (i : Int).toNat cs = mo) := by
  unfold pinR
  rw [if_pos (by omega)]; rfl
theorem pinB {mo cs : List Int} {Fw : Nat → Nat} {i j : Nat} {G : Int} (hG : G = (Fw i : Int)) (h : 1 + (j : Int) ≠ 1) (h1 : ((spotsF mo cs i).any fun x => x == 0) = true) (h2 : ((spotsF mo cs i).any fun x => x == (i : Int) - (mo.length : Int)) = true) : pinR mo cs Fw i (1 + j) = decide (1 + (j : Int) ≤ G) := by
  unfold pinR
  rw [any_mem] at h1 h2
  rw [if_neg (by omega), h1, h2, Bool.true_and, Bool.true_and, hG]
  exact decide_eq_decide.mpr (by omega)
theorem pinC {mo cs : List Int} {Fw : Nat → Nat} {i j : Nat} (h : 1 + (j : Int) ≠ 1) (h1 : ((spotsF mo cs i).any fun x => x == 0) = true) (h2 : ((spotsF mo cs i).any fun x => x == (i : Int) - (mo.length : Int)) = false) : pinR mo cs Fw i (1 + j) = ((spotsF mo cs i).any fun x => x == (i : Int) - (mo.length : Int)) := by
  unfold pinR
  rw [h2]
  rw [any_mem] at h1 h2
  rw [if_neg (by omega), h1, h2, Bool.true_and, Bool.false_and]
theorem pinD {mo cs : List Int} {Fw : Nat → Nat} {i j : Nat} (h : 1 + (j : Int) ≠ 1) (h1 : ((spotsF mo cs i).any fun x => x == 0) = false) : pinR mo cs Fw i (1 + j) = ((spotsF mo cs i).any fun x => x == 0) := by
  unfold pinR
  rw [h1]
  rw [any_mem] at h1
  rw [if_neg (by omega), h1, Bool.false_and]
theorem carried_rep {v : Value} {x : Str} {n : Int} {k : Nat} (hk : n = (k : Int)) (h : CarriedAll (List.replicate n.toNat [v]).flatten (List.replicate n.toNat [PyData.str x]).flatten) : CarriedAll (List.replicate n.toNat [v]).flatten ((List.replicate k ()).map fun _ => PyData.str x) := by
  have e : ((List.replicate k ()).map fun _ => PyData.str x) = (List.replicate n.toNat [PyData.str x]).flatten := by
    subst hk
    simp
  rw [e]; exact h
theorem join_rep (k : Nat) (x : Str) : Txt.join (Str.ofString "...") ((List.replicate k ()).map fun _ => x) = Txt.join (Str.ofString "...") (List.replicate k x) := by
  rw [List.map_replicate]
theorem spots_bnd {mo cs : List Int} {e : Nat} {k : Int} (h : k ∈ spotsF mo cs e) : 0 ≤ k ∧ k ≤ (e : Int) - (mo.length : Int) := by
  unfold spotsF at h
  have h := mem_rangeKs (List.mem_filter.mp h).1
  exact ⟨h.1, by omega⟩
theorem str_bnd {mo cs : List Int} {e : Nat} (hmo : 2 ≤ mo.length ∧ mo.length ≤ 4) (he : e ≤ 6) : ∀ x ∈ strF mo cs e, 0 ≤ x ∧ x < 64 := by
  intro x hx
  obtain ⟨k, hk, rfl⟩ := List.mem_map.mp hx
  obtain ⟨h1, h2⟩ := spots_bnd hk
  have h3 : k.toNat ≤ 4 ∧ k.toNat + mo.length ≤ 6 := by omega
  generalize k.toNat = q at h3
  generalize mo.length = m at h3 hmo
  obtain ⟨h4, h5⟩ := h3
  have h6 : ∀ m q : Fin 5, 2 ≤ m.val → q.val + m.val ≤ 6 → 0 ≤ ((2 : Int) ^ m.val - 1) * 2 ^ q.val ∧ ((2 : Int) ^ m.val - 1) * 2 ^ q.val < 64 := by decide
  exact h6 ⟨m, Nat.lt_succ_of_le hmo.2⟩ ⟨q, Nat.lt_succ_of_le h4⟩ hmo.1 h5
theorem fdiv_nat (i m : Nat) : (i : Int).fdiv (m : Int) = ((i / m : Nat) : Int) := by
  rw [Int.fdiv_eq_ediv_of_nonneg _ (by omega)]; rfl
theorem spots_len (mo cs : List Int) (e : Nat) : (spotsF mo cs e).length ≤ ((e : Int) - (mo.length : Int) + 1).toNat := by
  unfold spotsF
  refine Nat.le_trans (List.length_filter_le _ _) ?_
  rw [rangeKs_length]
  exact Nat.le_refl _
inductive Mid2 (g : Heap) (L : Addr) (Z : Int) (mo cs : List Int) (s s' : Shared) : Prop
  | mk (h : Heap) (tk : Nat) (m : Str → Option Value) (news : List (Addr × Obj)) (o1 : Obj) (o2 : Obj) (o3 : Obj) (o4 : Obj) (o5 : Obj) (o6 : Obj) (o7 : Obj) (lm : Addr) (mv : List Value) (lc : Addr) (cv : List Value) (nc : Nat) (t1 : Tok) (t3 : Tok) (v5 : Option Value) (v6 : Option Value) (v7 : Option Value) (f0 : s' = { s with heap := h, toks := tk })
    (f1 : Fr g L h m)
    (f2 : News g L h news)
    (f3 : (lc, W.listOf cv.toArray nc) ∈ news)
    (f4 : (lm, W.listOf mv.toArray 0) ∈ news)
    (f5 : (L + 1 + 1 + 1 + 1 + 1 + 1 + 1, o7) ∈ news)
    (f6 : (L + 1 + 1 + 1 + 1 + 1 + 1, o6) ∈ news)
    (f7 : (L + 1 + 1 + 1 + 1 + 1, o5) ∈ news)
    (f8 : (L + 1 + 1 + 1 + 1, o4) ∈ news)
    (f9 : (L + 1 + 1 + 1, o3) ∈ news)
    (f10 : (L + 1 + 1, o2) ∈ news)
    (f11 : (L + 1, o1) ∈ news)
    (f12 : (88, tabObj #[]) ∈ news)
    (f13 : (81, tabObj #[]) ∈ news)
    (f14 : o1.data = .cell (some (.int Z t1)))
    (f15 : o2.data = .cell (some (.ref lm)))
    (f16 : o3.data = .cell (some (.int (mo.length : Int) t3)))
    (f17 : o4.data = .cell (some (.ref lc)))
    (f18 : o5.data = .cell v5)
    (f19 : o6.data = .cell v6)
    (f20 : o7.data = .cell v7)
    (f21 : IntsAre mv (mo))
    (f22 : IntsAre cv (cs))
    (f23 : @LT.lt Nat _ (L + 1 + 1 + 1 + 1 + 1 + 1 + 1) lm)
    (f24 : @LT.lt Nat _ lm lc) : Mid2 g L Z mo cs s s'
inductive Mid3 (g : Heap) (L : Addr) (Z : Int) (mo cs : List Int) (s s' : Shared) : Prop
  | mk (h : Heap) (tk : Nat) (m : Str → Option Value) (news : List (Addr × Obj)) (o1 : Obj) (o2 : Obj) (o3 : Obj) (o4 : Obj) (o5 : Obj) (o6 : Obj) (o7 : Obj) (lm : Addr) (mv : List Value) (lc : Addr) (cv : List Value) (nc : Nat) (lp : Addr) (pv : List Value) (t1 : Tok) (t3 : Tok) (t8 : Tok) (v6 : Option Value) (v7 : Option Value) (f0 : s' = { s with heap := h, toks := tk })
    (f1 : Fr g L h m)
    (f2 : News g L h news)
    (f3 : m (Str.ofString "size") = some (.int (cs.length : Int) t8))
    (f4 : (lp, W.listOf pv.toArray pv.length) ∈ news)
    (f5 : (lc, W.listOf cv.toArray nc) ∈ news)
    (f6 : (lm, W.listOf mv.toArray 0) ∈ news)
    (f7 : (L + 1 + 1 + 1 + 1 + 1 + 1 + 1, o7) ∈ news)
    (f8 : (L + 1 + 1 + 1 + 1 + 1 + 1, o6) ∈ news)
    (f9 : (L + 1 + 1 + 1 + 1 + 1, o5) ∈ news)
    (f10 : (L + 1 + 1 + 1 + 1, o4) ∈ news)
    (f11 : (L + 1 + 1 + 1, o3) ∈ news)
    (f12 : (L + 1 + 1, o2) ∈ news)
    (f13 : (L + 1, o1) ∈ news)
    (f14 : (88, tabObj #[]) ∈ news)
    (f15 : (81, tabObj #[]) ∈ news)
    (f16 : o1.data = .cell (some (.int Z t1)))
    (f17 : o2.data = .cell (some (.ref lm)))
    (f18 : o3.data = .cell (some (.int (mo.length : Int) t3)))
    (f19 : o4.data = .cell (some (.ref lc)))
    (f20 : o5.data = .cell (some (.ref lp)))
    (f21 : o6.data = .cell v6)
    (f22 : o7.data = .cell v7)
    (f23 : IntsAre mv (mo))
    (f24 : IntsAre cv (cs))
    (f25 : IntsAre pv (partsOf Z cs))
    (f26 : Off lm [L + 1 + 1 + 1 + 1 + 1 + 1 + 1, L + 1 + 1 + 1 + 1 + 1 + 1, L + 1 + 1 + 1 + 1 + 1, L + 1 + 1 + 1 + 1, L + 1 + 1 + 1, L + 1 + 1, L + 1, 88, 81])
    (f27 : Off lc [L + 1 + 1 + 1 + 1 + 1 + 1 + 1, L + 1 + 1 + 1 + 1 + 1 + 1, L + 1 + 1 + 1 + 1 + 1, L + 1 + 1 + 1 + 1, L + 1 + 1 + 1, L + 1 + 1, L + 1, 88, 81, lm])
    (f28 : Off lp [L + 1 + 1 + 1 + 1 + 1 + 1 + 1, L + 1 + 1 + 1 + 1 + 1 + 1, L + 1 + 1 + 1 + 1 + 1, L + 1 + 1 + 1 + 1, L + 1 + 1 + 1, L + 1 + 1, L + 1, 88, 81, lm, lc]) : Mid3 g L Z mo cs s s'
inductive Mid4 (g : Heap) (L : Addr) (Z : Int) (mo cs : List Int) (s s' : Shared) : Prop
  | mk (h : Heap) (tk : Nat) (m : Str → Option Value) (news : List (Addr × Obj)) (o1 : Obj) (o2 : Obj) (o3 : Obj) (o4 : Obj) (o5 : Obj) (o6 : Obj) (o7 : Obj) (lm : Addr) (mv : List Value) (lc : Addr) (cv : List Value) (nc : Nat) (lp : Addr) (pv : List Value) (t1 : Tok) (t3 : Tok) (t8 : Tok) (v6 : Option Value) (v7 : Option Value) (tw : Tok) (f0 : s' = { s with heap := h, toks := tk })
    (f1 : Fr g L h m)
    (f2 : News g L h news)
    (f3 : m (Str.ofString "word") = some (.str (textOf Z mo) tw))
    (f4 : m (Str.ofString "size") = some (.int (cs.length : Int) t8))
    (f5 : (lp, W.listOf pv.toArray pv.length) ∈ news)
    (f6 : (lc, W.listOf cv.toArray nc) ∈ news)
    (f7 : (lm, W.listOf mv.toArray 0) ∈ news)
    (f8 : (L + 1 + 1 + 1 + 1 + 1 + 1 + 1, o7) ∈ news)
    (f9 : (L + 1 + 1 + 1 + 1 + 1 + 1, o6) ∈ news)
    (f10 : (L + 1 + 1 + 1 + 1 + 1, o5) ∈ news)
    (f11 : (L + 1 + 1 + 1 + 1, o4) ∈ news)
    (f12 : (L + 1 + 1 + 1, o3) ∈ news)
    (f13 : (L + 1 + 1, o2) ∈ news)
    (f14 : (L + 1, o1) ∈ news)
    (f15 : (88, tabObj #[]) ∈ news)
    (f16 : (81, tabObj #[]) ∈ news)
    (f17 : o1.data = .cell (some (.int Z t1)))
    (f18 : o2.data = .cell (some (.ref lm)))
    (f19 : o3.data = .cell (some (.int (mo.length : Int) t3)))
    (f20 : o4.data = .cell (some (.ref lc)))
    (f21 : o5.data = .cell (some (.ref lp)))
    (f22 : o6.data = .cell v6)
    (f23 : o7.data = .cell v7)
    (f24 : IntsAre mv (mo))
    (f25 : IntsAre cv (cs))
    (f26 : IntsAre pv (partsOf Z cs))
    (f27 : Off lm [L + 1 + 1 + 1 + 1 + 1 + 1 + 1, L + 1 + 1 + 1 + 1 + 1 + 1, L + 1 + 1 + 1 + 1 + 1, L + 1 + 1 + 1 + 1, L + 1 + 1 + 1, L + 1 + 1, L + 1, 88, 81])
    (f28 : Off lc [L + 1 + 1 + 1 + 1 + 1 + 1 + 1, L + 1 + 1 + 1 + 1 + 1 + 1, L + 1 + 1 + 1 + 1 + 1, L + 1 + 1 + 1 + 1, L + 1 + 1 + 1, L + 1 + 1, L + 1, 88, 81, lm])
    (f29 : Off lp [L + 1 + 1 + 1 + 1 + 1 + 1 + 1, L + 1 + 1 + 1 + 1 + 1 + 1, L + 1 + 1 + 1 + 1 + 1, L + 1 + 1 + 1 + 1, L + 1 + 1 + 1, L + 1 + 1, L + 1, 88, 81, lm, lc]) : Mid4 g L Z mo cs s s'
inductive Mid5 (g : Heap) (L : Addr) (Z : Int) (mo cs : List Int) (s s' : Shared) : Prop
  | mk (h : Heap) (tk : Nat) (m : Str → Option Value) (news : List (Addr × Obj)) (o1 : Obj) (o2 : Obj) (o3 : Obj) (o4 : Obj) (o5 : Obj) (o6 : Obj) (o7 : Obj) (lm : Addr) (mv : List Value) (lc : Addr) (cv : List Value) (nc : Nat) (lp : Addr) (pv : List Value) (t1 : Tok) (t3 : Tok) (t8 : Tok) (v6 : Option Value) (v7 : Option Value) (tw : Tok) (ls : Addr) (sv : List Value) (ns : Nat) (f0 : s' = { s with heap := h, toks := tk })
    (f1 : Fr g L h m)
    (f2 : News g L h news)
    (f3 : m (Str.ofString "signs") = some (.ref ls))
    (f4 : m (Str.ofString "word") = some (.str (textOf Z mo) tw))
    (f5 : m (Str.ofString "size") = some (.int (cs.length : Int) t8))
    (f6 : (ls, W.listOf sv.toArray ns) ∈ news)
    (f7 : (lp, W.listOf pv.toArray pv.length) ∈ news)
    (f8 : (lc, W.listOf cv.toArray nc) ∈ news)
    (f9 : (lm, W.listOf mv.toArray 0) ∈ news)
    (f10 : (L + 1 + 1 + 1 + 1 + 1 + 1 + 1, o7) ∈ news)
    (f11 : (L + 1 + 1 + 1 + 1 + 1 + 1, o6) ∈ news)
    (f12 : (L + 1 + 1 + 1 + 1 + 1, o5) ∈ news)
    (f13 : (L + 1 + 1 + 1 + 1, o4) ∈ news)
    (f14 : (L + 1 + 1 + 1, o3) ∈ news)
    (f15 : (L + 1 + 1, o2) ∈ news)
    (f16 : (L + 1, o1) ∈ news)
    (f17 : (88, tabObj #[]) ∈ news)
    (f18 : (81, tabObj #[]) ∈ news)
    (f19 : o1.data = .cell (some (.int Z t1)))
    (f20 : o2.data = .cell (some (.ref lm)))
    (f21 : o3.data = .cell (some (.int (mo.length : Int) t3)))
    (f22 : o4.data = .cell (some (.ref lc)))
    (f23 : o5.data = .cell (some (.ref lp)))
    (f24 : o6.data = .cell v6)
    (f25 : o7.data = .cell v7)
    (f26 : IntsAre mv (mo))
    (f27 : IntsAre cv (cs))
    (f28 : IntsAre pv (partsOf Z cs))
    (f29 : Off lm [L + 1 + 1 + 1 + 1 + 1 + 1 + 1, L + 1 + 1 + 1 + 1 + 1 + 1, L + 1 + 1 + 1 + 1 + 1, L + 1 + 1 + 1 + 1, L + 1 + 1 + 1, L + 1 + 1, L + 1, 88, 81])
    (f30 : Off lc [L + 1 + 1 + 1 + 1 + 1 + 1 + 1, L + 1 + 1 + 1 + 1 + 1 + 1, L + 1 + 1 + 1 + 1 + 1, L + 1 + 1 + 1 + 1, L + 1 + 1 + 1, L + 1 + 1, L + 1, 88, 81, lm])
    (f31 : Off lp [L + 1 + 1 + 1 + 1 + 1 + 1 + 1, L + 1 + 1 + 1 + 1 + 1 + 1, L + 1 + 1 + 1 + 1 + 1, L + 1 + 1 + 1 + 1, L + 1 + 1 + 1, L + 1 + 1, L + 1, 88, 81, lm, lc])
    (f32 : StrsAre sv (cs.map fun c => Cs [loC Z c]))
    (f33 : Off ls [L + 1 + 1 + 1 + 1 + 1 + 1 + 1, L + 1 + 1 + 1 + 1 + 1 + 1, L + 1 + 1 + 1 + 1 + 1, L + 1 + 1 + 1 + 1, L + 1 + 1 + 1, L + 1 + 1, L + 1, 88, 81, lm, lc, lp]) : Mid5 g L Z mo cs s s'
inductive Mid6 (g : Heap) (L : Addr) (Z : Int) (mo cs : List Int) (s s' : Shared) : Prop
  | mk (h : Heap) (tk : Nat) (m : Str → Option Value) (news : List (Addr × Obj)) (o1 : Obj) (o2 : Obj) (o3 : Obj) (o4 : Obj) (o5 : Obj) (o6 : Obj) (o7 : Obj) (lm : Addr) (mv : List Value) (lc : Addr) (cv : List Value) (nc : Nat) (lp : Addr) (pv : List Value) (t1 : Tok) (t3 : Tok) (t8 : Tok) (v6 : Option Value) (v7 : Option Value) (tw : Tok) (ls : Addr) (sv : List Value) (ns : Nat) (tx : Tok) (f0 : s' = { s with heap := h, toks := tk })
    (f1 : Fr g L h m)
    (f2 : News g L h news)
    (f3 : m (Str.ofString "text") = some (.str (textOf Z cs) tx))
    (f4 : m (Str.ofString "signs") = some (.ref ls))
    (f5 : m (Str.ofString "word") = some (.str (textOf Z mo) tw))
    (f6 : m (Str.ofString "size") = some (.int (cs.length : Int) t8))
    (f7 : (ls, W.listOf sv.toArray ns) ∈ news)
    (f8 : (lp, W.listOf pv.toArray pv.length) ∈ news)
    (f9 : (lc, W.listOf cv.toArray nc) ∈ news)
    (f10 : (lm, W.listOf mv.toArray 0) ∈ news)
    (f11 : (L + 1 + 1 + 1 + 1 + 1 + 1 + 1, o7) ∈ news)
    (f12 : (L + 1 + 1 + 1 + 1 + 1 + 1, o6) ∈ news)
    (f13 : (L + 1 + 1 + 1 + 1 + 1, o5) ∈ news)
    (f14 : (L + 1 + 1 + 1 + 1, o4) ∈ news)
    (f15 : (L + 1 + 1 + 1, o3) ∈ news)
    (f16 : (L + 1 + 1, o2) ∈ news)
    (f17 : (L + 1, o1) ∈ news)
    (f18 : (88, tabObj #[]) ∈ news)
    (f19 : (81, tabObj #[]) ∈ news)
    (f20 : o1.data = .cell (some (.int Z t1)))
    (f21 : o2.data = .cell (some (.ref lm)))
    (f22 : o3.data = .cell (some (.int (mo.length : Int) t3)))
    (f23 : o4.data = .cell (some (.ref lc)))
    (f24 : o5.data = .cell (some (.ref lp)))
    (f25 : o6.data = .cell v6)
    (f26 : o7.data = .cell v7)
    (f27 : IntsAre mv (mo))
    (f28 : IntsAre cv (cs))
    (f29 : IntsAre pv (partsOf Z cs))
    (f30 : Off lm [L + 1 + 1 + 1 + 1 + 1 + 1 + 1, L + 1 + 1 + 1 + 1 + 1 + 1, L + 1 + 1 + 1 + 1 + 1, L + 1 + 1 + 1 + 1, L + 1 + 1 + 1, L + 1 + 1, L + 1, 88, 81])
    (f31 : Off lc [L + 1 + 1 + 1 + 1 + 1 + 1 + 1, L + 1 + 1 + 1 + 1 + 1 + 1, L + 1 + 1 + 1 + 1 + 1, L + 1 + 1 + 1 + 1, L + 1 + 1 + 1, L + 1 + 1, L + 1, 88, 81, lm])
    (f32 : Off lp [L + 1 + 1 + 1 + 1 + 1 + 1 + 1, L + 1 + 1 + 1 + 1 + 1 + 1, L + 1 + 1 + 1 + 1 + 1, L + 1 + 1 + 1 + 1, L + 1 + 1 + 1, L + 1 + 1, L + 1, 88, 81, lm, lc])
    (f33 : StrsAre sv (cs.map fun c => Cs [loC Z c]))
    (f34 : Off ls [L + 1 + 1 + 1 + 1 + 1 + 1 + 1, L + 1 + 1 + 1 + 1 + 1 + 1, L + 1 + 1 + 1 + 1 + 1, L + 1 + 1 + 1 + 1, L + 1 + 1 + 1, L + 1 + 1, L + 1, 88, 81, lm, lc, lp]) : Mid6 g L Z mo cs s s'
inductive Mid7 (g : Heap) (L : Addr) (Z : Int) (mo cs fs ss : List Int) (s s' : Shared) : Prop
  | mk (h : Heap) (tk : Nat) (m : Str → Option Value) (news : List (Addr × Obj)) (o1 : Obj) (o2 : Obj) (o3 : Obj) (o4 : Obj) (o5 : Obj) (o6 : Obj) (o7 : Obj) (lm : Addr) (mv : List Value) (lc : Addr) (cv : List Value) (nc : Nat) (lp : Addr) (pv : List Value) (t1 : Tok) (t3 : Tok) (t8 : Tok) (v6 : Option Value) (v7 : Option Value) (tw : Tok) (ls : Addr) (sv : List Value) (ns : Nat) (tx : Tok) (lf : Addr) (fv : List Value) (nf : Nat) (lst : Addr) (stv : List Value) (nst : Nat) (f0 : s' = { s with heap := h, toks := tk })
    (f1 : Fr g L h m)
    (f2 : News g L h news)
    (f3 : m (Str.ofString "fewest") = some (.ref lf))
    (f4 : m (Str.ofString "stretches") = some (.ref lst))
    (f5 : m (Str.ofString "text") = some (.str (textOf Z cs) tx))
    (f6 : m (Str.ofString "signs") = some (.ref ls))
    (f7 : m (Str.ofString "word") = some (.str (textOf Z mo) tw))
    (f8 : m (Str.ofString "size") = some (.int (cs.length : Int) t8))
    (f9 : (lst, W.listOf stv.toArray nst) ∈ news)
    (f10 : (lf, W.listOf fv.toArray nf) ∈ news)
    (f11 : (ls, W.listOf sv.toArray ns) ∈ news)
    (f12 : (lp, W.listOf pv.toArray pv.length) ∈ news)
    (f13 : (lc, W.listOf cv.toArray nc) ∈ news)
    (f14 : (lm, W.listOf mv.toArray 0) ∈ news)
    (f15 : (L + 1 + 1 + 1 + 1 + 1 + 1 + 1, o7) ∈ news)
    (f16 : (L + 1 + 1 + 1 + 1 + 1 + 1, o6) ∈ news)
    (f17 : (L + 1 + 1 + 1 + 1 + 1, o5) ∈ news)
    (f18 : (L + 1 + 1 + 1 + 1, o4) ∈ news)
    (f19 : (L + 1 + 1 + 1, o3) ∈ news)
    (f20 : (L + 1 + 1, o2) ∈ news)
    (f21 : (L + 1, o1) ∈ news)
    (f22 : (88, tabObj #[]) ∈ news)
    (f23 : (81, tabObj #[]) ∈ news)
    (f24 : o1.data = .cell (some (.int Z t1)))
    (f25 : o2.data = .cell (some (.ref lm)))
    (f26 : o3.data = .cell (some (.int (mo.length : Int) t3)))
    (f27 : o4.data = .cell (some (.ref lc)))
    (f28 : o5.data = .cell (some (.ref lp)))
    (f29 : o6.data = .cell v6)
    (f30 : o7.data = .cell v7)
    (f31 : IntsAre mv (mo))
    (f32 : IntsAre cv (cs))
    (f33 : IntsAre pv (partsOf Z cs))
    (f34 : Off lm [L + 1 + 1 + 1 + 1 + 1 + 1 + 1, L + 1 + 1 + 1 + 1 + 1 + 1, L + 1 + 1 + 1 + 1 + 1, L + 1 + 1 + 1 + 1, L + 1 + 1 + 1, L + 1 + 1, L + 1, 88, 81])
    (f35 : Off lc [L + 1 + 1 + 1 + 1 + 1 + 1 + 1, L + 1 + 1 + 1 + 1 + 1 + 1, L + 1 + 1 + 1 + 1 + 1, L + 1 + 1 + 1 + 1, L + 1 + 1 + 1, L + 1 + 1, L + 1, 88, 81, lm])
    (f36 : Off lp [L + 1 + 1 + 1 + 1 + 1 + 1 + 1, L + 1 + 1 + 1 + 1 + 1 + 1, L + 1 + 1 + 1 + 1 + 1, L + 1 + 1 + 1 + 1, L + 1 + 1 + 1, L + 1 + 1, L + 1, 88, 81, lm, lc])
    (f37 : StrsAre sv (cs.map fun c => Cs [loC Z c]))
    (f38 : Off ls [L + 1 + 1 + 1 + 1 + 1 + 1 + 1, L + 1 + 1 + 1 + 1 + 1 + 1, L + 1 + 1 + 1 + 1 + 1, L + 1 + 1 + 1 + 1, L + 1 + 1 + 1, L + 1 + 1, L + 1, 88, 81, lm, lc, lp])
    (f39 : IntsAre fv fs)
    (f40 : IntsAre stv ss)
    (f41 : Off lf [L + 1 + 1 + 1 + 1 + 1 + 1 + 1, L + 1 + 1 + 1 + 1 + 1 + 1, L + 1 + 1 + 1 + 1 + 1, L + 1 + 1 + 1 + 1, L + 1 + 1 + 1, L + 1 + 1, L + 1, 88, 81, lm, lc, lp, ls])
    (f42 : Off lst [L + 1 + 1 + 1 + 1 + 1 + 1 + 1, L + 1 + 1 + 1 + 1 + 1 + 1, L + 1 + 1 + 1 + 1 + 1, L + 1 + 1 + 1 + 1, L + 1 + 1 + 1, L + 1 + 1, L + 1, 88, 81, lm, lc, lp, ls, lf]) : Mid7 g L Z mo cs fs ss s s'
inductive Mid8 (g : Heap) (L : Addr) (Z : Int) (mo cs fs ss : List Int) (s s' : Shared) : Prop
  | mk (h : Heap) (tk : Nat) (m : Str → Option Value) (news : List (Addr × Obj)) (o1 : Obj) (o2 : Obj) (o3 : Obj) (o4 : Obj) (o5 : Obj) (o6 : Obj) (o7 : Obj) (lm : Addr) (mv : List Value) (lc : Addr) (cv : List Value) (nc : Nat) (lp : Addr) (pv : List Value) (t1 : Tok) (t3 : Tok) (t8 : Tok) (v6 : Option Value) (v7 : Option Value) (tw : Tok) (ls : Addr) (sv : List Value) (ns : Nat) (tx : Tok) (lf : Addr) (fv : List Value) (nf : Nat) (lst : Addr) (stv : List Value) (nst : Nat) (t81 : Obj) (c81 : Addr) (o81 : Obj) (tf : Tok) (f0 : s' = { s with heap := h, toks := tk })
    (f1 : Fr g L h m)
    (f2 : News g L h news)
    (f3 : m (Str.ofString "fewest") = some (.ref lf))
    (f4 : m (Str.ofString "stretches") = some (.ref lst))
    (f5 : m (Str.ofString "text") = some (.str (textOf Z cs) tx))
    (f6 : m (Str.ofString "signs") = some (.ref ls))
    (f7 : m (Str.ofString "word") = some (.str (textOf Z mo) tw))
    (f8 : m (Str.ofString "size") = some (.int (cs.length : Int) t8))
    (f9 : m (Str.ofString "former") = some (.str (textOf Z cs) tf))
    (f10 : (lst, W.listOf stv.toArray nst) ∈ news)
    (f11 : (lf, W.listOf fv.toArray nf) ∈ news)
    (f12 : (ls, W.listOf sv.toArray ns) ∈ news)
    (f13 : (lp, W.listOf pv.toArray pv.length) ∈ news)
    (f14 : (lc, W.listOf cv.toArray nc) ∈ news)
    (f15 : (lm, W.listOf mv.toArray 0) ∈ news)
    (f16 : (L + 1 + 1 + 1 + 1 + 1 + 1 + 1, o7) ∈ news)
    (f17 : (L + 1 + 1 + 1 + 1 + 1 + 1, o6) ∈ news)
    (f18 : (L + 1 + 1 + 1 + 1 + 1, o5) ∈ news)
    (f19 : (L + 1 + 1 + 1 + 1, o4) ∈ news)
    (f20 : (L + 1 + 1 + 1, o3) ∈ news)
    (f21 : (L + 1 + 1, o2) ∈ news)
    (f22 : (L + 1, o1) ∈ news)
    (f23 : (88, tabObj #[]) ∈ news)
    (f24 : (81, t81) ∈ news)
    (f25 : (c81, o81) ∈ news)
    (f26 : o1.data = .cell (some (.int Z t1)))
    (f27 : o2.data = .cell (some (.ref lm)))
    (f28 : o3.data = .cell (some (.int (mo.length : Int) t3)))
    (f29 : o4.data = .cell (some (.ref lc)))
    (f30 : o5.data = .cell (some (.ref lp)))
    (f31 : o6.data = .cell v6)
    (f32 : o7.data = .cell v7)
    (f33 : IntsAre mv (mo))
    (f34 : IntsAre cv (cs))
    (f35 : IntsAre pv (partsOf Z cs))
    (f36 : Off lm [L + 1 + 1 + 1 + 1 + 1 + 1 + 1, L + 1 + 1 + 1 + 1 + 1 + 1, L + 1 + 1 + 1 + 1 + 1, L + 1 + 1 + 1 + 1, L + 1 + 1 + 1, L + 1 + 1, L + 1, 88, 81])
    (f37 : Off lc [L + 1 + 1 + 1 + 1 + 1 + 1 + 1, L + 1 + 1 + 1 + 1 + 1 + 1, L + 1 + 1 + 1 + 1 + 1, L + 1 + 1 + 1 + 1, L + 1 + 1 + 1, L + 1 + 1, L + 1, 88, 81, lm])
    (f38 : Off lp [L + 1 + 1 + 1 + 1 + 1 + 1 + 1, L + 1 + 1 + 1 + 1 + 1 + 1, L + 1 + 1 + 1 + 1 + 1, L + 1 + 1 + 1 + 1, L + 1 + 1 + 1, L + 1 + 1, L + 1, 88, 81, lm, lc])
    (f39 : StrsAre sv (cs.map fun c => Cs [loC Z c]))
    (f40 : Off ls [L + 1 + 1 + 1 + 1 + 1 + 1 + 1, L + 1 + 1 + 1 + 1 + 1 + 1, L + 1 + 1 + 1 + 1 + 1, L + 1 + 1 + 1 + 1, L + 1 + 1 + 1, L + 1 + 1, L + 1, 88, 81, lm, lc, lp])
    (f41 : IntsAre fv fs)
    (f42 : IntsAre stv ss)
    (f43 : Off lf [L + 1 + 1 + 1 + 1 + 1 + 1 + 1, L + 1 + 1 + 1 + 1 + 1 + 1, L + 1 + 1 + 1 + 1 + 1, L + 1 + 1 + 1 + 1, L + 1 + 1 + 1, L + 1 + 1, L + 1, 88, 81, lm, lc, lp, ls])
    (f44 : Off lst [L + 1 + 1 + 1 + 1 + 1 + 1 + 1, L + 1 + 1 + 1 + 1 + 1 + 1, L + 1 + 1 + 1 + 1 + 1, L + 1 + 1 + 1 + 1, L + 1 + 1 + 1, L + 1 + 1, L + 1, 88, 81, lm, lc, lp, ls, lf])
    (f45 : TabIs 81 156 61 (lamQ (Str.ofString "_law_most")) [(81, t81), (c81, o81)])
    (f46 : Off c81 [L + 1 + 1 + 1 + 1 + 1 + 1 + 1, L + 1 + 1 + 1 + 1 + 1 + 1, L + 1 + 1 + 1 + 1 + 1, L + 1 + 1 + 1 + 1, L + 1 + 1 + 1, L + 1 + 1, L + 1, 88, 81, lm, lc, lp, ls, lf, lst]) : Mid8 g L Z mo cs fs ss s s'
inductive Mid9 (g : Heap) (L : Addr) (Z : Int) (mo cs ss : List Int) (s s' : Shared) : Prop
  | mk (h : Heap) (tk : Nat) (m : Str → Option Value) (news : List (Addr × Obj)) (o1 : Obj) (o2 : Obj) (o3 : Obj) (o4 : Obj) (o5 : Obj) (o6 : Obj) (o7 : Obj) (lm : Addr) (mv : List Value) (lc : Addr) (cv : List Value) (nc : Nat) (lp : Addr) (pv : List Value) (t1 : Tok) (t3 : Tok) (t8 : Tok) (v6 : Option Value) (v7 : Option Value) (tw : Tok) (tx : Tok) (lst : Addr) (stv : List Value) (nst : Nat) (t81 : Obj) (c81 : Addr) (o81 : Obj) (t88 : Obj) (f0 : s' = { s with heap := h, toks := tk })
    (f1 : Fr g L h m)
    (f2 : News g L h news)
    (f3 : m (Str.ofString "stretches") = some (.ref lst))
    (f4 : m (Str.ofString "text") = some (.str (textOf Z cs) tx))
    (f5 : m (Str.ofString "word") = some (.str (textOf Z mo) tw))
    (f6 : m (Str.ofString "size") = some (.int (cs.length : Int) t8))
    (f7 : (lst, W.listOf stv.toArray nst) ∈ news)
    (f8 : (lp, W.listOf pv.toArray pv.length) ∈ news)
    (f9 : (lc, W.listOf cv.toArray nc) ∈ news)
    (f10 : (lm, W.listOf mv.toArray 0) ∈ news)
    (f11 : (L + 1 + 1 + 1 + 1 + 1 + 1 + 1, o7) ∈ news)
    (f12 : (L + 1 + 1 + 1 + 1 + 1 + 1, o6) ∈ news)
    (f13 : (L + 1 + 1 + 1 + 1 + 1, o5) ∈ news)
    (f14 : (L + 1 + 1 + 1 + 1, o4) ∈ news)
    (f15 : (L + 1 + 1 + 1, o3) ∈ news)
    (f16 : (L + 1 + 1, o2) ∈ news)
    (f17 : (L + 1, o1) ∈ news)
    (f18 : (88, t88) ∈ news)
    (f19 : (81, t81) ∈ news)
    (f20 : (c81, o81) ∈ news)
    (f21 : o1.data = .cell (some (.int Z t1)))
    (f22 : o2.data = .cell (some (.ref lm)))
    (f23 : o3.data = .cell (some (.int (mo.length : Int) t3)))
    (f24 : o4.data = .cell (some (.ref lc)))
    (f25 : o5.data = .cell (some (.ref lp)))
    (f26 : o6.data = .cell v6)
    (f27 : o7.data = .cell v7)
    (f28 : IntsAre mv (mo))
    (f29 : IntsAre cv (cs))
    (f30 : IntsAre pv (partsOf Z cs))
    (f31 : Off lm [L + 1 + 1 + 1 + 1 + 1 + 1 + 1, L + 1 + 1 + 1 + 1 + 1 + 1, L + 1 + 1 + 1 + 1 + 1, L + 1 + 1 + 1 + 1, L + 1 + 1 + 1, L + 1 + 1, L + 1, 88, 81])
    (f32 : Off lc [L + 1 + 1 + 1 + 1 + 1 + 1 + 1, L + 1 + 1 + 1 + 1 + 1 + 1, L + 1 + 1 + 1 + 1 + 1, L + 1 + 1 + 1 + 1, L + 1 + 1 + 1, L + 1 + 1, L + 1, 88, 81, lm])
    (f33 : Off lp [L + 1 + 1 + 1 + 1 + 1 + 1 + 1, L + 1 + 1 + 1 + 1 + 1 + 1, L + 1 + 1 + 1 + 1 + 1, L + 1 + 1 + 1 + 1, L + 1 + 1 + 1, L + 1 + 1, L + 1, 88, 81, lm, lc])
    (f34 : IntsAre stv ss)
    (f35 : TabIs 81 156 61 (lamQ (Str.ofString "_law_most")) [(81, t81), (c81, o81)])
    (f36 : Off lst [L + 1 + 1 + 1 + 1 + 1 + 1 + 1, L + 1 + 1 + 1 + 1 + 1 + 1, L + 1 + 1 + 1 + 1 + 1, L + 1 + 1 + 1 + 1, L + 1 + 1 + 1, L + 1 + 1, L + 1, 88, 81, lm, lc, lp])
    (f37 : Off c81 [L + 1 + 1 + 1 + 1 + 1 + 1 + 1, L + 1 + 1 + 1 + 1 + 1 + 1, L + 1 + 1 + 1 + 1 + 1, L + 1 + 1 + 1 + 1, L + 1 + 1 + 1, L + 1 + 1, L + 1, 88, 81, lm, lc, lp, lst])
    (f38 : ∃ pp, t88 = tabObj pp) : Mid9 g L Z mo cs ss s s'
end Mine

end
section
open PySem PySem.W PyProof.Rows PySem.Calls PySem.Spec
namespace Mine
/-- the law behind its fourth statement -/
inductive Mid1 (g : Heap) (L l : Addr) (ns : List Int) (s s' : Shared) : Prop
  | mk (h : Heap) (tk : Nat) (m : Str → Option Value) (news : List (Addr × Obj)) (o1 o2 o3 o4 o5 o6 o7 : Obj) (lm : Addr) (mv : List Value) (lc : Addr) (t1 t3 : Tok) (f0 : s' = { s with heap := h, toks := tk }) (f1 : Fr g L h m) (f2 : m (Str.ofString "script") = some (.ref l)) (f3 : News g L h news)
    (f4 : (L + 1, o1) ∈ news) (f5 : o1.data = .cell (some (.int ns.sum t1))) (f6 : (L + 1 + 1, o2) ∈ news) (f7 : o2.data = .cell (some (.ref lm))) (f8 : (L + 1 + 1 + 1, o3) ∈ news) (f9 : o3.data = .cell (some (.int ((motifOf (ns.sum.fmod 3)).length : Int) t3)))
    (f10 : (L + 1 + 1 + 1 + 1, o4) ∈ news) (f11 : o4.data = .cell (some (.ref lc))) (f12 : (lm, W.listOf (List.toArray mv) 0) ∈ news) (f13 : IntsAre mv (motifOf (ns.sum.fmod 3))) (f14 : (lc, W.listOf #[] 0) ∈ news)
    (f15 : (L + 1 + 1 + 1 + 1 + 1, o5) ∈ news) (f16 : ∃ v, o5.data = .cell v) (f17 : (L + 1 + 1 + 1 + 1 + 1 + 1, o6) ∈ news) (f18 : ∃ v, o6.data = .cell v) (f19 : (L + 1 + 1 + 1 + 1 + 1 + 1 + 1, o7) ∈ news) (f20 : ∃ v, o7.data = .cell v)
    (f21 : (88, tabObj #[]) ∈ news) (f22 : (81, tabObj #[]) ∈ news) (f23 : @LT.lt Nat _ (L + 1 + 1 + 1 + 1 + 1 + 1 + 1) lm) (f24 : @LT.lt Nat _ lm lc) : Mid1 g L l ns s s'
theorem take_step {α} {l : List α} {i : Nat} {x : α} (h : l[i]? = some x) : l.take (i + 1) = l.take i ++ [x] := by rw [List.take_add_one, h]; rfl
theorem piece_step {mo l : List Int} {i : Nat} {x : Int} {q : List Int} {a b : List Value} (h : l[i]? = some x) (hp : piece mo x = q) (ha : IntsAre a ((l.take i).flatMap (piece mo))) (hb : IntsAre b q) : IntsAre (a ++ b) ((l.take (i + 1)).flatMap (piece mo)) := by
  rw [take_step h, List.flatMap_append]
  refine ha.append ?_
  simp only [List.flatMap_cons, List.flatMap_nil, List.append_nil, hp]
  exact hb
theorem piece_len {mo : List Int} (h1 : 2 ≤ mo.length) (h2 : mo.length ≤ 4) (x : Int) : 1 ≤ (piece mo x).length ∧ (piece mo x).length ≤ 4 := by
  unfold piece
  split
  · omega
  · split
    · rw [List.length_drop]; omega
    · split <;> decide
theorem pieces_len {mo : List Int} (h1 : 2 ≤ mo.length) (h2 : mo.length ≤ 4) (l : List Int) : l.length ≤ (l.flatMap (piece mo)).length ∧ (l.flatMap (piece mo)).length ≤ 4 * l.length := by
  induction l with
  | nil => exact ⟨Nat.le_refl _, Nat.le_refl _⟩
  | cons x l ih =>
    have := piece_len h1 h2 x
    simp only [List.flatMap_cons, List.length_append, List.length_cons]
    omega
theorem ext_sz {a b : List Value} {n : Nat} (h : a.length + b.length ≤ 1000) : a.toArray.size + b.toArray.size ≤ PySem.sizeLine := by rw [sizeLine_eq, List.size_toArray, List.size_toArray]; omega
theorem ext_sz1 {a b : List Value} (h : a.length + b.length ≤ 1000) : a.toArray.size + b.toArray.size ≤ PySem.sizeLine + 1 := Nat.le_succ_of_le (ext_sz (n := 0) h)
theorem ext_sz0 {a : List Value} (h : a.length ≤ 1000) : a.toArray.toList.length ≤ PySem.sizeLine := by rw [sizeLine_eq]; show a.length ≤ _; omega
theorem ext_ne {b : List Value} (h : 1 ≤ b.length) : b.toArray.toList.length ≠ 0 := by show b.length ≠ 0; omega
section
local macro_rules | `(tactic| walk_at "pyIter ref") => `(tactic| (refine hold ?_))
local macro_rules | `(tactic| walk_at "exec For") => `(tactic| (k_here; (with_reducible rename Fr _ _ _ _ => kF); k_dflt (refine' For_invV (FrG kF) rfl rfl ?_); (try dsimp only [FrG])))
local macro_rules | `(tactic| walk_at "call builtin:list.extend") => `(tactic| (k_here; (with_reducible show wpAny _ _ (call (Value.builtin _) [Value.ref _, Value.ref _]) _ _ _); (rename IntsAre _ _ => hz9; have hz8 := IntsAre.length hz9); k_dflt (refine' kl_extend ?F ?N ?b rfl ?ne ?U ?d ?z ?y ?_; (case F => k_asm); (case N => k_asm); (case b => k_mem); (case U => k_upd); (case ne => exact ext_ne (by first | omega | (simp only [List.length_cons, List.length_nil]; omega))); (case d => exact extend_door (ext_sz (n := 0) (by first | omega | (simp only [List.length_cons, List.length_nil]; omega)))); (case z => exact ext_sz0 (by omega)); (case y => exact ext_sz1 (by first | omega | (simp only [List.length_cons, List.length_nil]; omega)))); intro h' F' N'; (try dsimp only at N')))
/-- the law behind its second statement -/
inductive Mid0 (g : Heap) (L l : Addr) (ns : List Int) (o3 o4 o5 o6 o7 : Obj) (s : Shared) : Shared → Prop
  | mk {h : Heap} {tk : Nat} {m : Str → Option Value} {o1 o2 : Obj} {lm : Addr} {mv : List Value} {t1 : Tok} (F : Fr g L h (Sv (Str.ofString "script") (.ref l) m))
    (N : News g L h [(lm, W.listOf (List.toArray mv) 0), (L + 1 + 1 + 1 + 1 + 1 + 1 + 1, o7), (L + 1 + 1 + 1 + 1 + 1 + 1, o6), (L + 1 + 1 + 1 + 1 + 1, o5), (L + 1 + 1 + 1 + 1, o4), (L + 1 + 1 + 1, o3), (L + 1 + 1, o2), (L + 1, o1), (88, tabObj #[]), (81, tabObj #[])])
    (d1 : o1.data = .cell (some (.int ns.sum t1))) (d2 : o2.data = .cell (some (.ref lm))) (im : IntsAre mv (motifOf (ns.sum.fmod 3))) (lt : @LT.lt Nat _ (L + 1 + 1 + 1 + 1 + 1 + 1 + 1) lm) :
    Mid0 g L l ns o3 o4 o5 o6 o7 s { heap := h, gens := s.gens, drawn := s.drawn, toks := tk, os := s.os }
set_option maxRecDepth 100000 in
set_option maxHeartbeats 8000000 in
theorem seg1 (w : World) {g : Heap} {L f l : Addr} {cd : Value} {s : Shared} {p : Program} {loose : List Str} {mean : ExcName → Option Value} {mg mb : Str → Option Value} {m : Str → Option Value} {Q : Flow → Shared → Prop} {vs : List Value} {ns : List Int} {o1 o2 o3 o4 o5 o6 o7 : Obj}
    (X : (hd.heap_1 w.params).In g) (T : Top p loose mean mg mb g) (C1 : CodeHd g 85 81) (C2 : CodeHd g 92 88) (F : Fr g L s.heap m) (hm : m (Str.ofString "script") = some (.ref l))
    (N : News g L s.heap [(L + 1 + 1 + 1 + 1 + 1 + 1 + 1, o7), (L + 1 + 1 + 1 + 1 + 1 + 1, o6), (L + 1 + 1 + 1 + 1 + 1, o5), (L + 1 + 1 + 1 + 1, o4), (L + 1 + 1 + 1, o3), (L + 1 + 1, o2), (L + 1, o1), (88, tabObj #[]), (81, tabObj #[])])
    (d1 : ∃ v, o1.data = .cell v) (d2 : ∃ v, o2.data = .cell v) (d3 : ∃ v, o3.data = .cell v) (d4 : ∃ v, o4.data = .cell v) (d5 : ∃ v, o5.data = .cell v) (d6 : ∃ v, o6.data = .cell v) (d7 : ∃ v, o7.data = .cell v)
    (hl : g.IsList l vs.toArray) (hi : IntsAre vs ns) (hn : ns.length ≤ 63) (hL : @LT.lt Nat _ 88 L ∧ @LT.lt Nat _ 81 L)
    {R : List Stmt} (hkey : ∀ s'', Mid1 g L l ns s s'' → wpAny (model PP w) (callerA.deeper (envOfC (Str.ofString "law") lawParts.2 L f cd)) (execs R (envOfC (Str.ofString "law") lawParts.2 L f cd)) Q (fun _ _ => False) s'') :
    wpAny (model PP w) (callerA.deeper (envOfC (Str.ofString "law") lawParts.2 L f cd)) (execs ((lawParts.1.drop 0).take 4 ++ R) (envOfC (Str.ofString "law") lawParts.2 L f cd)) Q (fun _ _ => False) s := by
  w_top off
  have e : lawParts = (lawParts.1, lawParts.2) := rfl
  conv at e => rhs; whnf
  conv at e => rhs; arg 1; whnf
  conv at e => rhs; arg 2; whnf
  rw [e] at hkey ⊢
  clear e
  dsimp only [List.drop, List.take] at hkey ⊢
  obtain ⟨v1, d1⟩ := d1
  obtain ⟨v2, d2⟩ := d2
  obtain ⟨v3, d3⟩ := d3
  obtain ⟨v4, d4⟩ := d4
  obtain ⟨v5, d5⟩ := d5
  obtain ⟨v6, d6⟩ := d6
  obtain ⟨v7, d7⟩ := d7
  have F1 := Fr.overAll F [(Str.ofString "script", _)] (fmc hm (fun _ h => absurd h List.not_mem_nil))
  dsimp only [ovs] at F1
  clear F
  refine cut_key 2 (Mid0 g L l ns o3 o4 o5 o6 o7 s) ?s1 ?s2
  case s1 =>
    intro R1 hk1
    dsimp only [List.cons_append, List.nil_append, List.take]
    k_steps
    all_goals (rename Fr _ _ _ _ => F2; rename News _ _ _ _ => N2; rename Int.fmod _ _ = _ => he)
    all_goals (refine' hk1 _ (Mid0.mk F2 ?nn ?d1 ?d2 ?im ?lt); (case d1 => assumption); (case d2 => assumption); (case nn => exact (ncons N2 (by k_mem) (ncons N2 (by k_mem) (ncons N2 (by k_mem) (ncons N2 (by k_mem) (ncons N2 (by k_mem) (ncons N2 (by k_mem) (ncons N2 (by k_mem) (ncons N2 (by k_mem) (ncons N2 (by k_mem) (ncons N2 (by k_mem) News.nil))))))))))); (case im => rw [he]; first | (show IntsAre _ [0, 0]; repeat' constructor) | (show IntsAre _ [0, 1, 0]; repeat' constructor) | (show IntsAre _ [0, 1, 0, 1]; repeat' constructor)); (case lt => omega))
  case s2 =>
  clear F1 N d1 d2
  rintro s' @⟨h1, tk1, m1, o1, o2, lm, mv, t1, F1, N1, d1, d2, im, lt⟩
  dsimp only [List.cons_append, List.nil_append, List.drop]
  have hml := IntsAre.length im
  have hm4 := motif_len (ns.sum.fmod 3)
  have hm5 : (mv.length : Int) < 9223372036854775808 := by omega
  k_steps
  rename Fr _ _ _ _ => F2
  rename News _ _ _ _ => N2
  (refine' hkey _ ⟨_, _, _, _, _, _, _, _, o5, o6, o7, _, _, _, _, _, rfl, F2, rfl, N2, ?a1, ?d1, ?a2, ?d2, ?a3, ?d3, ?a4, ?d4, ?am, ?im, ?ac, ?a5, ⟨_, d5⟩, ?a6, ⟨_, d6⟩, ?a7, ⟨_, d7⟩, ?a88, ?a81, ?lt1, ?lt2⟩; (case a1 => k_mem); (case d1 => assumption); (case a2 => k_mem); (case d2 => assumption); (case a3 => k_mem); (case d3 => assumption); (case a4 => k_mem); (case d4 => assumption); (case am => k_mem); (case im => exact im); (case ac => k_mem); (case a5 => k_mem); (case a6 => k_mem); (case a7 => k_mem); (case a88 => k_mem); (case a81 => k_mem); (case lt1 => exact lt); (case lt2 => omega))
set_option maxRecDepth 100000 in
set_option maxHeartbeats 8000000 in
theorem seg2 (w : World) {g : Heap} {L f : Addr} {cd : Value} {s s' : Shared} {p : Program} {loose : List Str} {mean : ExcName → Option Value} {mg mb : Str → Option Value} {Q : Flow → Shared → Prop}
    (X : (hd.heap_1 w.params).In g) (T : Top p loose mean mg mb g) (C1 : CodeHd g 85 81) (C2 : CodeHd g 92 88) (hL : @LT.lt Nat _ 88 L ∧ @LT.lt Nat _ 81 L) {l : Addr} {ns : List Int}
    (hmid : Mid1 g L l ns s s') {R : List Stmt}
    (hkey : ∀ s'', Mid2 g L ns.sum (motifOf (ns.sum.fmod 3)) ((List.take 5 (ns ++ [0, 1, 0])).flatMap (piece (motifOf (ns.sum.fmod 3)))) s s'' → wpAny (model PP w) (callerA.deeper (envOfC (Str.ofString "law") lawParts.2 L f cd)) (execs R (envOfC (Str.ofString "law") lawParts.2 L f cd)) Q (fun _ _ => False) s'')
    {vs : List Value} (hl : g.IsList l vs.toArray) (hi : IntsAre vs ns) (hn : ns.length ≤ 63) :
    wpAny (model PP w) (callerA.deeper (envOfC (Str.ofString "law") lawParts.2 L f cd)) (execs ((lawParts.1.drop 4).take 1 ++ R) (envOfC (Str.ofString "law") lawParts.2 L f cd)) Q (fun _ _ => False) s' := by
  w_top off
  have e : lawParts = (lawParts.1, lawParts.2) := rfl
  conv at e => rhs; whnf
  conv at e => rhs; arg 1; whnf
  conv at e => rhs; arg 2; whnf
  rw [e] at hkey ⊢
  clear e
  dsimp only [List.drop, List.take] at hkey ⊢
  obtain ⟨h1, tk1, m1, news1, p1, p2, p3, p4, p5, p6, p7, lm, mv, lc, t1, t3, hs1, F2, hm2, N2, q1, e1, q2, e2, q3, e3, q4, e4, qm, im, qc, q5, ⟨u5, e5⟩, q6, ⟨u6, e6⟩, q7, ⟨u7, e7⟩, q88, q81, lt1, lt2⟩ := hmid
  subst hs1
  have N3 : News g L h1 [(lc, W.listOf (List.toArray []) 0), (lm, W.listOf mv.toArray 0), (L + 1 + 1 + 1 + 1 + 1 + 1 + 1, p7), (L + 1 + 1 + 1 + 1 + 1 + 1, p6), (L + 1 + 1 + 1 + 1 + 1, p5), (L + 1 + 1 + 1 + 1, p4), (L + 1 + 1 + 1, p3), (L + 1 + 1, p2), (L + 1, p1), (88, tabObj #[]), (81, tabObj #[])] :=
    ncons N2 qc (ncons N2 qm (ncons N2 q7 (ncons N2 q6 (ncons N2 q5 (ncons N2 q4 (ncons N2 q3 (ncons N2 q2 (ncons N2 q1 (ncons N2 q88 (ncons N2 q81 (News.nil)))))))))))
  have F3 := Fr.overAll F2 [(Str.ofString "script", _)] (fmc hm2 (fun _ h => absurd h List.not_mem_nil))
  dsimp only [ovs] at F3
  clear F2 N2 q1 q2 q3 q4 qm qc q5 q6 q7 q88 q81
  have hmo := motif_len (ns.sum.fmod 3)
  have hmv := IntsAre.length im
  generalize hmo' : motifOf (ns.sum.fmod 3) = mo at hmo hmv im e3 hkey
  rw [← hmv] at hmo
  k_steps
  refine Hold.off ?_
  rename Fr _ _ _ _ => F4
  rename News _ _ _ _ => N4
  rename IntsAre _ (List.take 5 _) => hI5
  rename List Value => w5
  refine' for_list (Pm := List Value × Nat) (fun _ => (F2m F4)) (fun p => [(lc, W.listOf p.1.toArray p.2)])
    (fun i p => IntsAre p.1 (((List.take 5 (ns ++ [0, 1, 0])).take i).flatMap (piece mo))) [Str.ofString "x"]
    [(_, W.listOf (List.toArray w5) 0), (lm, W.listOf mv.toArray 0), (L + 1 + 1 + 1 + 1 + 1 + 1 + 1, p7), (L + 1 + 1 + 1 + 1 + 1 + 1, p6), (L + 1 + 1 + 1 + 1 + 1, p5), (L + 1 + 1 + 1 + 1, p4), (L + 1 + 1 + 1, p3), (L + 1 + 1, p2), (L + 1, p1), (88, tabObj #[]), (81, tabObj #[])] ([], 0)
    (L := L) rfl rfl (.inr ⟨_, .head _, rfl, _, rfl⟩) rfl F4 ?N5 .nil ?turn ?done
  case N5 =>
    first | exact nsub N4 (sub_idx [1, 0, 2, 3, 4, 5, 6, 7, 8, 9, 10, 11] rfl) | exact nsub N4 (sub_idx [2, 0, 3, 4, 5, 6, 7, 8, 9, 10, 11, 12] rfl) | exact nsub N4 (sub_idx [3, 0, 4, 5, 6, 7, 8, 9, 10, 11, 12, 13] rfl) | exact nsub N4 (sub_idx [4, 0, 5, 6, 7, 8, 9, 10, 11, 12, 13, 14] rfl) | exact nsub N4 (by (try dsimp only [List.cons_append, List.nil_append]); kcf_all)
  case turn =>
    rintro i v ⟨cv, nn⟩ u h' tk' I oI hv hcv hne F' N' K KT
    dsimp only [F2m] at KT F' ⊢
    dsimp only [List.cons_append, List.nil_append] at N' hne
    simp only [AllNe, and_true] at hne
    obtain ⟨x, tx, rfl, hx⟩ := IntsAre.at hI5 i v hv
    obtain ⟨hmo1, hmo2⟩ := hmo
    have hmv1 : 2 ≤ mo.length := by omega
    have hmv2 : mo.length ≤ 4 := by omega
    have hcvl : cv.length ≤ 20 := by
      have h1 := IntsAre.length hcv
      have h2 := (pieces_len hmv1 hmv2 (List.take i (List.take 5 (ns ++ [0, 1, 0])))).2
      have h3 : (List.take i (List.take 5 (ns ++ [0, 1, 0]))).length ≤ 5 := by
        rw [List.length_take, List.length_take]; omega
      dsimp only at h1
      omega
    clear F4 N4
    k_steps
    all_goals (rename Fr _ _ _ _ => F9; rename News _ _ _ _ => N9; rename Int.fmod x _ = _ => hx4)
    all_goals (try rename IntsAre _ (List.drop 1 mo) => hz)
    · refine' TurnTo.mk KT (cv ++ mv, nn + 1) F9 N9 rfl ?hp0 ?hm0 ?hc0 ?hs0 ?ho0
      case hc0 => (intro q hq; rw [List.mem_singleton] at hq; subst hq; k_mem)
      case hp0 => exact piece_step hx (by unfold piece; rw [if_pos hx4]) hcv im
      case hm0 => exact svn (l1 := [(Str.ofString "x", _)]) (l2 := []) (l3 := []) rfl rfl rfl
      case hs0 => first | exact fmc (by k_mem) (fun q hq => List.mem_append_right [_, _, _, _, _, _] hq) | exact fmc (by k_mem) (fun q hq => List.mem_append_right [_, _, _, _, _] hq) | exact fmc (by k_mem) (fun q hq => List.mem_append_right [_, _, _, _, _, _, _] hq)
      case ho0 => (simp only [AllNe, and_true]; exact hne.1)
    · refine' TurnTo.mk KT (cv ++ _, nn + 1) F9 N9 rfl ?hp1 ?hm1 ?hc1 ?hs1 ?ho1
      case hc1 => (intro q hq; rw [List.mem_singleton] at hq; subst hq; k_mem)
      case hp1 => exact piece_step hx (by unfold piece; rw [hx4]; try rfl) hcv hz
      case hm1 => exact svn (l1 := [(Str.ofString "x", _)]) (l2 := []) (l3 := []) rfl rfl rfl
      case hs1 => first | exact fmc (by k_mem) (fun q hq => List.mem_append_right [_, _, _, _, _, _] hq) | exact fmc (by k_mem) (fun q hq => List.mem_append_right [_, _, _, _, _] hq) | exact fmc (by k_mem) (fun q hq => List.mem_append_right [_, _, _, _, _, _, _] hq)
      case ho1 => (simp only [AllNe, and_true]; exact hne.1)
    · refine' TurnTo.mk KT (cv ++ [_], nn + 1) F9 N9 rfl ?hp2 ?hm2 ?hc2 ?hs2 ?ho2
      case hc2 => (intro q hq; rw [List.mem_singleton] at hq; subst hq; k_mem)
      case hp2 => exact piece_step hx (by unfold piece; rw [hx4]; try rfl) hcv (by repeat' constructor)
      case hm2 => exact svn (l1 := [(Str.ofString "x", _)]) (l2 := []) (l3 := []) rfl rfl rfl
      case hs2 => first | exact fmc (by k_mem) (fun q hq => List.mem_append_right [_, _, _, _, _, _] hq) | exact fmc (by k_mem) (fun q hq => List.mem_append_right [_, _, _, _, _] hq) | exact fmc (by k_mem) (fun q hq => List.mem_append_right [_, _, _, _, _, _, _] hq)
      case ho2 => (simp only [AllNe, and_true]; exact hne.1)
    · refine' TurnTo.mk KT (cv ++ [_], nn + 1) F9 N9 rfl ?hp3 ?hm3 ?hc3 ?hs3 ?ho3
      case hc3 => (intro q hq; rw [List.mem_singleton] at hq; subst hq; k_mem)
      case hp3 => exact piece_step hx (by unfold piece; rw [hx4]; try rfl) hcv (by repeat' constructor)
      case hm3 => exact svn (l1 := [(Str.ofString "x", _)]) (l2 := []) (l3 := []) rfl rfl rfl
      case hs3 => first | exact fmc (by k_mem) (fun q hq => List.mem_append_right [_, _, _, _, _, _] hq) | exact fmc (by k_mem) (fun q hq => List.mem_append_right [_, _, _, _, _] hq) | exact fmc (by k_mem) (fun q hq => List.mem_append_right [_, _, _, _, _, _, _] hq)
      case ho3 => (simp only [AllNe, and_true]; exact hne.1)
  case done =>
    rintro ⟨cv, nn⟩ u h' tk' hcv F' N'
    dsimp only [F2m] at F' ⊢
    dsimp only [List.cons_append, List.nil_append] at N'
    clear F4 N4
    have hl5 := IntsAre.length hI5
    rw [hl5, List.take_length] at hcv
    k_steps
    rename Fr _ _ _ _ => F8
    rename News _ _ _ _ => N8
    (refine' hkey _ ⟨_, _, _, _, _, _, _, _, _, _, _, _, _, _, _, _, _, _, _, _, _, rfl, F8, N8, ?q0, ?q1, ?q2, ?q3, ?q4, ?q5, ?q6, ?q7, ?q8, ?q9, ?q10, ?f_d1, ?f_d2, ?f_d3, ?f_d4, ?f_d5, ?f_d6, ?f_d7, ?f_hmv, ?f_hcv, ?f_lt0, ?f_lt1⟩; (case q2 => k_mem); (case q3 => k_mem); (case q4 => k_mem); (case q5 => k_mem); (case q6 => k_mem); (case q7 => k_mem); (case q8 => k_mem); (case q9 => k_mem); (case q10 => k_mem); (case f_d1 => assumption); (case f_d2 => assumption); (case f_d3 => assumption); (case f_d4 => assumption); (case f_d5 => assumption); (case f_d6 => assumption); (case f_d7 => assumption); (case q0 => k_mem); (case q1 => k_mem); (case f_hmv => assumption); (case f_hcv => assumption); (case f_lt0 => omega); (case f_lt1 => omega))
end
end Mine

end
section
open PySem PySem.W PyProof.Rows PySem.Calls PySem.Spec
namespace Mine
local macro_rules | `(tactic| walk_at "CompSrc") => `(tactic| (refine hold ?_))
local macro_rules | `(tactic| walk_at "CompSrcT") => `(tactic| (refine hold ?_))
local macro_rules | `(tactic| walk_at "eval ListComp") => `(tactic| (k_here; (fail_if_success lct_look); k_dflt (refine LCg.ListComp_U (F₀ := by k_asm) (by with_unfolding_all rfl) (by decide) (by rfl) (by decide) (by rfl) ?_)))
local macro_rules | `(tactic| walk_at "exec Assign cons ListComp") => `(tactic| (k_here; (fail_if_success lct_look); k_dflt (refine LCg.Assign_ListComp_U (F₀ := by k_asm) (by rfl) (by with_unfolding_all rfl) (by with_unfolding_all rfl) (by decide) (by rfl) (by decide) (by rfl) (by rfl) (by rfl) ?_)))
local macro_rules | `(tactic| walk_at "call builtin:str.join") => `(tactic| (refine hold ?_))
local macro_rules | `(tactic| walk_at "pyIter ref") => `(tactic| (refine hold ?_))
local macro_rules | `(tactic| walk_at "call type:range") => `(tactic| (k_here; (rename Fr _ _ _ _ => F'); (rename News _ _ _ _ => N'); first | (with_unfolding_all refine range1_rows F' N' ?_; intro _ _ _ _ _ _ _ _ _) | (with_unfolding_all refine range2_rows F' N' ?_; intro _ _ _ _ _ _ _ _ _)))
local macro_rules | `(tactic| walk_at "call ref") => `(tactic| (refine hold ?_))
local macro_rules | `(tactic| walk_at "subscriptTail Name Slice str ref") => `(tactic| (k_here; (with_reducible show wpAny _ _ (subscriptTail _ (Expr.Slice none (some _) none _) (Value.str _ _) _) _ _ _); (with_reducible rename Fr _ _ _ _ => F'); (with_reducible rename News _ _ _ _ => N'); (refine slice_strN_nn_len (hsz := ?hsz) (s := ⟨_, _, _, _, _⟩) F' N' ?_); (case hsz => assumption); intro _ _ _ _ _ _))
local macro_rules | `(tactic| walk_at "subscriptTail Name Name ref int") => `(tactic| (k_here; k_dflt (refine item_list_intsR (by is_list) (by assumption) (Int.natCast_nonneg _) (by rw [List.length_map, List.length_range]; exact Int.ofNat_lt.mpr (Nat.lt_succ_self _)) (by omega) ?_); intro _))
section
section
section
end
set_option maxRecDepth 100000 in
set_option maxHeartbeats 8000000 in
theorem seg3 (w : World) {g : Heap} {L f : Addr} {cd : Value} {s s' : Shared} {p : Program} {loose : List Str} {mean : ExcName → Option Value} {mg mb : Str → Option Value} {Q : Flow → Shared → Prop}
    (X : (hd.heap_1 w.params).In g) (T : Top p loose mean mg mb g) (C1 : CodeHd g 85 81) (C2 : CodeHd g 92 88) (hL : @LT.lt Nat _ 88 L ∧ @LT.lt Nat _ 81 L) {Z : Int} {mo cs : List Int}
    (hmid : Mid2 g L Z mo cs s s') (hcs : 5 ≤ cs.length ∧ cs.length ≤ 20) {R : List Stmt}
    (hkey : ∀ s'', Mid3 g L Z mo (cs.take 6) s s'' → wpAny (model PP w) (callerA.deeper (envOfC (Str.ofString "law") lawParts.2 L f cd)) (execs R (envOfC (Str.ofString "law") lawParts.2 L f cd)) Q (fun _ _ => False) s'') :
    wpAny (model PP w) (callerA.deeper (envOfC (Str.ofString "law") lawParts.2 L f cd)) (execs ((lawParts.1.drop 5).take 3 ++ R) (envOfC (Str.ofString "law") lawParts.2 L f cd)) Q (fun _ _ => False) s' := by
  w_top off
  have e : lawParts = (lawParts.1, lawParts.2) := rfl
  conv at e => rhs; whnf
  conv at e => rhs; arg 1; whnf
  conv at e => rhs; arg 2; whnf
  rw [e] at hkey ⊢
  clear e
  dsimp only [List.drop, List.take] at hkey ⊢
  obtain ⟨h1, tk1, m1, news1, o1, o2, o3, o4, o5, o6, o7, lm, mv, lc, cv, nc, t1, t3, v5, v6, v7, hs1, F2, N2, q0, q1, q2, q3, q4, q5, q6, q7, q8, q9, q10, d1, d2, d3, d4, d5, d6, d7, hmv, hcv, lt0, lt1⟩ := hmid
  subst hs1
  have N3 : News g L h1 [(lc, W.listOf cv.toArray nc), (lm, W.listOf mv.toArray 0), (L + 1 + 1 + 1 + 1 + 1 + 1 + 1, o7), (L + 1 + 1 + 1 + 1 + 1 + 1, o6), (L + 1 + 1 + 1 + 1 + 1, o5), (L + 1 + 1 + 1 + 1, o4), (L + 1 + 1 + 1, o3), (L + 1 + 1, o2), (L + 1, o1), (88, tabObj #[]), (81, tabObj #[])] :=
    ncons N2 q0 (ncons N2 q1 (ncons N2 q2 (ncons N2 q3 (ncons N2 q4 (ncons N2 q5 (ncons N2 q6 (ncons N2 q7 (ncons N2 q8 (ncons N2 q9 (ncons N2 q10 (News.nil)))))))))))
  have F3 := F2
  clear F2 N2 q0 q1 q2 q3 q4 q5 q6 q7 q8 q9 q10
  have hcl := IntsAre.length hcv
  k_steps
  rename IntsAre _ (List.take 6 cs) => hw9
  have hwl := IntsAre.length hw9
  have hw6 : (List.take 6 cs).length ≤ 6 := by rw [List.length_take]; omega
  refine Hold.off ?_
  rename Fr _ _ _ _ => F4
  rename News _ _ _ _ => N4
  refine LCg.CompSrc.ledger rfl F4 N4 (by k_mem) (by rw [sizeLine_eq, List.size_toArray]; omega) fun g9 => rest_ints (ks := List.take 6 cs) (fun c => (Z + 8 * c).fmod 16) (by rw [List.size_toArray]; omega) (.inr ⟨_, by k_mem, rfl, _, rfl⟩) (p_list hw9) ?turn ?fin
  case turn =>
    intro k9 t9 I9 oI9 C9 oC9 D9 m9 ys9 h9 tk9 E9 hk9 hC9 hx9 F9 N9
    clear F4 N4
    k_steps
    refine Hold.off ⟨⟨_, rfl⟩, .mk (by assumption) (by assumption)⟩
  case fin =>
    intro ys9 hys9 D9 h9 tk9 F9 N9 O9
    clear F4 N4
    have O9' : LCg.Off1 D9 _ := O9
    simp only [LCg.Off1, and_true] at O9
    k_steps
    rename Fr _ _ _ _ => F8
    rename News _ _ _ _ => N8
    (refine' hkey _ ⟨_, _, _, _, _, _, _, _, _, _, _, _, _, _, _, _, _, _, _, _, _, _, _, rfl, F8, N8, ?n0, ?q0, ?q1, ?q2, ?q3, ?q4, ?q5, ?q6, ?q7, ?q8, ?q9, ?q10, ?q11, ?f_d1, ?f_d2, ?f_d3, ?f_d4, ?f_d5, ?f_d6, ?f_d7, ?f_hmv, ?f_hcv, ?f_hpv, ?f_lt0, ?f_lt1, ?f_lt2⟩; (case n0 => exact rfl); (case q3 => k_mem); (case q4 => k_mem); (case q5 => k_mem); (case q6 => k_mem); (case q7 => k_mem); (case q8 => k_mem); (case q9 => k_mem); (case q10 => k_mem); (case q11 => k_mem); (case f_d1 => assumption); (case f_d2 => assumption); (case f_d3 => assumption); (case f_d4 => assumption); (case f_d5 => assumption); (case f_d6 => assumption); (case f_d7 => assumption); (case q0 => first | k_mem | exact List.mem_cons_self); (case q1 => k_mem); (case q2 => k_mem); (case f_hmv => assumption); (case f_hcv => assumption); (case f_hpv => assumption); (case f_lt0 => (exact Off.cons (by show @Ne Nat _ _; omega) (Off.cons (by show @Ne Nat _ _; omega) (Off.cons (by show @Ne Nat _ _; omega) (Off.cons (by show @Ne Nat _ _; omega) (Off.cons (by show @Ne Nat _ _; omega) (Off.cons (by show @Ne Nat _ _; omega) (Off.cons (by show @Ne Nat _ _; omega) (Off.cons (by show @Ne Nat _ _; omega) (Off.cons (by show @Ne Nat _ _; omega) (Off.nil))))))))))); (case f_lt1 => (exact Off.cons (by show @Ne Nat _ _; omega) (Off.cons (by show @Ne Nat _ _; omega) (Off.cons (by show @Ne Nat _ _; omega) (Off.cons (by show @Ne Nat _ _; omega) (Off.cons (by show @Ne Nat _ _; omega) (Off.cons (by show @Ne Nat _ _; omega) (Off.cons (by show @Ne Nat _ _; omega) (Off.cons (by show @Ne Nat _ _; omega) (Off.cons (by show @Ne Nat _ _; omega) (Off.cons (by show @Ne Nat _ _; omega) (Off.nil)))))))))))); (case f_lt2 => (exact Off.cons (AllNe.mem (off1_all O9') (_, _) (by k_mem)) (Off.cons (AllNe.mem (off1_all O9') (_, _) (by k_mem)) (Off.cons (AllNe.mem (off1_all O9') (_, _) (by k_mem)) (Off.cons (AllNe.mem (off1_all O9') (_, _) (by k_mem)) (Off.cons (AllNe.mem (off1_all O9') (_, _) (by k_mem)) (Off.cons (AllNe.mem (off1_all O9') (_, _) (by k_mem)) (Off.cons (AllNe.mem (off1_all O9') (_, _) (by k_mem)) (Off.cons (AllNe.mem (off1_all O9') (_, _) (by k_mem)) (Off.cons (AllNe.mem (off1_all O9') (_, _) (by k_mem)) (Off.cons (AllNe.mem (off1_all O9') (_, _) (by k_mem)) (Off.cons (AllNe.mem (off1_all O9') (_, _) (by k_mem)) (Off.nil))))))))))))))
set_option maxRecDepth 100000 in
set_option maxHeartbeats 8000000 in
theorem seg4 (w : World) {g : Heap} {L f : Addr} {cd : Value} {s s' : Shared} {p : Program} {loose : List Str} {mean : ExcName → Option Value} {mg mb : Str → Option Value} {Q : Flow → Shared → Prop}
    (X : (hd.heap_1 w.params).In g) (T : Top p loose mean mg mb g) (C1 : CodeHd g 85 81) (C2 : CodeHd g 92 88) (hL : @LT.lt Nat _ 88 L ∧ @LT.lt Nat _ 81 L) {Z : Int} {mo cs : List Int}
    (hmid : Mid3 g L Z mo cs s s') (hcs : 5 ≤ cs.length ∧ cs.length ≤ 6) (hmo : 2 ≤ mo.length ∧ mo.length ≤ 4) {R : List Stmt}
    (hkey : ∀ s'', Mid4 g L Z mo cs s s'' → wpAny (model PP w) (callerA.deeper (envOfC (Str.ofString "law") lawParts.2 L f cd)) (execs R (envOfC (Str.ofString "law") lawParts.2 L f cd)) Q (fun _ _ => False) s'') :
    wpAny (model PP w) (callerA.deeper (envOfC (Str.ofString "law") lawParts.2 L f cd)) (execs ((lawParts.1.drop 8).take 1 ++ R) (envOfC (Str.ofString "law") lawParts.2 L f cd)) Q (fun _ _ => False) s' := by
  w_top off
  have e : lawParts = (lawParts.1, lawParts.2) := rfl
  conv at e => rhs; whnf
  conv at e => rhs; arg 1; whnf
  conv at e => rhs; arg 2; whnf
  rw [e] at hkey ⊢
  clear e
  dsimp only [List.drop, List.take] at hkey ⊢
  obtain ⟨h1, tk1, m1, news1, o1, o2, o3, o4, o5, o6, o7, lm, mv, lc, cv, nc, lp, pv, t1, t3, t8, v6, v7, hs1, F2, N2, hn0, q0, q1, q2, q3, q4, q5, q6, q7, q8, q9, q10, q11, d1, d2, d3, d4, d5, d6, d7, hmv, hcv, hpv, lt0, lt1, lt2⟩ := hmid
  subst hs1
  have N3 : News g L h1 [(lp, W.listOf pv.toArray pv.length), (lc, W.listOf cv.toArray nc), (lm, W.listOf mv.toArray 0), (L + 1 + 1 + 1 + 1 + 1 + 1 + 1, o7), (L + 1 + 1 + 1 + 1 + 1 + 1, o6), (L + 1 + 1 + 1 + 1 + 1, o5), (L + 1 + 1 + 1 + 1, o4), (L + 1 + 1 + 1, o3), (L + 1 + 1, o2), (L + 1, o1), (88, tabObj #[]), (81, tabObj #[])] :=
    ncons N2 q0 (ncons N2 q1 (ncons N2 q2 (ncons N2 q3 (ncons N2 q4 (ncons N2 q5 (ncons N2 q6 (ncons N2 q7 (ncons N2 q8 (ncons N2 q9 (ncons N2 q10 (ncons N2 q11 (News.nil))))))))))))
  have F3 := Fr.overAll F2 [((Str.ofString "size"), _)] (by
    refine fmc hn0 ?_
    exact fun _ h => absurd h List.not_mem_nil)
  dsimp only [ovs] at F3
  clear F2 N2 hn0 q0 q1 q2 q3 q4 q5 q6 q7 q8 q9 q10 q11
  have hcl := IntsAre.length hcv
  have hml := IntsAre.length hmv
  k_steps
  refine Hold.off ?_
  rename Fr _ _ _ _ => F4
  rename News _ _ _ _ => N4
  refine LCg.CompSrc.ledger rfl F4 N4 (by k_mem) (by rw [sizeLine_eq, List.size_toArray]; omega) fun g9 => rest_strs (ks := mo) (fun c => Cs [loC Z c]) (by rw [List.size_toArray]; omega) (.inr ⟨_, by k_mem, rfl, _, rfl⟩) (p_list hmv) ?turn ?fin
  case turn =>
    intro k9 t9 I9 oI9 C9 oC9 D9 m9 ys9 h9 tk9 E9 hk9 hC9 hx9 F9 N9
    clear F4 N4
    k_steps
    refine Hold.off ⟨⟨_, rfl⟩, .mk (by assumption) (by assumption)⟩
  case fin =>
    intro ys9 hys9 D9 h9 tk9 F9 N9 O9
    clear F4 N4
    k_steps
    rename News _ _ _ _ => N7
    refine Hold.off (join_listW (IsList.of_lst N7 (by k_mem)) hys9 (by decide +kernel) (join_w _ _ (by omega)) fun t' k' => ?_)
    rw [join_map]
    dsimp only
    k_steps
    rename Fr _ _ _ _ => F8
    rename News _ _ _ _ => N8
    (refine' hkey _ ⟨_, _, _, _, _, _, _, _, _, _, _, _, _, _, _, _, _, _, _, _, _, _, _, _, rfl, F8, N8, ?n0, ?n1, ?q0, ?q1, ?q2, ?q3, ?q4, ?q5, ?q6, ?q7, ?q8, ?q9, ?q10, ?q11, ?f_d1, ?f_d2, ?f_d3, ?f_d4, ?f_d5, ?f_d6, ?f_d7, ?f_hmv, ?f_hcv, ?f_hpv, ?f_lt0, ?f_lt1, ?f_lt2⟩; (case n0 => exact rfl); (case n1 => exact rfl); (case q3 => k_mem); (case q4 => k_mem); (case q5 => k_mem); (case q6 => k_mem); (case q7 => k_mem); (case q8 => k_mem); (case q9 => k_mem); (case q10 => k_mem); (case q11 => k_mem); (case f_d1 => assumption); (case f_d2 => assumption); (case f_d3 => assumption); (case f_d4 => assumption); (case f_d5 => assumption); (case f_d6 => assumption); (case f_d7 => assumption); (case q0 => k_mem); (case q1 => k_mem); (case q2 => k_mem); (case f_hmv => assumption); (case f_hcv => assumption); (case f_hpv => assumption); (case f_lt0 => assumption); (case f_lt1 => assumption); (case f_lt2 => assumption))
end

end
section
section
local macro_rules | `(tactic| walk_at "call ref") => `(tactic| (k_here; k_dflt (refine' Ctr.useS (c_sign _ _ _ _ (by omega) (by omega)) (by k_asm) (by k_asm) (by k_asm) (by k_asm) rfl (by k_room) (Nat.le_of_ble_eq_true rfl) trivial ?_; k_whole; intro t' h' tk' F' N')))
set_option maxRecDepth 100000 in
set_option maxHeartbeats 8000000 in
theorem segT5 (w : World) {g : Heap} {L f : Addr} {cd : Value} {s s' : Shared} {p : Program} {loose : List Str} {mean : ExcName → Option Value} {mg mb : Str → Option Value} {Q : Flow → Shared → Prop}
    (X : (hd.heap_1 w.params).In g) (T : Top p loose mean mg mb g) (C1 : CodeHd g 85 81) (C2 : CodeHd g 92 88) (hL : @LT.lt Nat _ 88 L ∧ @LT.lt Nat _ 81 L) {Z : Int} {mo cs : List Int}
    (hmid : Mid4 g L Z mo cs s s') (hcs : 5 ≤ cs.length ∧ cs.length ≤ 6) (hmo : 2 ≤ mo.length ∧ mo.length ≤ 4) {R : List Stmt}
    (hkey : ∀ s'', Mid5 g L Z mo cs s s'' → wpAny (model PP w) (callerA.deeper (envOfC (Str.ofString "law") lawParts.2 L f cd)) (execs R (envOfC (Str.ofString "law") lawParts.2 L f cd)) Q (fun _ _ => False) s'') :
    wpAny (model PP w) (callerA.deeper (envOfC (Str.ofString "law") lawParts.2 L f cd)) (execs ((lawParts.1.drop 9).take 1 ++ R) (envOfC (Str.ofString "law") lawParts.2 L f cd)) Q (fun _ _ => False) s' := by
  w_top off
  have e : lawParts = (lawParts.1, lawParts.2) := rfl
  conv at e => rhs; whnf
  conv at e => rhs; arg 1; whnf
  conv at e => rhs; arg 2; whnf
  rw [e] at hkey ⊢
  clear e
  dsimp only [List.drop, List.take] at hkey ⊢
  obtain ⟨h1, tk1, m1, news1, o1, o2, o3, o4, o5, o6, o7, lm, mv, lc, cv, nc, lp, pv, t1, t3, t8, v6, v7, tw, hs1, F2, N2, hn0, hn1, q0, q1, q2, q3, q4, q5, q6, q7, q8, q9, q10, q11, d1, d2, d3, d4, d5, d6, d7, hmv, hcv, hpv, lt0, lt1, lt2⟩ := hmid
  subst hs1
  have N3 : News g L h1 [(lp, W.listOf pv.toArray pv.length), (lc, W.listOf cv.toArray nc), (lm, W.listOf mv.toArray 0), (L + 1 + 1 + 1 + 1 + 1 + 1 + 1, o7), (L + 1 + 1 + 1 + 1 + 1 + 1, o6), (L + 1 + 1 + 1 + 1 + 1, o5), (L + 1 + 1 + 1 + 1, o4), (L + 1 + 1 + 1, o3), (L + 1 + 1, o2), (L + 1, o1), (88, tabObj #[]), (81, tabObj #[])] :=
    ncons N2 q0 (ncons N2 q1 (ncons N2 q2 (ncons N2 q3 (ncons N2 q4 (ncons N2 q5 (ncons N2 q6 (ncons N2 q7 (ncons N2 q8 (ncons N2 q9 (ncons N2 q10 (ncons N2 q11 (News.nil))))))))))))
  have F3 := Fr.overAll F2 [((Str.ofString "word"), _), ((Str.ofString "size"), _)] (by
    refine fmc hn0 ?_
    refine fmc hn1 ?_
    exact fun _ h => absurd h List.not_mem_nil)
  dsimp only [ovs] at F3
  clear F2 N2 hn0 hn1 q0 q1 q2 q3 q4 q5 q6 q7 q8 q9 q10 q11
  have hcl := IntsAre.length hcv
  have hml := IntsAre.length hmv
  k_steps
  refine Hold.off ?_
  rename Fr _ _ _ _ => F4
  rename News _ _ _ _ => N4
  rename IsRange _ _ _ _ _ _ _ _ => rg
  refine LCg.CompSrc.range rfl F4 N4 rg (small_one (by omega) (by omega) (by omega) (by omega)) (n := cs.length) (by rw [rangeSize_nat]; omega) (by rw [sizeLine_eq]; omega) fun g9 => rest_strs (ks := rangeKs 0 cs.length) (fun k => Cs [sgC Z (cs.getD k.toNat 0) false]) (rangeKs_length _ _) trivial (p_range 0 cs.length) ?turn ?fin
  case turn =>
    intro k9 t9 I9 oI9 C9 oC9 D9 m9 ys9 h9 tk9 E9 hk9 hC9 hx9 F9 N9
    obtain ⟨hk0, hk1⟩ := mem_rangeKs hk9
    clear F4 N4
    have hq := parts_bnd Z cs k9.toNat
    have hf1 := fmod_lo k9 (n := 3) (by decide)
    have hf2 := fmod_hi k9 (n := 3) (by decide)
    k_steps
    refine Hold.off ⟨⟨_, congrArg (fun x => Value.str x _) (sign_at Z cs (j := k9.toNat) (by omega) _ false)⟩, .mk (by assumption) (by assumption)⟩
  case fin =>
    intro ys9 hys9 D9 h9 tk9 F9 N9 O9
    clear F4 N4
    rw [range_at cs (fun c => Cs [sgC Z c false])] at hys9
    k_steps
    rename Fr _ _ _ _ => F8
    rename News _ _ _ _ => N8
    (refine' hkey _ ⟨_, _, _, _, _, _, _, _, _, _, _, _, _, _, _, _, _, _, _, _, _, _, _, _, _, _, _, rfl, F8, N8, ?n0, ?n1, ?n2, ?q0, ?q1, ?q2, ?q3, ?q4, ?q5, ?q6, ?q7, ?q8, ?q9, ?q10, ?q11, ?q12, ?f_d1, ?f_d2, ?f_d3, ?f_d4, ?f_d5, ?f_d6, ?f_d7, ?f_hmv, ?f_hcv, ?f_hpv, ?f_lt0, ?f_lt1, ?f_lt2, ?f_hsv, ?f_ltS⟩; (case n0 => exact rfl); (case n1 => exact rfl); (case n2 => exact rfl); (case q4 => k_mem); (case q5 => k_mem); (case q6 => k_mem); (case q7 => k_mem); (case q8 => k_mem); (case q9 => k_mem); (case q10 => k_mem); (case q11 => k_mem); (case q12 => k_mem); (case f_d1 => assumption); (case f_d2 => assumption); (case f_d3 => assumption); (case f_d4 => assumption); (case f_d5 => assumption); (case f_d6 => assumption); (case f_d7 => assumption); (case q0 => k_mem); (case q1 => k_mem); (case q2 => k_mem); (case q3 => k_mem); (case f_hmv => assumption); (case f_hcv => assumption); (case f_hpv => assumption); (case f_lt0 => assumption); (case f_lt1 => assumption); (case f_lt2 => assumption); (case f_hsv => assumption); (case f_ltS => (exact Off.cons (AllNe.mem (off1_all O9) (_, _) (by k_mem)) (Off.cons (AllNe.mem (off1_all O9) (_, _) (by k_mem)) (Off.cons (AllNe.mem (off1_all O9) (_, _) (by k_mem)) (Off.cons (AllNe.mem (off1_all O9) (_, _) (by k_mem)) (Off.cons (AllNe.mem (off1_all O9) (_, _) (by k_mem)) (Off.cons (AllNe.mem (off1_all O9) (_, _) (by k_mem)) (Off.cons (AllNe.mem (off1_all O9) (_, _) (by k_mem)) (Off.cons (AllNe.mem (off1_all O9) (_, _) (by k_mem)) (Off.cons (AllNe.mem (off1_all O9) (_, _) (by k_mem)) (Off.cons (AllNe.mem (off1_all O9) (_, _) (by k_mem)) (Off.cons (AllNe.mem (off1_all O9) (_, _) (by k_mem)) (Off.cons (AllNe.mem (off1_all O9) (_, _) (by k_mem)) (Off.nil)))))))))))))))
end

end
section
section
set_option maxRecDepth 100000 in
set_option maxHeartbeats 8000000 in
theorem segT6 (w : World) {g : Heap} {L f : Addr} {cd : Value} {s s' : Shared} {p : Program} {loose : List Str} {mean : ExcName → Option Value} {mg mb : Str → Option Value} {Q : Flow → Shared → Prop}
    (X : (hd.heap_1 w.params).In g) (T : Top p loose mean mg mb g) (C1 : CodeHd g 85 81) (C2 : CodeHd g 92 88) (hL : @LT.lt Nat _ 88 L ∧ @LT.lt Nat _ 81 L) {Z : Int} {mo cs : List Int}
    (hmid : Mid5 g L Z mo cs s s') (hcs : 5 ≤ cs.length ∧ cs.length ≤ 6) (hmo : 2 ≤ mo.length ∧ mo.length ≤ 4) {R : List Stmt}
    (hkey : ∀ s'', Mid7 g L Z mo cs [] [] s s'' → wpAny (model PP w) (callerA.deeper (envOfC (Str.ofString "law") lawParts.2 L f cd)) (execs R (envOfC (Str.ofString "law") lawParts.2 L f cd)) Q (fun _ _ => False) s'') :
    wpAny (model PP w) (callerA.deeper (envOfC (Str.ofString "law") lawParts.2 L f cd)) (execs ((lawParts.1.drop 10).take 4 ++ R) (envOfC (Str.ofString "law") lawParts.2 L f cd)) Q (fun _ _ => False) s' := by
  w_top off
  have e : lawParts = (lawParts.1, lawParts.2) := rfl
  conv at e => rhs; whnf
  conv at e => rhs; arg 1; whnf
  conv at e => rhs; arg 2; whnf
  rw [e] at hkey ⊢
  clear e
  dsimp only [List.drop, List.take] at hkey ⊢
  obtain ⟨h1, tk1, m1, news1, o1, o2, o3, o4, o5, o6, o7, lm, mv, lc, cv, nc, lp, pv, t1, t3, t8, v6, v7, tw, ls, sv, ns, hs1, F2, N2, hn0, hn1, hn2, q0, q1, q2, q3, q4, q5, q6, q7, q8, q9, q10, q11, q12, d1, d2, d3, d4, d5, d6, d7, hmv, hcv, hpv, lt0, lt1, lt2, hsv, ltS⟩ := hmid
  subst hs1
  have N3 : News g L h1 [(ls, W.listOf sv.toArray ns), (lp, W.listOf pv.toArray pv.length), (lc, W.listOf cv.toArray nc), (lm, W.listOf mv.toArray 0), (L + 1 + 1 + 1 + 1 + 1 + 1 + 1, o7), (L + 1 + 1 + 1 + 1 + 1 + 1, o6), (L + 1 + 1 + 1 + 1 + 1, o5), (L + 1 + 1 + 1 + 1, o4), (L + 1 + 1 + 1, o3), (L + 1 + 1, o2), (L + 1, o1), (88, tabObj #[]), (81, tabObj #[])] :=
    ncons N2 q0 (ncons N2 q1 (ncons N2 q2 (ncons N2 q3 (ncons N2 q4 (ncons N2 q5 (ncons N2 q6 (ncons N2 q7 (ncons N2 q8 (ncons N2 q9 (ncons N2 q10 (ncons N2 q11 (ncons N2 q12 (News.nil)))))))))))))
  have F3 := Fr.overAll F2 [((Str.ofString "signs"), _), ((Str.ofString "word"), _), ((Str.ofString "size"), _)] (by
    refine fmc hn0 ?_
    refine fmc hn1 ?_
    refine fmc hn2 ?_
    exact fun _ h => absurd h List.not_mem_nil)
  dsimp only [ovs] at F3
  clear F2 N2 hn0 hn1 hn2 q0 q1 q2 q3 q4 q5 q6 q7 q8 q9 q10 q11 q12
  have hcl := IntsAre.length hcv
  have hml := IntsAre.length hmv
  have hpl := IntsAre.length hpv
  have hps : (partsOf Z cs).length = cs.length := List.length_map _
  k_steps
  rename News _ _ _ _ => N7
  refine Hold.off (join_listW (IsList.of_ledger N7 (by k_mem)) hsv (by decide +kernel) (join_w _ _ (by omega)) fun t' k' => ?_)
  rw [join_map]
  dsimp only
  k_steps
  refine Hold.off ?_
  rename Fr _ _ _ _ => F4
  rename News _ _ _ _ => N4
  refine LCg.CompSrc.ledger rfl F4 N4 (by k_mem) (by rw [sizeLine_eq, List.size_toArray]; omega) fun g9 => rest_strs (ks := partsOf Z cs) (fun c => Cs [(97 + c).toNat]) (by rw [List.size_toArray]; omega) (.inr ⟨_, by k_mem, rfl, _, rfl⟩) (p_list hpv) ?turn ?fin
  case turn =>
    intro k9 t9 I9 oI9 C9 oC9 D9 m9 ys9 h9 tk9 E9 hk9 hC9 hx9 F9 N9
    obtain ⟨hk0, hk1⟩ := parts_mem hk9
    clear F4 N4
    k_steps
    refine Hold.off ⟨⟨_, rfl⟩, .mk (by assumption) (by assumption)⟩
  case fin =>
    intro ys9 hys9 D9 h9 tk9 F9 N9 O9
    clear F4 N4
    have hys8 : StrsAre ys9 (cs.map fun c => Cs [loC Z c]) := by
      rw [List.map_map] at hys9; exact hys9
    clear hys9
    have heq : (Cs (cs.map (loC Z)) == Cs (cs.map (loC Z))) = true := beq_self_eq_true _
    k_steps
    rename News _ _ _ _ => N8
    refine Hold.off (join_listW (IsList.of_lst N8 (by k_mem)) hys8 (by decide +kernel) (join_w _ _ (by omega)) fun t' k' => ?_)
    rw [join_map]
    dsimp only
    k_steps
    · exfalso
      rename (_ != _) = true => hb9
      simp at hb9
    rename Fr _ _ _ _ => F8
    rename News _ _ _ _ => N8
    (refine' hkey _ ⟨_, _, _, _, _, _, _, _, _, _, _, _, _, _, _, _, _, _, _, _, _, _, _, _, _, _, _, _, _, [], _, _, [], _, rfl, F8, N8, ?n0, ?n1, ?n2, ?n3, ?n4, ?n5, ?q0, ?q1, ?q2, ?q3, ?q4, ?q5, ?q6, ?q7, ?q8, ?q9, ?q10, ?q11, ?q12, ?q13, ?q14, ?f_d1, ?f_d2, ?f_d3, ?f_d4, ?f_d5, ?f_d6, ?f_d7, ?f_hmv, ?f_hcv, ?f_hpv, ?f_lt0, ?f_lt1, ?f_lt2, ?f_hsv, ?f_ltS, ?f_hfv, ?f_hstv, ?f_ltF, ?f_ltT⟩; (case n0 => exact rfl); (case n1 => exact rfl); (case n2 => exact rfl); (case n3 => exact rfl); (case n4 => exact rfl); (case n5 => exact rfl); (case q6 => k_mem); (case q7 => k_mem); (case q8 => k_mem); (case q9 => k_mem); (case q10 => k_mem); (case q11 => k_mem); (case q12 => k_mem); (case q13 => k_mem); (case q14 => k_mem); (case f_d1 => assumption); (case f_d2 => assumption); (case f_d3 => assumption); (case f_d4 => assumption); (case f_d5 => assumption); (case f_d6 => assumption); (case f_d7 => assumption); (case q0 => k_mem); (case q1 => k_mem); (case q2 => k_mem); (case q3 => k_mem); (case q4 => k_mem); (case q5 => k_mem); (case f_hmv => assumption); (case f_hcv => assumption); (case f_hpv => assumption); (case f_lt0 => assumption); (case f_lt1 => assumption); (case f_lt2 => assumption); (case f_hsv => assumption); (case f_ltS => assumption); (case f_hfv => exact .nil); (case f_hstv => exact .nil); (case f_ltF => (exact Off.cons (by show @Ne Nat _ _; omega) (Off.cons (by show @Ne Nat _ _; omega) (Off.cons (by show @Ne Nat _ _; omega) (Off.cons (by show @Ne Nat _ _; omega) (Off.cons (by show @Ne Nat _ _; omega) (Off.cons (by show @Ne Nat _ _; omega) (Off.cons (by show @Ne Nat _ _; omega) (Off.cons (by show @Ne Nat _ _; omega) (Off.cons (by show @Ne Nat _ _; omega) (Off.cons (by show @Ne Nat _ _; omega) (Off.cons (by show @Ne Nat _ _; omega) (Off.cons (by show @Ne Nat _ _; omega) (Off.cons (by show @Ne Nat _ _; omega) (Off.nil))))))))))))))); (case f_ltT => (exact Off.cons (by show @Ne Nat _ _; omega) (Off.cons (by show @Ne Nat _ _; omega) (Off.cons (by show @Ne Nat _ _; omega) (Off.cons (by show @Ne Nat _ _; omega) (Off.cons (by show @Ne Nat _ _; omega) (Off.cons (by show @Ne Nat _ _; omega) (Off.cons (by show @Ne Nat _ _; omega) (Off.cons (by show @Ne Nat _ _; omega) (Off.cons (by show @Ne Nat _ _; omega) (Off.cons (by show @Ne Nat _ _; omega) (Off.cons (by show @Ne Nat _ _; omega) (Off.cons (by show @Ne Nat _ _; omega) (Off.cons (by show @Ne Nat _ _; omega) (Off.cons (by show @Ne Nat _ _; omega) (Off.nil)))))))))))))))))
end

end
section
/-- the body of the inner loop, read off the row -/
def innerBody : List Stmt := match lawParts.1.drop 14 with
  | .For _ _ body _ _ :: _ => (match body.getLast? with
    | some (.For _ _ b2 _ _) => b2
    | _ => [])
  | _ => []
section
set_option maxRecDepth 100000 in
set_option maxHeartbeats 8000000 in
/-- the last statement of the inner loop's body, once for all ways to it -/
theorem iturn7e (w : World) {g : Heap} {L f : Addr} {cd : Value} {s : Shared} {p : Program} {loose : List Str} {mean : ExcName → Option Value} {mg mb : Str → Option Value} {Q : Flow → Shared → Prop}
    (X : (hd.heap_1 w.params).In g) (T : Top p loose mean mg mb g) {Z : Int} {mo cs : List Int} {i j : Nat} {ti tj tw tx : Tok} {spv fv2 cv mv : List Value} {nf nc : Nat}
    {J D8 D9 I lf ls lp lc lm : Addr} {oJ oc b8 oI bs bp o7 o5 o4 o3 o2 o1 b88 b81 : Obj}
    (dc : oc.data = .cell (some (.int (1 + (j : Int)) tj)))
    (hcs : cs.length ≤ 6) (hmo : 2 ≤ mo.length ∧ mo.length ≤ 4) (hj : j < 5)
    (h : Heap) (tk : Nat) (m : Str → Option Value) (pb : Bool) (F : Fr g L h m) (hn0 : m (Str.ofString "word") = some (.str (textOf Z mo) tw)) (hn1 : m (Str.ofString "text") = some (.str (textOf Z cs) tx)) (hn2 : m (Str.ofString "end") = some (.int (i : Int) ti)) (hn3 : m (Str.ofString "pinned") = some (.bool pb))
    (N : News g L h [(J, oJ), (L + 1 + 1 + 1 + 1 + 1 + 1, oc), (D8, b8), (D9, LCg.lst spv), (I, oI), (lf, W.listOf fv2.toArray nf), (ls, bs), (lp, bp), (lc, W.listOf cv.toArray nc), (lm, W.listOf mv.toArray 0), (L + 1 + 1 + 1 + 1 + 1 + 1 + 1, o7), (L + 1 + 1 + 1 + 1 + 1, o5), (L + 1 + 1 + 1 + 1, o4), (L + 1 + 1 + 1, o3), (L + 1 + 1, o2), (L + 1, o1), (88, b88), (81, b81)])
    (em2 : EmIs w (Txt.join (Str.ofString "...") (List.replicate (1 + j) (textOf Z mo))) (Txt.slice (textOf Z cs) none (some (i : Int))) pb)
    (hkey : ∀ h' tk' m', Fr g L h' m' → (∀ z, m' z = m z) → News g L h' [(J, oJ), (L + 1 + 1 + 1 + 1 + 1 + 1, oc), (D8, b8), (D9, LCg.lst spv), (I, oI), (lf, W.listOf fv2.toArray nf), (ls, bs), (lp, bp), (lc, W.listOf cv.toArray nc), (lm, W.listOf mv.toArray 0), (L + 1 + 1 + 1 + 1 + 1 + 1 + 1, o7), (L + 1 + 1 + 1 + 1 + 1, o5), (L + 1 + 1 + 1 + 1, o4), (L + 1 + 1 + 1, o3), (L + 1 + 1, o2), (L + 1, o1), (88, b88), (81, b81)] → Q .next { s with heap := h', toks := tk' }) :
    wpAny (model PP w) (callerA.deeper (envOfC (Str.ofString "law") lawParts.2 L f cd)) (execs (innerBody.drop 4) (envOfC (Str.ofString "law") lawParts.2 L f cd)) Q (fun _ _ => False) { s with heap := h, toks := tk } := by
  w_top off
  have e : lawParts = (lawParts.1, lawParts.2) := rfl
  conv at e => rhs; whnf
  conv at e => rhs; arg 1; whnf
  conv at e => rhs; arg 2; whnf
  have e2 : innerBody = innerBody := rfl
  conv at e2 => rhs; whnf
  rw [e2, e]
  clear e e2
  dsimp only [List.drop]
  have hall : ∀ q ∈ [((Str.ofString "word"), (.str (textOf Z mo) tw : Value)), ((Str.ofString "text"), (.str (textOf Z cs) tx : Value)), ((Str.ofString "end"), (.int (i : Int) ti : Value)), ((Str.ofString "pinned"), (.bool pb : Value))], m q.1 = some q.2 :=
    fmc hn0 (fmc hn1 (fmc hn2 (fmc hn3 (fun _ h => absurd h List.not_mem_nil))))
  have F3 := Fr.overAll F [((Str.ofString "word"), _), ((Str.ofString "text"), _), ((Str.ofString "end"), _), ((Str.ofString "pinned"), _)] hall
  dsimp only [ovs] at F3
  clear F
  have hts : (textOf Z cs).length ≤ PySem.sizeLine := by rw [Cs_len, List.length_map, sizeLine_eq]; omega
  have hw10 : (textOf Z mo).length ≤ 10 := by rw [Cs_len, List.length_map]; omega
  k_steps
  rename CarriedAll _ _ => hca9; rename Heap.IsList _ _ (Array.mk (List.flatten _)) => hil9
  refine Hold.off (KT.join_B 10 (l := List.replicate (1 + j) ()) (g := fun _ => textOf Z mo) hil9 (carried_rep (by omega) hca9) (fun _ _ => hw10) (by rw [List.length_replicate]; omega) (by rw [len_dots]; decide) fun t' k' => ?_)
  rw [join_rep]; dsimp only
  k_steps
  refine Hold.off ?_
  rename Fr _ _ _ _ => Fo
  rename News _ _ _ _ => No
  refine' Ctr.useB (c_fits w _ _ _ _ _ em2) ?uF ?uN ?uX ?uT ?uh ?ud ?uu ?uP ?_
  case uF => k_asm
  case uN => k_asm
  case uX => k_asm
  case uT => k_asm
  case uh => rfl
  case ud => k_room
  case uu => exact Nat.le_of_ble_eq_true rfl
  case uP => trivial
  k_whole
  intro hl3 tkl3 Fl3 Nl3
  clear Fo No
  try dsimp only
  k_steps
  · exfalso
    rename (_ != _) = true => hb9
    rw [bne_self_eq_false] at hb9
    cases hb9
  · rename Fr _ _ _ _ => F8
    rename News _ _ _ _ => N8
    refine hkey _ _ _ F8 (fun z => ovs_eq hall z) (fun q hq => N8 q ?_)
    first | exact hq | exact .tail _ hq | exact .tail _ (.tail _ hq)
set_option maxRecDepth 100000 in
set_option maxHeartbeats 8000000 in
theorem iturn7d (w : World) {g : Heap} {L f : Addr} {cd : Value} {s : Shared} {p : Program} {loose : List Str} {mean : ExcName → Option Value} {mg mb : Str → Option Value} {Fw : Nat → Nat} {Q : Flow → Shared → Prop}
    (X : (hd.heap_1 w.params).In g) (T : Top p loose mean mg mb g) {Z : Int} {mo cs : List Int} {i j : Nat} {ti tj tw tx : Tok} {spv fv2 cv mv : List Value} {nf nc : Nat}
    {J D8 D9 I lf ls lp lc lm : Addr} {oJ oc b8 oI bs bp o7 o5 o4 o3 o2 o1 b88 b81 : Obj}
    (hcv : IntsAre cv cs) (hmv : IntsAre mv mo) (d4 : o4.data = .cell (some (.ref lc))) (d2 : o2.data = .cell (some (.ref lm))) (dc : oc.data = .cell (some (.int (1 + (j : Int)) tj)))
    (hi : i ≤ cs.length) (hcs : cs.length ≤ 6) (hmo : 2 ≤ mo.length ∧ mo.length ≤ 4) (hj : j < 5)
    (h : Heap) (tk : Nat) (m : Str → Option Value) (pb : Bool) (F : Fr g L h m) (hn0 : m (Str.ofString "word") = some (.str (textOf Z mo) tw)) (hn1 : m (Str.ofString "text") = some (.str (textOf Z cs) tx)) (hn2 : m (Str.ofString "end") = some (.int (i : Int) ti)) (hn3 : m (Str.ofString "pinned") = some (.bool pb))
    (N : News g L h [(J, oJ), (L + 1 + 1 + 1 + 1 + 1 + 1, oc), (D8, b8), (D9, LCg.lst spv), (I, oI), (lf, W.listOf fv2.toArray nf), (ls, bs), (lp, bp), (lc, W.listOf cv.toArray nc), (lm, W.listOf mv.toArray 0), (L + 1 + 1 + 1 + 1 + 1 + 1 + 1, o7), (L + 1 + 1 + 1 + 1 + 1, o5), (L + 1 + 1 + 1 + 1, o4), (L + 1 + 1 + 1, o3), (L + 1 + 1, o2), (L + 1, o1), (88, b88), (81, b81)])
    (em2 : EmIs w (Txt.join (Str.ofString "...") (List.replicate (1 + j) (textOf Z mo))) (Txt.slice (textOf Z cs) none (some (i : Int))) (pinR mo cs Fw i (1 + j))) (hpb : 1 + (j : Int) ≠ 1 → pinR mo cs Fw i (1 + j) = pb)
    (hkey : ∀ h' tk' m', Fr g L h' m' → (∀ z, z ≠ Str.ofString "pinned" → m' z = m z) → News g L h' [(J, oJ), (L + 1 + 1 + 1 + 1 + 1 + 1, oc), (D8, b8), (D9, LCg.lst spv), (I, oI), (lf, W.listOf fv2.toArray nf), (ls, bs), (lp, bp), (lc, W.listOf cv.toArray nc), (lm, W.listOf mv.toArray 0), (L + 1 + 1 + 1 + 1 + 1 + 1 + 1, o7), (L + 1 + 1 + 1 + 1 + 1, o5), (L + 1 + 1 + 1 + 1, o4), (L + 1 + 1 + 1, o3), (L + 1 + 1, o2), (L + 1, o1), (88, b88), (81, b81)] → Q .next { s with heap := h', toks := tk' }) :
    wpAny (model PP w) (callerA.deeper (envOfC (Str.ofString "law") lawParts.2 L f cd)) (execs (innerBody.drop 3) (envOfC (Str.ofString "law") lawParts.2 L f cd)) Q (fun _ _ => False) { s with heap := h, toks := tk } := by
  w_top off
  have hlast := iturn7e (L := L) (f := f) (cd := cd) (s := s) (Q := Q) (Z := Z) (mo := mo) (cs := cs) (i := i) (ti := ti) (tw := tw) (tx := tx) (J := J) (D8 := D8) (D9 := D9) (I := I) (lf := lf) (ls := ls) (lp := lp) (lc := lc) (lm := lm) (oJ := oJ) (b8 := b8) (oI := oI) (bs := bs) (bp := bp) (o7 := o7) (o5 := o5) (o4 := o4) (o3 := o3) (o2 := o2) (o1 := o1) (b88 := b88) (b81 := b81) (spv := spv) (fv2 := fv2) (cv := cv) (mv := mv) (nf := nf) (nc := nc) w X T dc hcs hmo hj
  have e : lawParts = (lawParts.1, lawParts.2) := rfl
  conv at e => rhs; whnf
  conv at e => rhs; arg 1; whnf
  conv at e => rhs; arg 2; whnf
  have e2 : innerBody = innerBody := rfl
  conv at e2 => rhs; whnf
  rw [e2, e] at hlast ⊢
  clear e e2
  dsimp only [List.drop] at hlast ⊢
  refine execs_cut 1 ?_
  intro R2 hR2
  dsimp only [List.take, List.drop] at hR2 ⊢
  have hall : ∀ q ∈ [((Str.ofString "word"), (.str (textOf Z mo) tw : Value)), ((Str.ofString "text"), (.str (textOf Z cs) tx : Value)), ((Str.ofString "end"), (.int (i : Int) ti : Value)), ((Str.ofString "pinned"), (.bool pb : Value))], m q.1 = some q.2 :=
    fmc hn0 (fmc hn1 (fmc hn2 (fmc hn3 (fun _ h => absurd h List.not_mem_nil))))
  have F3 := Fr.overAll F [((Str.ofString "word"), _), ((Str.ofString "text"), _), ((Str.ofString "end"), _), ((Str.ofString "pinned"), _)] hall
  dsimp only [ovs] at F3
  clear F
  have hcl := IntsAre.length hcv
  have hml := IntsAre.length hmv
  k_steps
  all_goals (
    rename Fr _ _ _ _ => F8
    rename News _ _ _ _ => N8
    subst hR2
    refine hlast _ _ _ _ F8 (by exact Eq.refl (some _)) (by exact Eq.refl (some _)) (by exact Eq.refl (some _)) (by exact Eq.refl (some _)) (fun q hq => N8 q ?hm) ?hem fun h9 tk9 m9 F9 hm9 N9 => hkey _ _ _ F9 (fun z h2 => ?hz) N9
    case hem => first | exact pinA (by assumption) ▸ em2 | exact hpb (by assumption) ▸ em2
    case hm => first | exact hq | exact .tail _ hq | exact .tail _ (.tail _ hq) | exact .tail _ (.tail _ (.tail _ hq))
    case hz =>
      rw [hm9 z]
      try simp only [if_neg h2]
      exact ovs_eq hall z)
end

end
section
section
set_option maxRecDepth 100000 in
set_option maxHeartbeats 8000000 in
theorem iturn7 (w : World) {g h : Heap} {L f : Addr} {cd : Value} {s : Shared} {tk : Nat} {p : Program} {loose : List Str} {mean : ExcName → Option Value} {mg mb : Str → Option Value} {Q : Flow → Shared → Prop} {m : Str → Option Value}
    (X : (hd.heap_1 w.params).In g) (T : Top p loose mean mg mb g) {Z : Int} {mo cs : List Int} {i j : Nat} {ti tj tx tw t3 : Tok} {fv2 spv cv mv : List Value} {nf nc : Nat} {Fw : Nat → Nat}
    {J D8 D9 I lf ls lp lc lm : Addr} {oJ oc b8 oI bs bp o7 o5 o4 o3 o2 o1 b88 b81 : Obj}
    (F : Fr g L h m) (hn0 : m (Str.ofString "word") = some (.str (textOf Z mo) tw)) (hn1 : m (Str.ofString "text") = some (.str (textOf Z cs) tx)) (hn2 : m (Str.ofString "end") = some (.int (i : Int) ti)) (hn3 : m (Str.ofString "fewest") = some (.ref lf)) (hn4 : m (Str.ofString "spots") = some (.ref D9))
    (N : News g L h [(J, oJ), (L + 1 + 1 + 1 + 1 + 1 + 1, oc), (D8, b8), (D9, LCg.lst spv), (I, oI), (lf, W.listOf fv2.toArray nf), (ls, bs), (lp, bp), (lc, W.listOf cv.toArray nc), (lm, W.listOf mv.toArray 0), (L + 1 + 1 + 1 + 1 + 1 + 1 + 1, o7), (L + 1 + 1 + 1 + 1 + 1, o5), (L + 1 + 1 + 1 + 1, o4), (L + 1 + 1 + 1, o3), (L + 1 + 1, o2), (L + 1, o1), (88, b88), (81, b81)])
    (dc : oc.data = .cell (some (.int (1 + (j : Int)) tj))) (d4 : o4.data = .cell (some (.ref lc))) (d3 : o3.data = .cell (some (.int (mo.length : Int) t3))) (d2 : o2.data = .cell (some (.ref lm)))
    (hfv : IntsAre fv2 ((List.range (i + 1)).map fun e => (Fw e : Int))) (hsp : IntsAre spv (spotsF mo cs i)) (hcv : IntsAre cv cs) (hmv : IntsAre mv mo)
    (hi : i ≤ cs.length) (hcs : cs.length ≤ 6) (hmo : 2 ≤ mo.length ∧ mo.length ≤ 4) (hj : j < 5) (hspl : (spotsF mo cs i).length ≤ 10)
    (em1 : EmIs w (looseP (textOf Z mo) (1 + (j : Int))) (Txt.slice (textOf Z cs) none (some (i : Int))) (decide (1 + j ≤ Fw i)))
    (em2 : EmIs w (Txt.join (Str.ofString "...") (List.replicate (1 + j) (textOf Z mo))) (Txt.slice (textOf Z cs) none (some (i : Int))) (pinR mo cs Fw i (1 + j)))
    (hkey : ∀ h' tk' m', Fr g L h' m' → (∀ z, z ≠ Str.ofString "fits" → z ≠ Str.ofString "pinned" → m' z = m z) → News g L h' [(J, oJ), (L + 1 + 1 + 1 + 1 + 1 + 1, oc), (D8, b8), (D9, LCg.lst spv), (I, oI), (lf, W.listOf fv2.toArray nf), (ls, bs), (lp, bp), (lc, W.listOf cv.toArray nc), (lm, W.listOf mv.toArray 0), (L + 1 + 1 + 1 + 1 + 1 + 1 + 1, o7), (L + 1 + 1 + 1 + 1 + 1, o5), (L + 1 + 1 + 1 + 1, o4), (L + 1 + 1 + 1, o3), (L + 1 + 1, o2), (L + 1, o1), (88, b88), (81, b81)] → Q .next { s with heap := h', toks := tk' }) :
    wpAny (model PP w) (callerA.deeper (envOfC (Str.ofString "law") lawParts.2 L f cd)) (execs innerBody (envOfC (Str.ofString "law") lawParts.2 L f cd)) Q (fun _ _ => False) { s with heap := h, toks := tk } := by
  w_top off
  have e : lawParts = (lawParts.1, lawParts.2) := rfl
  conv at e => rhs; whnf
  conv at e => rhs; arg 1; whnf
  conv at e => rhs; arg 2; whnf
  have e2 : innerBody = innerBody := rfl
  conv at e2 => rhs; whnf
  have hlast := iturn7d (L := L) (f := f) (cd := cd) (s := s) (Q := Q) (Z := Z) (mo := mo) (cs := cs) (i := i) (ti := ti) (tw := tw) (tx := tx) (J := J) (D8 := D8) (D9 := D9) (I := I) (lf := lf) (ls := ls) (lp := lp) (lc := lc) (lm := lm) (oJ := oJ) (b8 := b8) (oI := oI) (bs := bs) (bp := bp) (o7 := o7) (o5 := o5) (o4 := o4) (o3 := o3) (o2 := o2) (o1 := o1) (b88 := b88) (b81 := b81) (spv := spv) (fv2 := fv2) (cv := cv) (mv := mv) (nf := nf) (nc := nc) (Fw := Fw) w X T hcv hmv d4 d2 dc hi hcs hmo hj
  rw [e2, e] at hlast ⊢
  clear e e2
  dsimp only [List.drop] at hlast
  refine execs_cut 3 ?_
  intro R2 hR2
  dsimp only [List.take, List.drop] at hR2 ⊢
  have hall : ∀ q ∈ [((Str.ofString "word"), (.str (textOf Z mo) tw : Value)), ((Str.ofString "text"), (.str (textOf Z cs) tx : Value)), ((Str.ofString "end"), (.int (i : Int) ti : Value)), ((Str.ofString "fewest"), (.ref lf : Value)), ((Str.ofString "spots"), (.ref D9 : Value))], m q.1 = some q.2 := by
    refine fmc hn0 ?_
    refine fmc hn1 ?_
    refine fmc hn2 ?_
    refine fmc hn3 ?_
    refine fmc hn4 ?_
    exact fun _ h => absurd h List.not_mem_nil
  have F3 := Fr.overAll F [((Str.ofString "word"), _), ((Str.ofString "text"), _), ((Str.ofString "end"), _), ((Str.ofString "fewest"), _), ((Str.ofString "spots"), _)] (by
    refine fmc hn0 ?_
    refine fmc hn1 ?_
    refine fmc hn2 ?_
    refine fmc hn3 ?_
    refine fmc hn4 ?_
    exact fun _ h => absurd h List.not_mem_nil)
  dsimp only [ovs] at F3
  clear F
  have hget : (((List.range (i + 1)).map fun e => (Fw e : Int)).getD (i : Int).toNat 0) = (Fw i : Int) := by simp [List.getD_eq_getElem?_getD]
  have hts : (textOf Z cs).length ≤ PySem.sizeLine := by rw [Cs_len, List.length_map, sizeLine_eq]; omega
  have hw10 : (textOf Z mo).length ≤ 10 := by rw [Cs_len, List.length_map]; omega
  have hfl := IntsAre.length hfv
  rw [List.length_map, List.length_range] at hfl
  have hcl := IntsAre.length hcv
  have hml := IntsAre.length hmv
  have hsl := IntsAre.length hsp
  k_steps
  refine Hold.off ?_
  rename Fr _ _ _ _ => Fo
  rename News _ _ _ _ => No
  refine' Ctr.useS (c_loose w _ _ _ _ hw10 (by omega) (by omega)) ?uF ?uN ?uX ?uT ?uh ?ud ?uu ?uP ?_
  case uF => k_asm
  case uN => k_asm
  case uX => k_asm
  case uT => k_asm
  case uh => rfl
  case ud => k_room
  case uu => exact Nat.le_of_ble_eq_true rfl
  case uP => trivial
  k_whole
  intro tl hl tkl Fl Nl
  clear Fo No
  try dsimp only
  k_steps
  refine Hold.off ?_
  rename Fr _ _ _ _ => Fo
  rename News _ _ _ _ => No
  refine' Ctr.useB (c_fits w _ _ _ _ _ em1) ?uF ?uN ?uX ?uT ?uh ?ud ?uu ?uP ?_
  case uF => k_asm
  case uN => k_asm
  case uX => k_asm
  case uT => k_asm
  case uh => rfl
  case ud => k_room
  case uu => exact Nat.le_of_ble_eq_true rfl
  case uP => trivial
  k_whole
  intro hl2 tkl2 Fl2 Nl2
  clear Fo No
  try dsimp only
  k_steps
  · exfalso
    rename (_ != _) = true => hb9
    rw [bne_iff_ne] at hb9
    exact hb9 (by rw [hget]; exact decide_eq_decide.mpr (by omega))
  all_goals (
    rename Fr _ _ _ _ => F8
    rename News _ _ _ _ => N8
    subst hR2
    refine hlast _ _ _ _ F8 (by exact Eq.refl (some _)) (by exact Eq.refl (some _)) (by exact Eq.refl (some _)) (by exact Eq.refl (some _)) (fun q hq => N8 q ?hm) em2 (fun hk1 => ?hem) fun h9 tk9 m9 F9 hm9 N9 => hkey _ _ _ F9 (fun z h1 h2 => ?hz) N9
    case hem => first | exact pinB hget hk1 (by assumption) (by assumption) | exact pinC hk1 (by assumption) (by assumption) | exact pinD hk1 (by assumption)
    case hm => first | exact hq | exact .tail _ hq | exact .tail _ (.tail _ hq) | exact .tail _ (.tail _ (.tail _ hq))
    case hz =>
      rw [hm9 z h2]
      simp only [if_neg h1, if_neg h2]
      exact ovs_eq hall z)
end

end
section
section
local macro_rules | `(tactic| walk_at "exec For") => `(tactic| (k_here; (with_reducible rename Fr _ _ _ _ => kF); k_dflt (refine' For_invV (FrG kF) rfl rfl ?_); (try dsimp only [FrG])))
local macro_rules | `(tactic| walk_at "exec For") => `(tactic| (k_here; k_dflt (refine' For_cell rfl ?_)))
local macro_rules | `(tactic| walk_at "call builtin:list.append") => `(tactic| (refine hold ?_))
theorem min_cut {k : Int} {m n : Nat} (h0 : 0 ≤ k) (h : k + (m : Int) ≤ n) : min (k + (m : Int)).toNat n - k.toNat = m := by omega
/-- the letters of the loop over the fronts -/
inductive P7 (Fw : Nat → Nat) (mo cs : List Int) (al : List Addr) (i : Nat) : List Value × Nat × Addr × List Value × Nat × Obj → Prop
  | mk {fv : List Value} {nf : Nat} {lst : Addr} {stv : List Value} {nst : Nat} {o6 : Obj} {v6 : Option Value} (hfv : IntsAre fv ((List.range i).map fun e => (Fw e : Int))) (hstv : IntsAre stv (if i = 0 then [] else strF mo cs (i - 1))) (d6 : o6.data = .cell v6) (hlt : Off lst al) :
      P7 Fw mo cs al i (fv, nf, lst, stv, nst, o6)
set_option maxRecDepth 100000 in
set_option maxHeartbeats 8000000 in
theorem segT7 (w : World) {g : Heap} {L f : Addr} {cd : Value} {s s' : Shared} {p : Program} {loose : List Str} {mean : ExcName → Option Value} {mg mb : Str → Option Value} {Q : Flow → Shared → Prop}
    (X : (hd.heap_1 w.params).In g) (T : Top p loose mean mg mb g) (C1 : CodeHd g 85 81) (C2 : CodeHd g 92 88) (hL : @LT.lt Nat _ 88 L ∧ @LT.lt Nat _ 81 L) {Z : Int} {mo cs : List Int}
    (hmid : Mid7 g L Z mo cs [] [] s s') (hw10 : (textOf Z mo).length ≤ 10) (hcs : 5 ≤ cs.length ∧ cs.length ≤ 6) (hmo : 2 ≤ mo.length ∧ mo.length ≤ 4) {Fw : Nat → Nat} (hFw : FewOk mo cs Fw) (hfit : ∀ e k : Nat, e ≤ cs.length → 1 ≤ k → k ≤ e / mo.length + 1 → EmIs w (looseP (textOf Z mo) (k : Int)) (Txt.slice (textOf Z cs) none (some (e : Int))) (decide (k ≤ Fw e))) (hpin : ∀ e k : Nat, e ≤ cs.length → 1 ≤ k → k ≤ e / mo.length + 1 → EmIs w (Txt.join (Str.ofString "...") (List.replicate k (textOf Z mo))) (Txt.slice (textOf Z cs) none (some (e : Int))) (pinR mo cs Fw e k))  {R : List Stmt}
    (hkey : ∀ s'', Mid7 g L Z mo cs ((List.range (cs.length + 1)).map fun e => (Fw e : Int)) (strF mo cs cs.length) s s'' → wpAny (model PP w) (callerA.deeper (envOfC (Str.ofString "law") lawParts.2 L f cd)) (execs R (envOfC (Str.ofString "law") lawParts.2 L f cd)) Q (fun _ _ => False) s'') :
    wpAny (model PP w) (callerA.deeper (envOfC (Str.ofString "law") lawParts.2 L f cd)) (execs ((lawParts.1.drop 14).take 1 ++ R) (envOfC (Str.ofString "law") lawParts.2 L f cd)) Q (fun _ _ => False) s' := by
  w_top off
  have e : lawParts = (lawParts.1, lawParts.2) := rfl
  conv at e => rhs; whnf
  conv at e => rhs; arg 1; whnf
  conv at e => rhs; arg 2; whnf
  rw [e] at hkey ⊢
  clear e
  dsimp only [List.drop, List.take] at hkey ⊢
  obtain ⟨h1, tk1, m1, news1, o1, o2, o3, o4, o5, o6, o7, lm, mv, lc, cv, nc, lp, pv, t1, t3, t8, v6, v7, tw, ls, sv, ns, tx, lf, fv, nf, lst, stv, nst, hs1, F2, N2, hn0, hn1, hn2, hn3, hn4, hn5, q0, q1, q2, q3, q4, q5, q6, q7, q8, q9, q10, q11, q12, q13, q14, d1, d2, d3, d4, d5, d6, d7, hmv, hcv, hpv, lt0, lt1, lt2, hsv, ltS, hfv, hstv, ltF, ltT⟩ := hmid
  subst hs1
  have N3 : News g L h1 [(lst, W.listOf stv.toArray nst), (lf, W.listOf fv.toArray nf), (ls, W.listOf sv.toArray ns), (lp, W.listOf pv.toArray pv.length), (lc, W.listOf cv.toArray nc), (lm, W.listOf mv.toArray 0), (L + 1 + 1 + 1 + 1 + 1 + 1 + 1, o7), (L + 1 + 1 + 1 + 1 + 1 + 1, o6), (L + 1 + 1 + 1 + 1 + 1, o5), (L + 1 + 1 + 1 + 1, o4), (L + 1 + 1 + 1, o3), (L + 1 + 1, o2), (L + 1, o1), (88, tabObj #[]), (81, tabObj #[])] :=
    ncons N2 q0 (ncons N2 q1 (ncons N2 q2 (ncons N2 q3 (ncons N2 q4 (ncons N2 q5 (ncons N2 q6 (ncons N2 q7 (ncons N2 q8 (ncons N2 q9 (ncons N2 q10 (ncons N2 q11 (ncons N2 q12 (ncons N2 q13 (ncons N2 q14 (News.nil)))))))))))))))
  have F3 := Fr.overAll F2 [((Str.ofString "fewest"), _), ((Str.ofString "stretches"), _), ((Str.ofString "text"), _), ((Str.ofString "signs"), _), ((Str.ofString "word"), _), ((Str.ofString "size"), _)] (by
    refine fmc hn0 ?_
    refine fmc hn1 ?_
    refine fmc hn2 ?_
    refine fmc hn3 ?_
    refine fmc hn4 ?_
    refine fmc hn5 ?_
    exact fun _ h => absurd h List.not_mem_nil)
  dsimp only [ovs] at F3
  clear F2 N2 hn0 hn1 hn2 hn3 hn4 hn5 q0 q1 q2 q3 q4 q5 q6 q7 q8 q9 q10 q11 q12 q13 q14
  have hcl := IntsAre.length hcv
  have hml := IntsAre.length hmv
  have hpl := IntsAre.length hpv
  have hps : (partsOf Z cs).length = cs.length := List.length_map _
  k_steps
  refine Hold.off ?_
  rename Fr _ _ _ _ => F4
  rename News _ _ _ _ => N4
  rename IsRange _ _ _ _ _ _ _ _ => rg
  refine for_range (Pm := List Value × Nat × Addr × List Value × Nat × Obj) (fun p => (Sv (Str.ofString "stretches") (.ref p.2.2.1) (F2m F4)))
    (fun p => [(p.2.2.1, W.listOf p.2.2.2.1.toArray p.2.2.2.2.1), (lf, W.listOf p.1.toArray p.2.1), (L + 1 + 1 + 1 + 1 + 1 + 1, p.2.2.2.2.2)])
    (P7 Fw mo cs [L + 1 + 1 + 1 + 1 + 1 + 1 + 1, L + 1 + 1 + 1 + 1 + 1 + 1, L + 1 + 1 + 1 + 1 + 1, L + 1 + 1 + 1 + 1, L + 1 + 1 + 1, L + 1 + 1, L + 1, 88, 81, lm, lc, lp, ls, lf])
    [Str.ofString "end", Str.ofString "spots", Str.ofString "fits", Str.ofString "pinned"]
    [(ls, W.listOf sv.toArray ns), (lp, W.listOf pv.toArray pv.length), (lc, W.listOf cv.toArray nc), (lm, W.listOf mv.toArray 0), (L + 1 + 1 + 1 + 1 + 1 + 1 + 1, o7), (L + 1 + 1 + 1 + 1 + 1, o5), (L + 1 + 1 + 1 + 1, o4), (L + 1 + 1 + 1, o3), (L + 1 + 1, o2), (L + 1, o1), (88, tabObj #[]), (81, tabObj #[])] (fv, nf, lst, stv, nst, o6) (L := L) (n := cs.length + 1) rfl rfl rg (small_one (by omega) (by omega) (by omega) (by omega)) (by rw [rangeSize_nat]; omega) rfl (Fr.over F4 (Str.ofString "stretches") rfl) ?N5 (P7.mk (i := 0) hfv hstv d6 ltT) ?turn ?done
  case N5 =>
    first | exact nsub N4 (sub_idx [0, 1, 7, 2, 3, 4, 5, 6, 8, 9, 10, 11, 12, 13, 14] rfl) | exact nsub N4 (sub_idx [1, 2, 8, 3, 4, 5, 6, 7, 9, 10, 11, 12, 13, 14, 15] rfl) | exact nsub N4 (sub_idx [2, 3, 9, 4, 5, 6, 7, 8, 10, 11, 12, 13, 14, 15, 16] rfl) | exact nsub N4 (sub_idx [3, 4, 10, 5, 6, 7, 8, 9, 11, 12, 13, 14, 15, 16, 17] rfl) | exact nsub N4 (by (try dsimp only [List.cons_append, List.nil_append]); kcf_all)
  case done =>
    rintro p u h' tk' ⟨hfv, hstv, d6, hlt⟩ F' N'
    rename_i fv nf lst stv nst o6 v6
    dsimp only [F2m] at F'
    dsimp only [List.cons_append, List.nil_append] at N'
    rw [if_neg (by omega), Nat.add_sub_cancel] at hstv
    clear F4 N4
    k_steps
    rename Fr _ _ _ _ => F8
    rename News _ _ _ _ => N8
    (refine' hkey _ ⟨_, _, _, _, _, _, _, _, _, _, _, _, _, _, _, _, _, _, _, _, _, _, _, _, _, _, _, _, _, _, _, _, _, _, rfl, F8, N8, ?n0, ?n1, ?n2, ?n3, ?n4, ?n5, ?q0, ?q1, ?q2, ?q3, ?q4, ?q5, ?q6, ?q7, ?q8, ?q9, ?q10, ?q11, ?q12, ?q13, ?q14, ?f_d1, ?f_d2, ?f_d3, ?f_d4, ?f_d5, ?f_d6, ?f_d7, ?f_hmv, ?f_hcv, ?f_hpv, ?f_lt0, ?f_lt1, ?f_lt2, ?f_hsv, ?f_ltS, ?f_hfv, ?f_hstv, ?f_ltF, ?f_ltT⟩; (case n0 => exact rfl); (case n1 => exact rfl); (case n2 => exact rfl); (case n3 => exact rfl); (case n4 => exact rfl); (case n5 => exact rfl); (case q6 => k_mem); (case q7 => k_mem); (case q8 => k_mem); (case q9 => k_mem); (case q10 => k_mem); (case q11 => k_mem); (case q12 => k_mem); (case q13 => k_mem); (case q14 => k_mem); (case f_d1 => assumption); (case f_d2 => assumption); (case f_d3 => assumption); (case f_d4 => assumption); (case f_d5 => assumption); (case f_d6 => assumption); (case f_d7 => assumption); (case q0 => k_mem); (case q1 => k_mem); (case q2 => k_mem); (case q3 => k_mem); (case q4 => k_mem); (case q5 => k_mem); (case f_hmv => assumption); (case f_hcv => assumption); (case f_hpv => assumption); (case f_lt0 => assumption); (case f_lt1 => assumption); (case f_lt2 => assumption); (case f_hsv => assumption); (case f_ltS => assumption); (case f_hfv => assumption); (case f_hstv => assumption); (case f_ltF => assumption); (case f_ltT => assumption))
  case turn =>
    rintro i ti p u h' tk' I oI hin ⟨hfv, hstv, d6, hlt⟩ hne F' N' K KT
    rename_i fv nf lst stv nst o6 v6
    dsimp only [F2m] at KT F' ⊢
    dsimp only [List.cons_append, List.nil_append] at N' hne
    simp only [Int.zero_add] at F'
    clear F4 N4
    have hfl := IntsAre.length hfv
    rw [List.length_map, List.length_range] at hfl
    k_steps
    refine Hold.off ?_
    rename Fr _ _ _ _ => F4
    rename News _ _ _ _ => N4
    rename IsRange _ _ _ _ _ _ _ _ => rg
    refine LCt.CompSrcT.range rfl F4 N4 rg (small_one (by omega) (by omega) (by omega) (by omega)) (n := ((i : Int) - (mo.length : Int) + 1).toNat) (by rw [rangeSize_nat]; omega) (by rw [sizeLine_eq]; omega) fun g9 => restT_range (ks := rangeKs 0 ((i : Int) - (mo.length : Int) + 1).toNat) (fun k => decide ((cs.drop k.toNat).take mo.length = mo)) (rangeKs_length _ _) trivial (p_range 0 _) ?tT ?tE ?tF
    case tT =>
      intro k9 t9 I9 oI9 C9 oC9 D9 m9 ys9 h9 tk9 E9 hk9 hC9 hx9 F9 N9
      obtain ⟨hk0, hk1⟩ := mem_rangeKs hk9
      clear F4 N4
      k_steps
      rename News _ _ _ _ => N8
      refine Hold.off ⟨?_, .mk (by assumption) (fun q hq => N8 q (by first | exact hq | exact .tail _ hq))⟩
      rw [min_cut (by assumption) (by omega)]
    case tE =>
      intro k9 t9 I9 oI9 C9 oC9 D9 m9 ys9 h9 tk9 E9 hk9 hC9 hx9 F9 N9
      clear F4 N4
      k_steps
      exact Hold.off ⟨⟨_, rfl⟩, .mk (by assumption) (by assumption)⟩
    case tF =>
      intro spv hspv D9 h9 tk9 F9 N9 O9
      clear F4 N4
      have O9a := off1_all O9
      clear O9
      have hspl := IntsAre.length hspv
      have hspb := spots_len mo cs i
      unfold spotsF at hspb
      k_steps
      refine Hold.off ?_
      rename Fr _ _ _ _ => F4
      rename News _ _ _ _ => N4
      refine LCg.CompSrc.ledger rfl F4 N4 (by k_mem) (by rw [sizeLine_eq, List.size_toArray]; omega) fun g8 => rest_ints (ks := spotsF mo cs i) (fun k => (2 ^ mo.length - 1) * 2 ^ k.toNat) (by rw [List.size_toArray, hspl]; rfl) (.inr ⟨_, by k_mem, rfl, _, rfl⟩) (p_list hspv) ?vT ?vF
      case vT =>
        intro k9 t9 I9 oI9 C9 oC9 D8 m9 ys9 h9 tk9 E9 hk9 hC9 hx9 F9 N9
        obtain ⟨hk0, hk1⟩ := spots_bnd hk9
        clear F4 N4
        k_steps
        exact Hold.off ⟨⟨_, rfl⟩, .mk (by assumption) (by assumption)⟩
      case vF =>
        intro stv hstv D8 h9 tk9 F9 N9 O8
        clear F4 N4
        have O8a := off1_all O8
        clear O8
        have hstl := IntsAre.length hstv
        rw [List.length_map] at hstl
        k_steps
        refine Hold.off ?_
        rename Fr _ _ _ _ => F4
        rename News _ _ _ _ => N4
        have hspb' : (spotsF mo cs i).length ≤ 10 := by unfold spotsF; omega
        obtain ⟨hpos, hmin⟩ := hFw i (by omega)
        refine' CtrN.use (c_fewest w D8 stv stv.length (strF mo cs i) i _ hstv ?nb (by omega) (str_bnd hmo (by omega)) hpos)
          ([(D9, LCg.lst spv), (I, oI), (lf, W.listOf fv.toArray nf), (L + 1 + 1 + 1 + 1 + 1 + 1, o6)] ++ [(ls, W.listOf sv.toArray ns), (lp, W.listOf pv.toArray pv.length), (lc, W.listOf cv.toArray nc), (lm, W.listOf mv.toArray 0), (L + 1 + 1 + 1 + 1 + 1 + 1 + 1, o7), (L + 1 + 1 + 1 + 1 + 1, o5), (L + 1 + 1 + 1 + 1, o4), (L + 1 + 1 + 1, o3), (L + 1 + 1, o2), (L + 1, o1), (88, tabObj #[]), (81, tabObj #[])]) F4 N4 X T C1 ?uh ?ud ?uu ?h0 ?hr ?hne ?_
        case nb => unfold strF; rw [List.length_map]; exact hspb'
        case uh => rfl
        case ud => k_room
        case uu => exact Nat.le_of_ble_eq_true rfl
        case h0 => intro q hq; rw [List.mem_singleton] at hq; subst hq; k_mem
        case hr =>
          try dsimp only [List.cons_append, List.nil_append]
          kcf_all
        case hne => intro q hq; rw [List.mem_singleton] at hq; subst hq; exact ⟨AllNe.mem O8a (_, _) (by k_mem), AllNe.mem O8a (_, _) (by k_mem), AllNe.mem O8a (_, _) (by k_mem), AllNe.mem O8a (_, _) (by k_mem), AllNe.mem O8a (_, _) (by k_mem), AllNe.mem O8a (_, _) (by k_mem), AllNe.mem O8a (_, _) (by k_mem), AllNe.mem O8a (_, _) (by k_mem), AllNe.mem O8a (_, _) (by k_mem), AllNe.mem O8a (_, _) (by k_mem), AllNe.mem O8a (_, _) (by k_mem), AllNe.mem O8a (_, _) (by k_mem), AllNe.mem O8a (_, _) (by k_mem), AllNe.mem O8a (_, _) (by k_mem), AllNe.mem O8a (_, _) (by k_mem), AllNe.mem O8a (_, _) (by k_mem), trivial⟩
        k_whole
        rintro v9 h9' tk9' N₁ ⟨⟨M, hMv, hM1, hM2⟩, rfl⟩ F5 N5 _
        obtain ⟨tM, rfl⟩ := hMv
        have hMe := hmin M hM1 hM2
        subst hMe
        clear F4 N4 hM1 hM2 hmin hpos
        dsimp only [List.cons_append, List.nil_append] at N5
        have hfd := fdiv_nat i mo.length
        have hq3 : i / mo.length ≤ 3 := Nat.le_trans (Nat.div_le_div_left hmo.1 (by decide)) (by omega)
        generalize hqi : i / mo.length = q at hfd hq3
        k_steps
        rename Fr _ _ _ _ => F6
        rename News _ _ _ _ => N6
        refine Hold.off (append_K F6 N6 (Upd.ofAll (pre := [(D8, _), (D9, _), (I, oI)]) (post := (L + 1 + 1 + 1 + 1 + 1 + 1, o6) :: [(ls, W.listOf sv.toArray ns), (lp, W.listOf pv.toArray pv.length), (lc, W.listOf cv.toArray nc), (lm, W.listOf mv.toArray 0), (L + 1 + 1 + 1 + 1 + 1 + 1 + 1, o7), (L + 1 + 1 + 1 + 1 + 1, o5), (L + 1 + 1 + 1 + 1, o4), (L + 1 + 1 + 1, o3), (L + 1 + 1, o2), (L + 1, o1), (88, tabObj #[]), (81, tabObj #[])]) ⟨ltF.at _ (by kcf_m), ltF.at _ (by kcf_m), ltF.at _ (by kcf_m), ltF.at _ (by kcf_m), ltF.at _ (by kcf_m), ltF.at _ (by kcf_m), ltF.at _ (by kcf_m), ltF.at _ (by kcf_m), ltF.at _ (by kcf_m), ltF.at _ (by kcf_m), ltF.at _ (by kcf_m), ltF.at _ (by kcf_m), ltF.at _ (by kcf_m), trivial⟩
          ⟨(AllNe.mem O8a (lf, _) (by k_mem)).symm, (AllNe.mem O9a (lf, _) (by k_mem)).symm, (AllNe.mem hne (lf, _) (by k_mem)).symm, trivial⟩) (fun h7 F7 N7 => ?_) (by rw [sizeLine_eq, List.size_toArray]; omega))
        rw [List.push_toArray] at N7
        dsimp only [List.cons_append, List.nil_append] at N7
        clear F6 N6
        have hfv2 : IntsAre (fv ++ [Value.int (Fw i : Int) tM]) ((List.range (i + 1)).map fun e => (Fw e : Int)) := by
          rw [List.range_succ, List.map_append]
          exact IntsAre.append hfv (.cons _ _ .nil)
        generalize hfv3 : fv ++ [Value.int (Fw i : Int) tM] = fv2 at hfv2 N7
        have hfl2 := IntsAre.length hfv2
        rw [List.length_map, List.length_range] at hfl2
        k_steps
        refine Hold.off ?_
        rename Fr _ _ _ _ => F8
        rename News _ _ _ _ => N8
        rename IsRange _ _ _ _ _ _ _ _ => rg
        refine for_cell (Pm := Obj) (fun _ => (F2m F8)) (fun o => o) (fun _ => []) (fun _ o => ∃ v, o.data = .cell v) [Str.ofString "fits", Str.ofString "pinned"]
          ([(D8, W.listOf stv.toArray stv.length), (D9, LCg.lst spv), (I, oI), (lf, W.listOf fv2.toArray (nf + 1))] ++ [(ls, W.listOf sv.toArray ns), (lp, W.listOf pv.toArray pv.length), (lc, W.listOf cv.toArray nc), (lm, W.listOf mv.toArray 0), (L + 1 + 1 + 1 + 1 + 1 + 1 + 1, o7), (L + 1 + 1 + 1 + 1 + 1, o5), (L + 1 + 1 + 1 + 1, o4), (L + 1 + 1 + 1, o3), (L + 1 + 1, o2), (L + 1, o1), (88, tabObj #[]), (81, tabObj #[])]) o6 (L := L) (c := L + 1 + 1 + 1 + 1 + 1 + 1) (n := q + 1) rfl rfl rfl rfl rfl rg (small_one (by omega) (by omega) (by omega) (by omega)) (by rw [rangeSize_nat]; omega) F8 ?N9 ⟨_, d6⟩ (fun _ _ h => h) ?hcr ?iturn ?idone
        case N9 =>
          first | exact nsub N8 (sub_idx [5, 0, 1, 2, 4, 6, 7, 8, 9, 10, 11, 12, 13, 14, 15, 16, 17] rfl) | exact nsub N8 (sub_idx [5, 0, 1, 2, 3, 6, 7, 8, 9, 10, 11, 12, 13, 14, 15, 16, 17] rfl) | exact nsub N8 (sub_idx [5, 1, 0, 2, 4, 6, 7, 8, 9, 10, 11, 12, 13, 14, 15, 16, 17] rfl) | exact nsub N8 (sub_idx [5, 1, 0, 2, 3, 6, 7, 8, 9, 10, 11, 12, 13, 14, 15, 16, 17] rfl) | exact nsub N8 (sub_idx [6, 1, 2, 3, 5, 7, 8, 9, 10, 11, 12, 13, 14, 15, 16, 17, 18] rfl) | exact nsub N8 (sub_idx [6, 1, 2, 3, 4, 7, 8, 9, 10, 11, 12, 13, 14, 15, 16, 17, 18] rfl) | exact nsub N8 (sub_idx [6, 2, 1, 3, 5, 7, 8, 9, 10, 11, 12, 13, 14, 15, 16, 17, 18] rfl) | exact nsub N8 (sub_idx [6, 2, 1, 3, 4, 7, 8, 9, 10, 11, 12, 13, 14, 15, 16, 17, 18] rfl) | exact nsub N8 (sub_idx [7, 2, 3, 4, 6, 8, 9, 10, 11, 12, 13, 14, 15, 16, 17, 18, 19] rfl) | exact nsub N8 (sub_idx [7, 2, 3, 4, 5, 8, 9, 10, 11, 12, 13, 14, 15, 16, 17, 18, 19] rfl) | exact nsub N8 (sub_idx [7, 3, 2, 4, 6, 8, 9, 10, 11, 12, 13, 14, 15, 16, 17, 18, 19] rfl) | exact nsub N8 (sub_idx [7, 3, 2, 4, 5, 8, 9, 10, 11, 12, 13, 14, 15, 16, 17, 18, 19] rfl) | exact nsub N8 (by (try dsimp only [List.cons_append, List.nil_append]); kcf_all)
        case hcr =>
          intro _ _ _
          refine ⟨(AllNe.mem O8a (L + 1 + 1 + 1 + 1 + 1 + 1, o6) (by k_mem)).symm, (AllNe.mem O9a (L + 1 + 1 + 1 + 1 + 1 + 1, o6) (by k_mem)).symm, (AllNe.mem hne (L + 1 + 1 + 1 + 1 + 1 + 1, o6) (by k_mem)).symm, (ltF.at _ (by kcf_m)).symm, (ltS.at _ (by kcf_m)).symm, (lt2.at _ (by kcf_m)).symm, (lt1.at _ (by kcf_m)).symm, (lt0.at _ (by kcf_m)).symm, ?_⟩
          simp only [AllNe, and_true]
          omega
        case idone =>
          rintro o9 u9 h9 tk9 ⟨v9, d9⟩ F9 N9
          dsimp only [F2m] at F9
          dsimp only [List.cons_append, List.nil_append] at N9
          clear F8 N8
          k_steps
          rename Fr _ _ _ _ => F9
          rename News _ _ _ _ => N9
          refine' TurnTo.mk KT (fv2, nf + 1, D8, stv, stv.length, o9) F9 N9 rfl (P7.mk (i := i + 1) hfv2 hstv d9 ?off9) ?hm9 ?hc9 ?hs9 ?ho9
          case off9 => (exact Off.cons (AllNe.mem O8a (_, _) (by k_mem)) (Off.cons (AllNe.mem O8a (_, _) (by k_mem)) (Off.cons (AllNe.mem O8a (_, _) (by k_mem)) (Off.cons (AllNe.mem O8a (_, _) (by k_mem)) (Off.cons (AllNe.mem O8a (_, _) (by k_mem)) (Off.cons (AllNe.mem O8a (_, _) (by k_mem)) (Off.cons (AllNe.mem O8a (_, _) (by k_mem)) (Off.cons (AllNe.mem O8a (_, _) (by k_mem)) (Off.cons (AllNe.mem O8a (_, _) (by k_mem)) (Off.cons (AllNe.mem O8a (_, _) (by k_mem)) (Off.cons (AllNe.mem O8a (_, _) (by k_mem)) (Off.cons (AllNe.mem O8a (_, _) (by k_mem)) (Off.cons (AllNe.mem O8a (_, _) (by k_mem)) (Off.cons (AllNe.mem O8a (_, _) (by k_mem)) (Off.nil)))))))))))))))
          case hm9 =>
            intro z hz
            change Tv [Str.ofString "fits", Str.ofString "pinned"] u9 (Sv (Str.ofString "stretches") (Value.ref D8) (Sv (Str.ofString "spots") (Value.ref D9) (Sv (Str.ofString "end") (Value.int (i : Int) ti) (Tv [Str.ofString "end", Str.ofString "spots", Str.ofString "fits", Str.ofString "pinned"] u (Sv (Str.ofString "stretches") (Value.ref lst) _))))) z = Sv (Str.ofString "stretches") (Value.ref D8) _ z
            exact (ovs_tv (l := []) (ts_sub rfl hz)).trans (svn (l1 := [(Str.ofString "stretches", _), (Str.ofString "spots", _), (Str.ofString "end", _)]) (l2 := [(Str.ofString "stretches", _)]) (l3 := [(Str.ofString "stretches", _)]) rfl rfl rfl z hz)
          case hc9 => exact fmc (by k_mem) (fmc (by k_mem) (fmc (by k_mem) (fun _ h => absurd h List.not_mem_nil)))
          case hs9 => exact fmc (by k_mem) (fun q hq => List.mem_append_right [_, _, _, _, _] hq)
          case ho9 => exact ⟨(AllNe.mem O8a (I, oI) (by k_mem)).symm, AllNe.mem hne (lf, W.listOf fv.toArray nf) (by k_mem), AllNe.mem hne (L + 1 + 1 + 1 + 1 + 1 + 1, o6) (by k_mem), trivial⟩
        case iturn =>
          rintro j tj o9 u9 h9 tk9 J oJ oc hj _ hnJ dc F9 N9 K KT
          dsimp only [F2m] at KT F9 ⊢
          dsimp only [List.cons_append, List.nil_append] at N9 hnJ
          clear F8 N8
          have em1 := hfit i (1 + j) (by omega) (by omega) (by omega)
          have em2 := hpin i (1 + j) (by omega) (by omega) (by omega)
          rw [show (((1 + j : Nat) : Nat) : Int) = 1 + (j : Int) by omega] at em1
          have hspb2 : (spotsF mo cs i).length ≤ 10 := by unfold spotsF; omega
          refine iturn7 w X T F9 rfl rfl rfl rfl rfl N9 dc d4 d3 d2 hfv2 hspv hcv hmv (by omega) (by omega) hmo (by omega) hspb2 em1 em2 fun h8 tk8 m8 F8 hm8 N8 => ?_
          refine' TurnTo.mk KT oc F8 N8 rfl ⟨_, dc⟩ ?hmi ?hci ?hsi ?hoi
          case hmi =>
            intro z hz
            have hz' := hz
            simp only [List.contains_cons, List.contains_nil, Bool.or_false, Bool.or_eq_false_iff, beq_eq_false_iff_ne, ne_eq] at hz'
            rw [hm8 z hz'.1 hz'.2]; dsimp only [Sv, Tv]; rw [if_neg (by rw [hz]; exact Bool.false_ne_true)]
          case hci => intro z hz; rw [List.mem_singleton] at hz; subst hz; k_mem
          case hsi => first | exact fmc (.head _) (fun q hq => List.mem_append_right [_, _] hq) | (try dsimp only [List.cons_append, List.nil_append]; kcf_all)
          case hoi => exact ⟨hnJ.1, trivial⟩

end

end
section
section
set_option maxRecDepth 100000 in
set_option maxHeartbeats 8000000 in
theorem segT8 (w : World) {g : Heap} {L f : Addr} {cd : Value} {s s' : Shared} {p : Program} {loose : List Str} {mean : ExcName → Option Value} {mg mb : Str → Option Value} {Q : Flow → Shared → Prop}
    (X : (hd.heap_1 w.params).In g) (T : Top p loose mean mg mb g) (C1 : CodeHd g 85 81) (C2 : CodeHd g 92 88) (hL : @LT.lt Nat _ 88 L ∧ @LT.lt Nat _ 81 L) {Z : Int} {mo cs : List Int}
    {Fw : Nat → Nat} (hmid : Mid7 g L Z mo cs ((List.range (cs.length + 1)).map fun e => (Fw e : Int)) (strF mo cs cs.length) s s') (hcs : 5 ≤ cs.length ∧ cs.length ≤ 6) (hmo : 2 ≤ mo.length ∧ mo.length ≤ 4) (hFn : Fw cs.length ≤ cs.length) (hmost : ∀ j : Nat, j < cs.length + 1 → EmIs w (looseP (textOf Z mo) (1 + (j : Int))) (textOf Z cs) (decide (j < Fw cs.length))) {R : List Stmt}
    (hkey : ∀ s'', Mid8 g L Z mo cs ((List.range (cs.length + 1)).map fun e => (Fw e : Int)) (strF mo cs cs.length) s s'' → wpAny (model PP w) (callerA.deeper (envOfC (Str.ofString "law") lawParts.2 L f cd)) (execs R (envOfC (Str.ofString "law") lawParts.2 L f cd)) Q (fun _ _ => False) s'') :
    wpAny (model PP w) (callerA.deeper (envOfC (Str.ofString "law") lawParts.2 L f cd)) (execs ((lawParts.1.drop 15).take 2 ++ R) (envOfC (Str.ofString "law") lawParts.2 L f cd)) Q (fun _ _ => False) s' := by
  w_top off
  have e : lawParts = (lawParts.1, lawParts.2) := rfl
  conv at e => rhs; whnf
  conv at e => rhs; arg 1; whnf
  conv at e => rhs; arg 2; whnf
  rw [e] at hkey ⊢
  clear e
  dsimp only [List.drop, List.take] at hkey ⊢
  obtain ⟨h1, tk1, m1, news1, o1, o2, o3, o4, o5, o6, o7, lm, mv, lc, cv, nc, lp, pv, t1, t3, t8, v6, v7, tw, ls, sv, ns, tx, lf, fv, nf, lst, stv, nst, hs1, F2, N2, hn0, hn1, hn2, hn3, hn4, hn5, q0, q1, q2, q3, q4, q5, q6, q7, q8, q9, q10, q11, q12, q13, q14, d1, d2, d3, d4, d5, d6, d7, hmv, hcv, hpv, lt0, lt1, lt2, hsv, ltS, hfv, hstv, ltF, ltT⟩ := hmid
  subst hs1
  have N3 : News g L h1 [(lst, W.listOf stv.toArray nst), (lf, W.listOf fv.toArray nf), (ls, W.listOf sv.toArray ns), (lp, W.listOf pv.toArray pv.length), (lc, W.listOf cv.toArray nc), (lm, W.listOf mv.toArray 0), (L + 1 + 1 + 1 + 1 + 1 + 1 + 1, o7), (L + 1 + 1 + 1 + 1 + 1 + 1, o6), (L + 1 + 1 + 1 + 1 + 1, o5), (L + 1 + 1 + 1 + 1, o4), (L + 1 + 1 + 1, o3), (L + 1 + 1, o2), (L + 1, o1), (88, tabObj #[]), (81, tabObj #[])] :=
    ncons N2 q0 (ncons N2 q1 (ncons N2 q2 (ncons N2 q3 (ncons N2 q4 (ncons N2 q5 (ncons N2 q6 (ncons N2 q7 (ncons N2 q8 (ncons N2 q9 (ncons N2 q10 (ncons N2 q11 (ncons N2 q12 (ncons N2 q13 (ncons N2 q14 (News.nil)))))))))))))))
  have F3 := Fr.overAll F2 [((Str.ofString "fewest"), _), ((Str.ofString "stretches"), _), ((Str.ofString "text"), _), ((Str.ofString "signs"), _), ((Str.ofString "word"), _), ((Str.ofString "size"), _)] (by
    refine fmc hn0 ?_
    refine fmc hn1 ?_
    refine fmc hn2 ?_
    refine fmc hn3 ?_
    refine fmc hn4 ?_
    refine fmc hn5 ?_
    exact fun _ h => absurd h List.not_mem_nil)
  dsimp only [ovs] at F3
  clear F2 N2 hn0 hn1 hn2 hn3 hn4 hn5 q0 q1 q2 q3 q4 q5 q6 q7 q8 q9 q10 q11 q12 q13 q14
  have hcl := IntsAre.length hcv
  have hml := IntsAre.length hmv
  have hfl := IntsAre.length hfv
  rw [List.length_map, List.length_range] at hfl
  have hget : (((List.range (cs.length + 1)).map fun e => (Fw e : Int)).getD (cs.length : Int).toNat 0) = (Fw cs.length : Int) := by simp [List.getD_eq_getElem?_getD]
  have hw10 : (textOf Z mo).length ≤ 10 := by rw [Cs_len, List.length_map]; omega
  have htl : (textOf Z cs).length = cs.length := by rw [Cs_len, List.length_map]
  k_steps
  refine Hold.off ?_
  rename Fr _ _ _ _ => Fo
  rename News _ _ _ _ => No
  refine' CtrN.use (c_most_new w (textOf Z mo) (textOf Z cs) _ _ (Fw cs.length) hw10 (by omega) (by omega) (fun j hj => hmost j (by omega))) ([(lst, W.listOf stv.toArray nst), (lf, W.listOf fv.toArray nf), (ls, W.listOf sv.toArray ns), (lp, W.listOf pv.toArray pv.length), (lc, W.listOf cv.toArray nc), (lm, W.listOf mv.toArray 0), (L + 1 + 1 + 1 + 1 + 1 + 1 + 1, o7), (L + 1 + 1 + 1 + 1 + 1 + 1, o6), (L + 1 + 1 + 1 + 1 + 1, o5), (L + 1 + 1 + 1 + 1, o4), (L + 1 + 1 + 1, o3), (L + 1 + 1, o2), (L + 1, o1), (88, tabObj #[])]) Fo No X T C1 ?uh ?ud ?uu ?h0 ?hr ?hne ?_
  case uh => rfl
  case ud => k_room
  case uu => exact Nat.le_of_ble_eq_true rfl
  case h0 => kcf_all
  case hr => first | exact sub_idx [0, 1, 2, 3, 4, 5, 6, 7, 8, 9, 10, 11, 12, 13] rfl | exact sub_idx [1, 2, 3, 4, 5, 6, 7, 8, 9, 10, 11, 12, 13, 14] rfl | exact sub_idx [2, 3, 4, 5, 6, 7, 8, 9, 10, 11, 12, 13, 14, 15] rfl | exact sub_idx [3, 4, 5, 6, 7, 8, 9, 10, 11, 12, 13, 14, 15, 16] rfl | kcf_all
  case hne =>
    intro q hq
    simp only [List.mem_cons, List.not_mem_nil, or_false] at hq
    rcases hq with rfl
    · refine ⟨(ltT.at 81 (by kcf_m)).symm, (ltF.at 81 (by kcf_m)).symm, (ltS.at 81 (by kcf_m)).symm, (lt2.at 81 (by kcf_m)).symm, (lt1.at 81 (by kcf_m)).symm, (lt0.at 81 (by kcf_m)).symm, ?_⟩; simp only [AllNe, and_true]; omega
  k_whole
  rintro v9 h9 tk9 N₁ ⟨⟨tv, rfl⟩, c81, o81, vs81, t81, rfl, hd81, hq81⟩ F5 N5 hoff
  clear Fo No
  try dsimp only
  have hc81 := tab_ne N5 hd81 hq81
  have htab : TabIs 81 156 61 (lamQ (Str.ofString "_law_most")) [(81, tabObj (#[] ++ #[rawInt ((156 : Nat) : Int), rawInt ((61 : Nat) : Int), .ref c81])), (c81, o81)] := ⟨_, _, _, _, rfl, hd81, hq81⟩
  have hofc : AllNe c81 _ := (hoff _ (.tail _ (.head _))).resolve_left (by
    rintro ⟨q0, hq0, e0⟩
    rw [List.mem_singleton] at hq0
    subst hq0
    exact hc81 e0.symm)
  clear hoff
  dsimp only [List.cons_append, List.nil_append] at N5
  generalize tabObj (#[] ++ #[rawInt ((156 : Nat) : Int), rawInt ((61 : Nat) : Int), Value.ref c81]) = t81o at N5 htab
  k_steps
  all_goals first
  | exact absurd hget.symm (by assumption)
  | (skip
     rename Fr _ _ _ _ => F8
     rename News _ _ _ _ => N8
     (refine' hkey _ ⟨_, _, _, _, _, _, _, _, _, _, _, _, _, _, _, _, _, _, _, _, _, _, _, _, _, _, _, _, _, _, _, _, _, _, t81o, c81, o81, _, rfl, F8, N8, ?n0, ?n1, ?n2, ?n3, ?n4, ?n5, ?n6, ?q0, ?q1, ?q2, ?q3, ?q4, ?q5, ?q6, ?q7, ?q8, ?q9, ?q10, ?q11, ?q12, ?q13, ?q14, ?q15, ?f_d1, ?f_d2, ?f_d3, ?f_d4, ?f_d5, ?f_d6, ?f_d7, ?f_hmv, ?f_hcv, ?f_hpv, ?f_lt0, ?f_lt1, ?f_lt2, ?f_hsv, ?f_ltS, ?f_hfv, ?f_hstv, ?f_ltF, ?f_ltT, ?f_tab81, ?f_ltC⟩; (case n0 => exact rfl); (case n1 => exact rfl); (case n2 => exact rfl); (case n3 => exact rfl); (case n4 => exact rfl); (case n5 => exact rfl); (case n6 => exact rfl); (case q6 => k_mem); (case q7 => k_mem); (case q8 => k_mem); (case q9 => k_mem); (case q10 => k_mem); (case q11 => k_mem); (case q12 => k_mem); (case q13 => k_mem); (case q14 => k_mem); (case f_d1 => assumption); (case f_d2 => assumption); (case f_d3 => assumption); (case f_d4 => assumption); (case f_d5 => assumption); (case f_d6 => assumption); (case f_d7 => assumption); (case q0 => k_mem); (case q1 => k_mem); (case q2 => k_mem); (case q3 => k_mem); (case q4 => k_mem); (case q5 => k_mem); (case q15 => k_mem); (case f_hmv => assumption); (case f_hcv => assumption); (case f_hpv => assumption); (case f_lt0 => assumption); (case f_lt1 => assumption); (case f_lt2 => assumption); (case f_hsv => assumption); (case f_ltS => assumption); (case f_hfv => assumption); (case f_hstv => assumption); (case f_ltF => assumption); (case f_ltT => assumption); (case f_tab81 => assumption); (case f_ltC => (exact Off.cons (AllNe.mem hofc (_, _) (by k_mem)) (Off.cons (AllNe.mem hofc (_, _) (by k_mem)) (Off.cons (AllNe.mem hofc (_, _) (by k_mem)) (Off.cons (AllNe.mem hofc (_, _) (by k_mem)) (Off.cons (AllNe.mem hofc (_, _) (by k_mem)) (Off.cons (AllNe.mem hofc (_, _) (by k_mem)) (Off.cons (AllNe.mem hofc (_, _) (by k_mem)) (Off.cons (AllNe.mem hofc (_, _) (by k_mem)) (Off.cons (AllNe.mem hofc (_, _) (by k_mem)) (Off.cons (AllNe.mem hofc (_, _) (by k_mem)) (Off.cons (AllNe.mem hofc (_, _) (by k_mem)) (Off.cons (AllNe.mem hofc (_, _) (by k_mem)) (Off.cons (AllNe.mem hofc (_, _) (by k_mem)) (Off.cons (AllNe.mem hofc (_, _) (by k_mem)) (Off.cons (AllNe.mem hofc (_, _) (by k_mem)) (Off.nil)))))))))))))))))))
end

end
section
/-- the body of the painting loop, read off the row -/
def paintBody : List Stmt := match lawParts.1.drop 17 with
  | .For _ _ body _ _ :: _ => body
  | _ => []
/-- the table of _law_end's lambda: empty yet, or filled -/
def End88 (t88 : Obj) (c88 : Addr) (o88 : Obj) : Prop := (t88 = tabObj #[] ∧ c88 = 88 ∧ o88 = tabObj #[]) ∨ TabIs 88 158 58 (lamQ (Str.ofString "_law_end")) [(88, t88), (c88, o88)]
section
local macro_rules | `(tactic| walk_at "setItem ref int") => `(tactic| (refine hold ?_))
set_option maxRecDepth 100000 in
set_option maxHeartbeats 8000000 in
theorem c_end_any (w : World) (a b : Str) (ta tb : Tok) (r : Nat) (kk : Int) (tk₀ : Tok) (hkk : 0 ≤ kk) (hkk2 : kk ≤ 20) (ha : a.length ≤ 10) (hb : b.length ≤ 6) (hr : r ≤ b.length + 1) {t88 o88 : Obj} {c88 : Addr} (h88 : End88 t88 c88 o88)
    (hem : ∀ j : Nat, j < b.length + 1 → ∀ ta tb, Ctr w 490 800 (call (.ref 21) [.str (looseP a kk) ta, .str (Txt.slice b none (some (0 + (j : Int)))) tb]) Any (RBool (decide (r ≤ j)))) :
    CtrN w 450 400 (call (.ref 93) [.str a ta, .int kk tk₀, .str b tb]) 92 88 [(88, t88), (c88, o88)] (fun v N₁ => (∃ t, v = .int (r : Int) t) ∧ TabIs 88 158 58 (lamQ (Str.ofString "_law_end")) N₁) := by
  rcases h88 with ⟨rfl, rfl, rfl⟩ | h88
  · have c := c_end_new w a b ta tb r kk tk₀ hkk hkk2 ha hb hr hem
    intro p loose mean mg mb g s Q E X T C k hN hQ
    refine c p loose mean mg mb g s Q E X T C k (fun q hq => hN q (by rw [List.mem_singleton] at hq; subst hq; exact .head _)) fun v h' tk' N₁ hk hN' hR => hQ v h' tk' N₁ (fun b o e hb => hk b o e fun q hq => hb q (by rw [List.mem_singleton] at hq; subst hq; exact .head _)) (fun q hq => ⟨(hN' q hq).1, (hN' q hq).2.imp (fun ⟨q0, h0, e0⟩ => ⟨q0, by rw [List.mem_singleton] at h0; subst h0; exact .head _, e0⟩) fun x => x⟩) hR
  · have c := c_end_hit w a b ta tb r kk tk₀ hkk hkk2 ha hb hr _ h88 hem
    intro p loose mean mg mb g s Q E X T C k hN hQ
    exact c p loose mean mg mb g s Q E X T C k hN fun v h' tk' N₁ hk hN' hR => hQ v h' tk' N₁ hk hN' ⟨hR.1, by rw [hR.2]; exact h88⟩
set_option maxRecDepth 100000 in
set_option maxHeartbeats 8000000 in
theorem turn9 (w : World) {g h : Heap} {L f : Addr} {cd : Value} {s : Shared} {tk : Nat} {p : Program} {loose : List Str} {mean : ExcName → Option Value} {mg mb : Str → Option Value} {Q : Flow → Shared → Prop} {m : Str → Option Value}
    (X : (hd.heap_1 w.params).In g) (T : Top p loose mean mg mb g) (C1 : CodeHd g 85 81) (C2 : CodeHd g 92 88) (hL : @LT.lt Nat _ 88 L ∧ @LT.lt Nat _ 81 L) {Z : Int} {mo cs : List Int} {j K e : Nat} {tj tx tw t8 tf : Tok} {fv pv sv : List Value} {nf ns : Nat} {fs : List Int} {P0 P1 : List Nat}
    {J ls c88 c81 lst lf lp lc lm : Addr} {oJ oc t88 o88 t81 o81 bst bc bm o7 o5 o4 o3 o2 o1 : Obj}
    (F : Fr g L h m) (hn0 : m (Str.ofString "word") = some (.str (textOf Z mo) tw)) (hn1 : m (Str.ofString "text") = some (.str (textOf Z cs) tx)) (hn2 : m (Str.ofString "fewest") = some (.ref lf)) (hn3 : m (Str.ofString "size") = some (.int (cs.length : Int) t8)) (hn4 : m (Str.ofString "signs") = some (.ref ls)) (hn5 : m (Str.ofString "former") = some (.str (Cs P0) tf))
    (N : News g L h [(J, oJ), (L + 1 + 1 + 1 + 1 + 1 + 1, oc), (ls, W.listOf sv.toArray ns), (88, t88), (c88, o88), (81, t81), (c81, o81), (lst, bst), (lf, W.listOf fv.toArray nf), (lp, W.listOf pv.toArray pv.length), (lc, bc), (lm, bm), (L + 1 + 1 + 1 + 1 + 1 + 1 + 1, o7), (L + 1 + 1 + 1 + 1 + 1, o5), (L + 1 + 1 + 1 + 1, o4), (L + 1 + 1 + 1, o3), (L + 1 + 1, o2), (L + 1, o1)])
    (dc : oc.data = .cell (some (.int (1 + (j : Int)) tj))) (d5 : o5.data = .cell (some (.ref lp)))
    (hfv : IntsAre fv fs) (hpv : IntsAre pv (partsOf Z cs)) (hsv : StrsAre sv (P0.map fun c => Cs [c])) (hnJ : AllNe J [(L + 1 + 1 + 1 + 1 + 1 + 1, oc), (ls, W.listOf sv.toArray ns), (88, t88), (c88, o88), (81, t81), (c81, o81), (lst, bst), (lf, W.listOf fv.toArray nf), (lp, W.listOf pv.toArray pv.length), (lc, bc), (lm, bm), (L + 1 + 1 + 1 + 1 + 1 + 1 + 1, o7), (L + 1 + 1 + 1 + 1 + 1, o5), (L + 1 + 1 + 1 + 1, o4), (L + 1 + 1 + 1, o3), (L + 1 + 1, o2), (L + 1, o1)])
    (lt0 : Off lm [L + 1 + 1 + 1 + 1 + 1 + 1 + 1, L + 1 + 1 + 1 + 1 + 1 + 1, L + 1 + 1 + 1 + 1 + 1, L + 1 + 1 + 1 + 1, L + 1 + 1 + 1, L + 1 + 1, L + 1, 88, 81]) (lt1 : Off lc [L + 1 + 1 + 1 + 1 + 1 + 1 + 1, L + 1 + 1 + 1 + 1 + 1 + 1, L + 1 + 1 + 1 + 1 + 1, L + 1 + 1 + 1 + 1, L + 1 + 1 + 1, L + 1 + 1, L + 1, 88, 81, lm]) (lt2 : Off lp [L + 1 + 1 + 1 + 1 + 1 + 1 + 1, L + 1 + 1 + 1 + 1 + 1 + 1, L + 1 + 1 + 1 + 1 + 1, L + 1 + 1 + 1 + 1, L + 1 + 1 + 1, L + 1 + 1, L + 1, 88, 81, lm, lc]) (ltS : Off ls [L + 1 + 1 + 1 + 1 + 1 + 1 + 1, L + 1 + 1 + 1 + 1 + 1 + 1, L + 1 + 1 + 1 + 1 + 1, L + 1 + 1 + 1 + 1, L + 1 + 1 + 1, L + 1 + 1, L + 1, 88, 81, lm, lc, lp]) (ltF : Off lf [L + 1 + 1 + 1 + 1 + 1 + 1 + 1, L + 1 + 1 + 1 + 1 + 1 + 1, L + 1 + 1 + 1 + 1 + 1, L + 1 + 1 + 1 + 1, L + 1 + 1 + 1, L + 1 + 1, L + 1, 88, 81, lm, lc, lp, ls]) (ltT : Off lst [L + 1 + 1 + 1 + 1 + 1 + 1 + 1, L + 1 + 1 + 1 + 1 + 1 + 1, L + 1 + 1 + 1 + 1 + 1, L + 1 + 1 + 1 + 1, L + 1 + 1 + 1, L + 1 + 1, L + 1, 88, 81, lm, lc, lp, ls, lf]) (ltC : Off c81 [L + 1 + 1 + 1 + 1 + 1 + 1 + 1, L + 1 + 1 + 1 + 1 + 1 + 1, L + 1 + 1 + 1 + 1 + 1, L + 1 + 1 + 1 + 1, L + 1 + 1 + 1, L + 1 + 1, L + 1, 88, 81, lm, lc, lp, ls, lf, lst]) (ltE : Off c88 [L + 1 + 1 + 1 + 1 + 1 + 1 + 1, L + 1 + 1 + 1 + 1 + 1 + 1, L + 1 + 1 + 1 + 1 + 1, L + 1 + 1 + 1 + 1, L + 1 + 1 + 1, L + 1 + 1, L + 1, 81, lm, lc, lp, ls, lf, lst, c81]) (h88 : End88 t88 c88 o88) (h81 : TabIs 81 156 61 (lamQ (Str.ofString "_law_most")) [(81, t81), (c81, o81)])
    (hcs : 5 ≤ cs.length ∧ cs.length ≤ 6) (hmo : 2 ≤ mo.length ∧ mo.length ≤ 4) (hj : 1 + j ≤ K) (hK : K ≤ cs.length) (hfl : fs.length = cs.length + 1) (hget : fs.getD (cs.length : Int).toNat 0 = (K : Int)) (he1 : 1 ≤ e) (he2 : e ≤ cs.length) (hP0 : P0.length = cs.length) (hP1 : P1 = P0.set (e - 1) (sgC Z (cs.getD (e - 1) 0) true))
    (hend : ∀ i : Nat, i < (textOf Z cs).length + 1 → EmIs w (looseP (textOf Z mo) (1 + (j : Int))) (Txt.slice (textOf Z cs) none (some (0 + (i : Int)))) (decide (e ≤ i)))
    (hcnt : (fs.filter fun c => decide (c < 1 + (j : Int))).length = e)
    (hmost : ∀ i : Nat, i < (Cs P1).length + 1 → EmIs w (looseP (textOf Z mo) (1 + (i : Int))) (Cs P1) (decide (i < K - (1 + j))))
    (hpr1 : ∀ ta tb tc, Ctr w 480 700 (call (.ref 58) [.str (textOf Z cs) ta, .str (Cs P1) tb, .int (1 + (j : Int)) tc]) Any (RInt (1 + (j : Int))))
    (hpr2 : ∀ ta tb tc, Ctr w 480 700 (call (.ref 58) [.str (Cs P1) ta, .str (Cs P0) tb, .int 1 tc]) Any (RInt 1))
    (hkey : ∀ h' tk' m' sv' t88' c88' o88' tf', Fr g L h' m' → (∀ z, z ≠ Str.ofString "end" → z ≠ Str.ofString "painted" → z ≠ Str.ofString "former" → m' z = m z) → m' (Str.ofString "former") = some (.str (Cs P1) tf') →
      News g L h' [(J, oJ), (L + 1 + 1 + 1 + 1 + 1 + 1, oc), (ls, W.listOf sv'.toArray ns), (88, t88'), (c88', o88'), (81, t81), (c81, o81), (lst, bst), (lf, W.listOf fv.toArray nf), (lp, W.listOf pv.toArray pv.length), (lc, bc), (lm, bm), (L + 1 + 1 + 1 + 1 + 1 + 1 + 1, o7), (L + 1 + 1 + 1 + 1 + 1, o5), (L + 1 + 1 + 1 + 1, o4), (L + 1 + 1 + 1, o3), (L + 1 + 1, o2), (L + 1, o1)] → StrsAre sv' (P1.map fun c => Cs [c]) → TabIs 88 158 58 (lamQ (Str.ofString "_law_end")) [(88, t88'), (c88', o88')] → Off c88' [L + 1 + 1 + 1 + 1 + 1 + 1 + 1, L + 1 + 1 + 1 + 1 + 1 + 1, L + 1 + 1 + 1 + 1 + 1, L + 1 + 1 + 1 + 1, L + 1 + 1 + 1, L + 1 + 1, L + 1, 81, lm, lc, lp, ls, lf, lst, c81] → @Ne Nat J c88' → Q .next { s with heap := h', toks := tk' }) :
    wpAny (model PP w) (callerA.deeper (envOfC (Str.ofString "law") lawParts.2 L f cd)) (execs paintBody (envOfC (Str.ofString "law") lawParts.2 L f cd)) Q (fun _ _ => False) { s with heap := h, toks := tk } := by
  w_top off
  have e0 : lawParts = (lawParts.1, lawParts.2) := rfl
  conv at e0 => rhs; whnf
  conv at e0 => rhs; arg 1; whnf
  conv at e0 => rhs; arg 2; whnf
  have e2 : paintBody = paintBody := rfl
  conv at e2 => rhs; whnf
  rw [e2, e0]
  clear e0 e2
  dsimp only
  have hall : ∀ q ∈ [((Str.ofString "word"), (.str (textOf Z mo) tw : Value)), ((Str.ofString "text"), (.str (textOf Z cs) tx : Value)), ((Str.ofString "fewest"), (.ref lf : Value)), ((Str.ofString "size"), (.int (cs.length : Int) t8 : Value)), ((Str.ofString "signs"), (.ref ls : Value)), ((Str.ofString "former"), (.str (Cs P0) tf : Value))], m q.1 = some q.2 := by
    refine fmc hn0 ?_
    refine fmc hn1 ?_
    refine fmc hn2 ?_
    refine fmc hn3 ?_
    refine fmc hn4 ?_
    refine fmc hn5 ?_
    exact fun _ h => absurd h List.not_mem_nil
  have F3 := Fr.overAll F _ hall
  dsimp only [ovs] at F3
  clear F
  have hfvl := IntsAre.length hfv
  have hpvl := IntsAre.length hpv
  have hpsl : (partsOf Z cs).length = cs.length := List.length_map _
  have hw10 : (textOf Z mo).length ≤ 10 := by rw [Cs_len, List.length_map]; omega
  have htl : (textOf Z cs).length = cs.length := by rw [Cs_len, List.length_map]
  have hP1l : P1.length = cs.length := by rw [hP1, List.length_set, hP0]
  have hpl : (Cs P1).length = cs.length := by rw [Cs_len, hP1l]
  have hq1 := parts_bnd Z cs (e - 1)
  k_steps
  refine Hold.off ?_
  rename Fr _ _ _ _ => Fo
  rename News _ _ _ _ => No
  refine' CtrN.use (c_end_any w (textOf Z mo) (textOf Z cs) _ _ e _ _ (by omega) (by omega) hw10 (by omega) (by omega) h88 hend) ([(J, oJ), (L + 1 + 1 + 1 + 1 + 1 + 1, oc), (ls, W.listOf sv.toArray ns), (81, t81), (c81, o81), (lst, bst), (lf, W.listOf fv.toArray nf), (lp, W.listOf pv.toArray pv.length), (lc, bc), (lm, bm), (L + 1 + 1 + 1 + 1 + 1 + 1 + 1, o7), (L + 1 + 1 + 1 + 1 + 1, o5), (L + 1 + 1 + 1 + 1, o4), (L + 1 + 1 + 1, o3), (L + 1 + 1, o2), (L + 1, o1)]) Fo No X T C2 ?uh ?ud ?uu ?h0 ?hr ?hne ?_
  case uh => rfl
  case ud => k_room
  case uu => exact Nat.le_of_ble_eq_true rfl
  case h0 => kcf_all
  case hr => first | exact sub_idx [0, 1, 2, 5, 6, 7, 8, 9, 10, 11, 12, 13, 14, 15, 16, 17] rfl | exact sub_idx [1, 2, 3, 6, 7, 8, 9, 10, 11, 12, 13, 14, 15, 16, 17, 18] rfl | exact sub_idx [2, 3, 4, 7, 8, 9, 10, 11, 12, 13, 14, 15, 16, 17, 18, 19] rfl | exact sub_idx [3, 4, 5, 8, 9, 10, 11, 12, 13, 14, 15, 16, 17, 18, 19, 20] rfl | kcf_all
  case hne =>
    intro q hq
    simp only [List.mem_cons, List.not_mem_nil, or_false] at hq
    rcases hq with rfl | rfl
    · exact ⟨(AllNe.mem hnJ (88, _) (by k_mem)).symm, (by show @Ne Nat _ _; omega), (ltS.at (88) (by kcf_m)).symm, (by show @Ne Nat _ _; omega), (ltC.at (88) (by kcf_m)).symm, (ltT.at (88) (by kcf_m)).symm, (ltF.at (88) (by kcf_m)).symm, (lt2.at (88) (by kcf_m)).symm, (lt1.at (88) (by kcf_m)).symm, (lt0.at (88) (by kcf_m)).symm, (by show @Ne Nat _ _; omega), (by show @Ne Nat _ _; omega), (by show @Ne Nat _ _; omega), (by show @Ne Nat _ _; omega), (by show @Ne Nat _ _; omega), (by show @Ne Nat _ _; omega), trivial⟩
    · exact ⟨(AllNe.mem hnJ (c88, _) (by k_mem)).symm, (ltE.at (L + 1 + 1 + 1 + 1 + 1 + 1) (by kcf_m)), (ltE.at (ls) (by kcf_m)), (ltE.at (81) (by kcf_m)), (ltE.at (c81) (by kcf_m)), (ltE.at (lst) (by kcf_m)), (ltE.at (lf) (by kcf_m)), (ltE.at (lp) (by kcf_m)), (ltE.at (lc) (by kcf_m)), (ltE.at (lm) (by kcf_m)), (ltE.at (L + 1 + 1 + 1 + 1 + 1 + 1 + 1) (by kcf_m)), (ltE.at (L + 1 + 1 + 1 + 1 + 1) (by kcf_m)), (ltE.at (L + 1 + 1 + 1 + 1) (by kcf_m)), (ltE.at (L + 1 + 1 + 1) (by kcf_m)), (ltE.at (L + 1 + 1) (by kcf_m)), (ltE.at (L + 1) (by kcf_m)), trivial⟩
  k_whole
  rintro v9 h9 tk9 N₁ ⟨⟨tv, rfl⟩, c88n, o88n, vs88, t88v, rfl, hd88, hq88⟩ F5 N5 hoff
  clear Fo No
  try dsimp only
  have hc88 := tab_ne N5 hd88 hq88
  have htab : TabIs 88 158 58 (lamQ (Str.ofString "_law_end")) [(88, tabObj (#[] ++ #[rawInt ((158 : Nat) : Int), rawInt ((58 : Nat) : Int), .ref c88n])), (c88n, o88n)] := ⟨_, _, _, _, rfl, hd88, hq88⟩
  have hofE : Off c88n [L + 1 + 1 + 1 + 1 + 1 + 1 + 1, L + 1 + 1 + 1 + 1 + 1 + 1, L + 1 + 1 + 1 + 1 + 1, L + 1 + 1 + 1 + 1, L + 1 + 1 + 1, L + 1 + 1, L + 1, 81, lm, lc, lp, ls, lf, lst, c81] ∧ @Ne Nat J c88n := by
    rcases hoff _ (.tail _ (.head _)) with ⟨q0, hq0, e0⟩ | hA
    · simp only [List.mem_cons, List.not_mem_nil, or_false] at hq0
      rcases hq0 with rfl | rfl
      · exact absurd e0.symm hc88
      · have e1 : c88 = c88n := e0
        subst e1
        exact ⟨ltE, (AllNe.mem hnJ (c88, _) (by k_mem)).symm⟩
    · exact ⟨by (exact Off.cons (AllNe.mem hA (_, _) (by k_mem)) (Off.cons (AllNe.mem hA (_, _) (by k_mem)) (Off.cons (AllNe.mem hA (_, _) (by k_mem)) (Off.cons (AllNe.mem hA (_, _) (by k_mem)) (Off.cons (AllNe.mem hA (_, _) (by k_mem)) (Off.cons (AllNe.mem hA (_, _) (by k_mem)) (Off.cons (AllNe.mem hA (_, _) (by k_mem)) (Off.cons (AllNe.mem hA (_, _) (by k_mem)) (Off.cons (AllNe.mem hA (_, _) (by k_mem)) (Off.cons (AllNe.mem hA (_, _) (by k_mem)) (Off.cons (AllNe.mem hA (_, _) (by k_mem)) (Off.cons (AllNe.mem hA (_, _) (by k_mem)) (Off.cons (AllNe.mem hA (_, _) (by k_mem)) (Off.cons (AllNe.mem hA (_, _) (by k_mem)) (Off.cons (AllNe.mem hA (_, _) (by k_mem)) (Off.nil)))))))))))))))), AllNe.mem hA (J, oJ) (by k_mem)⟩
  obtain ⟨ltE2, hJE⟩ := hofE
  clear hoff hend
  dsimp only [List.cons_append, List.nil_append] at N5
  generalize tabObj (#[] ++ #[rawInt ((158 : Nat) : Int), rawInt ((58 : Nat) : Int), Value.ref c88n]) = t88n at N5 htab
  k_steps
  refine Hold.off ?_
  rename Fr _ _ _ _ => F4
  rename News _ _ _ _ => N4
  refine LCt.CompSrcT.ledger rfl F4 N4 (by k_mem) (by rw [sizeLine_eq, List.size_toArray]; omega) fun g9 => rest_filter hfv (fun c => decide (c < 1 + (j : Int))) (.inr ⟨_, by k_mem, rfl, _, rfl⟩) ?iT ?iE ?iF
  case iT =>
    intro k9 t9 I9 oI9 C9 oC9 D9 m9 ys9 h9 tk9 E9 hk9 hC9 hx9 F9 N9
    clear F4 N4
    k_steps
    refine Hold.off ⟨rfl, .mk (by assumption) (by assumption)⟩
  case iE =>
    intro k9 t9 I9 oI9 C9 oC9 D9 m9 ys9 h9 tk9 E9 hk9 hC9 hx9 F9 N9
    clear F4 N4
    k_steps
    exact Hold.off ⟨⟨_, rfl⟩, .mk (by assumption) (by assumption)⟩
  case iF =>
    intro ys9 hys9 D9 h9 tk9 F9 N9 O9
    clear F4 N4
    have hyl : ys9.length = e := by rw [IntsAre.length hys9]; exact hcnt
    have N10 : News g L h9 _ := fun q hq => N9 q hq
    k_steps
    · exact absurd (show (e : Int) = ((fs.filter fun c => decide (c < 1 + (j : Int))).length : Int) by rw [hcnt]) (by assumption)
    have hKk : ((K - (1 + j) : Nat) : Int) = fs.getD (cs.length : Int).toNat 0 - (1 + (j : Int)) := by rw [hget]; omega
    have he3 : ((e : Int) - 1).toNat = e - 1 := by omega
    have hsl := strs_len hsv
    rw [List.length_map] at hsl
    refine Hold.off ?_
    rename Fr _ _ _ _ => Fo
    rename News _ _ _ _ => No
    refine' Ctr.useS (c_sign w _ true _ (sgn_bnd Z cs _ _).1 (sgn_bnd Z cs _ _).2) ?uF ?uN ?uX ?uT ?uh ?ud ?uu ?uP ?_
    case uF => k_asm
    case uN => k_asm
    case uX => k_asm
    case uT => k_asm
    case uh => rfl
    case ud => k_room
    case uu => exact Nat.le_of_ble_eq_true rfl
    case uP => trivial
    k_whole
    intro tl2 hl2 tkl2 Fl2 Nl2
    clear Fo No
    try dsimp only
    k_steps
    rename Fr _ _ _ _ => F6
    rename News _ _ _ _ => N6
    have N7 : News g L hl2 [(88, t88n), (c88n, o88n), (J, oJ), (L + 1 + 1 + 1 + 1 + 1 + 1, oc), (ls, W.listOf sv.toArray ns), (81, t81), (c81, o81), (lst, bst), (lf, W.listOf fv.toArray nf), (lp, W.listOf pv.toArray pv.length), (lc, bc), (lm, bm), (L + 1 + 1 + 1 + 1 + 1 + 1 + 1, o7), (L + 1 + 1 + 1 + 1 + 1, o5), (L + 1 + 1 + 1 + 1, o4), (L + 1 + 1 + 1, o3), (L + 1 + 1, o2), (L + 1, o1)] := fun q hq => N6 q (by first | exact hq | exact .tail _ hq)
    clear N6
    refine Hold.off (ki_set F6 N7 (by omega) (by omega) (ki_setL_of (by (try simp only [Array.length_toList, List.size_toArray]); omega)) (Upd.ofAll (pre := [(88, t88n), (c88n, o88n), (J, oJ), (L + 1 + 1 + 1 + 1 + 1 + 1, oc)]) (post := [(81, t81), (c81, o81), (lst, bst), (lf, W.listOf fv.toArray nf), (lp, W.listOf pv.toArray pv.length), (lc, bc), (lm, bm), (L + 1 + 1 + 1 + 1 + 1 + 1 + 1, o7), (L + 1 + 1 + 1 + 1 + 1, o5), (L + 1 + 1 + 1 + 1, o4), (L + 1 + 1 + 1, o3), (L + 1 + 1, o2), (L + 1, o1)]) ⟨(ltS.at (81) (by kcf_m)), (ltC.at (ls) (by kcf_m)).symm, (ltT.at (ls) (by kcf_m)).symm, (ltF.at (ls) (by kcf_m)).symm, (ltS.at (lp) (by kcf_m)), (ltS.at (lc) (by kcf_m)), (ltS.at (lm) (by kcf_m)), (ltS.at (L + 1 + 1 + 1 + 1 + 1 + 1 + 1) (by kcf_m)), (ltS.at (L + 1 + 1 + 1 + 1 + 1) (by kcf_m)), (ltS.at (L + 1 + 1 + 1 + 1) (by kcf_m)), (ltS.at (L + 1 + 1 + 1) (by kcf_m)), (ltS.at (L + 1 + 1) (by kcf_m)), (ltS.at (L + 1) (by kcf_m)), trivial⟩ ⟨(ltS.at (88) (by kcf_m)), (ltE2.at (ls) (by kcf_m)).symm, (AllNe.mem hnJ (ls, _) (by k_mem)).symm, (ltS.at (L + 1 + 1 + 1 + 1 + 1 + 1) (by kcf_m)), trivial⟩) fun h8 F8 N8 => ?_)
    rw [he3] at N8
    clear F6 N7
    have hsv2 : StrsAre (sv.set (e - 1) (.str (signP ((partsOf Z cs).getD (e - 1) 0 + 16 * (e : Int).fmod 3) true) tl2)) (P1.map fun c => Cs [c]) := by
      have h1 := strs_set (t := tl2) (k := e - 1) (x := signP ((partsOf Z cs).getD (e - 1) 0 + 16 * (e : Int).fmod 3) true) hsv
      rw [sign_at Z cs (by omega)] at h1 ⊢
      rw [hP1, List.map_set]
      exact h1
    generalize hsv3 : sv.set (e - 1) (.str (signP ((partsOf Z cs).getD (e - 1) 0 + 16 * (e : Int).fmod 3) true) tl2) = sv2 at hsv2 N8
    dsimp only [List.cons_append, List.nil_append] at N8
    clear hsv3 hsv
    k_steps
    rename News _ _ _ _ => N6
    refine Hold.off (join_listW (IsList.of_ledger N6 (by k_mem)) hsv2 (by decide +kernel) (join_w P1 (fun c => c) (by omega)) fun t' k' => ?_)
    rw [join_chars]
    dsimp only
    k_steps
    refine Hold.off ?_
    rename Fr _ _ _ _ => Fo
    rename News _ _ _ _ => No
    refine' CtrN.use (c_most_hit w (textOf Z mo) (Cs P1) _ _ (K - (1 + j)) hw10 (by omega) (by omega) _ h81 hmost) ([(88, t88n), (c88n, o88n), (J, oJ), (L + 1 + 1 + 1 + 1 + 1 + 1, oc), (ls, W.listOf sv2.toArray ns), (lst, bst), (lf, W.listOf fv.toArray nf), (lp, W.listOf pv.toArray pv.length), (lc, bc), (lm, bm), (L + 1 + 1 + 1 + 1 + 1 + 1 + 1, o7), (L + 1 + 1 + 1 + 1 + 1, o5), (L + 1 + 1 + 1 + 1, o4), (L + 1 + 1 + 1, o3), (L + 1 + 1, o2), (L + 1, o1)]) Fo No X T C1 ?uh ?ud ?uu ?h0 ?hr ?hne ?_
    case uh => rfl
    case ud => k_room
    case uu => exact Nat.le_of_ble_eq_true rfl
    case h0 => kcf_all
    case hr => first | exact sub_idx [0, 1, 2, 3, 4, 7, 8, 9, 10, 11, 12, 13, 14, 15, 16, 17] rfl | exact sub_idx [1, 2, 3, 4, 5, 8, 9, 10, 11, 12, 13, 14, 15, 16, 17, 18] rfl | exact sub_idx [2, 3, 4, 5, 6, 9, 10, 11, 12, 13, 14, 15, 16, 17, 18, 19] rfl | exact sub_idx [3, 4, 5, 6, 7, 10, 11, 12, 13, 14, 15, 16, 17, 18, 19, 20] rfl | kcf_all
    case hne =>
      intro q hq
      simp only [List.mem_cons, List.not_mem_nil, or_false] at hq
      rcases hq with rfl | rfl
      · exact ⟨(by show @Ne Nat _ _; omega), (ltE2.at (81) (by kcf_m)).symm, (AllNe.mem hnJ (81, _) (by k_mem)).symm, (by show @Ne Nat _ _; omega), (ltS.at (81) (by kcf_m)).symm, (ltT.at (81) (by kcf_m)).symm, (ltF.at (81) (by kcf_m)).symm, (lt2.at (81) (by kcf_m)).symm, (lt1.at (81) (by kcf_m)).symm, (lt0.at (81) (by kcf_m)).symm, (by show @Ne Nat _ _; omega), (by show @Ne Nat _ _; omega), (by show @Ne Nat _ _; omega), (by show @Ne Nat _ _; omega), (by show @Ne Nat _ _; omega), (by show @Ne Nat _ _; omega), trivial⟩
      · exact ⟨(ltC.at (88) (by kcf_m)), (ltE2.at (c81) (by kcf_m)).symm, (AllNe.mem hnJ (c81, _) (by k_mem)).symm, (ltC.at (L + 1 + 1 + 1 + 1 + 1 + 1) (by kcf_m)), (ltC.at (ls) (by kcf_m)), (ltC.at (lst) (by kcf_m)), (ltC.at (lf) (by kcf_m)), (ltC.at (lp) (by kcf_m)), (ltC.at (lc) (by kcf_m)), (ltC.at (lm) (by kcf_m)), (ltC.at (L + 1 + 1 + 1 + 1 + 1 + 1 + 1) (by kcf_m)), (ltC.at (L + 1 + 1 + 1 + 1 + 1) (by kcf_m)), (ltC.at (L + 1 + 1 + 1 + 1) (by kcf_m)), (ltC.at (L + 1 + 1 + 1) (by kcf_m)), (ltC.at (L + 1 + 1) (by kcf_m)), (ltC.at (L + 1) (by kcf_m)), trivial⟩
    k_whole
    rintro v9 h9 tk9 N₁ ⟨⟨tv2, rfl⟩, rfl⟩ F5 N5 _
    clear Fo No
    try dsimp only
    dsimp only [List.cons_append, List.nil_append] at N5
    k_steps
    all_goals first
      | exact absurd hKk (by assumption)
      | skip
    refine Hold.off ?_
    rename Fr _ _ _ _ => Fo
    rename News _ _ _ _ => No
    refine' Ctr.useI (c_price w _ _ _ _ _ _ _ hpr1) ?uF ?uN ?uX ?uT ?uh ?ud ?uu ?uP ?_
    case uF => k_asm
    case uN => k_asm
    case uX => k_asm
    case uT => k_asm
    case uh => rfl
    case ud => k_room
    case uu => exact Nat.le_of_ble_eq_true rfl
    case uP => trivial
    k_whole
    intro tl3 hl3 tkl3 Fl3 Nl3
    clear Fo No
    try dsimp only
    k_steps
    all_goals first
      | exact absurd rfl (show ¬ ((1 : Int) + (j : Int) = 1 + (j : Int)) by assumption)
      | skip
    refine Hold.off ?_
    rename Fr _ _ _ _ => Fo
    rename News _ _ _ _ => No
    refine' Ctr.useI (c_price w _ _ _ _ _ _ _ hpr2) ?uF ?uN ?uX ?uT ?uh ?ud ?uu ?uP ?_
    case uF => k_asm
    case uN => k_asm
    case uX => k_asm
    case uT => k_asm
    case uh => rfl
    case ud => k_room
    case uu => exact Nat.le_of_ble_eq_true rfl
    case uP => trivial
    k_whole
    intro tl4 hl4 tkl4 Fl4 Nl4
    clear Fo No
    try dsimp only
    k_steps
    all_goals first
      | exact absurd rfl (show ¬ ((1 : Int) = 1) by assumption)
      | (rename Fr _ _ _ _ => F8
         rename News _ _ _ _ => N8
         refine hkey _ _ _ _ _ _ _ _ F8 (fun z h1 h2 h3 => ?_) rfl (nsub N8 (by first | exact sub_idx [4, 5, 6, 2, 3, 0, 1, 7, 8, 9, 10, 11, 12, 13, 14, 15, 16, 17] rfl | exact sub_idx [5, 6, 7, 3, 4, 1, 2, 8, 9, 10, 11, 12, 13, 14, 15, 16, 17, 18] rfl | exact sub_idx [6, 7, 8, 4, 5, 2, 3, 9, 10, 11, 12, 13, 14, 15, 16, 17, 18, 19] rfl | exact sub_idx [7, 8, 9, 5, 6, 3, 4, 10, 11, 12, 13, 14, 15, 16, 17, 18, 19, 20] rfl | kcf_all)) hsv2 htab ltE2 hJE
         · simp only [Sv, if_neg h1, if_neg h2, if_neg h3]
           exact ovs_eq (l := [((Str.ofString "word"), (.str (textOf Z mo) tw : Value)), ((Str.ofString "text"), (.str (textOf Z cs) tx : Value)), ((Str.ofString "fewest"), (.ref lf : Value)), ((Str.ofString "size"), (.int (cs.length : Int) t8 : Value)), ((Str.ofString "signs"), (.ref ls : Value))]) (fun q hq => hall q (List.mem_append_left [(Str.ofString "former", _)] hq)) z)
end

end
section
section
/-- what the painting asks of the plain law -/
def PaintOk (w : World) (Z : Int) (mo cs : List Int) (Fw E : Nat → Nat) (Pt : Nat → List Nat) : Prop :=
  Pt 0 = cs.map (loC Z) ∧ (∀ j, j ≤ Fw cs.length → (Pt j).length = cs.length) ∧ ∀ j : Nat, j < Fw cs.length → 1 ≤ E (1 + j) ∧ E (1 + j) ≤ cs.length ∧ Pt (j + 1) = (Pt j).set (E (1 + j) - 1) (sgC Z (cs.getD (E (1 + j) - 1) 0) true) ∧
    (∀ i : Nat, i < (textOf Z cs).length + 1 → EmIs w (looseP (textOf Z mo) (1 + (j : Int))) (Txt.slice (textOf Z cs) none (some (0 + (i : Int)))) (decide (E (1 + j) ≤ i))) ∧
    ((((List.range (cs.length + 1)).map fun e => (Fw e : Int)).filter fun c => decide (c < 1 + (j : Int))).length = E (1 + j)) ∧
    (∀ i : Nat, i < (Cs (Pt (j + 1))).length + 1 → EmIs w (looseP (textOf Z mo) (1 + (i : Int))) (Cs (Pt (j + 1))) (decide (i < Fw cs.length - (1 + j)))) ∧
    (∀ ta tb tc, Ctr w 480 700 (call (.ref 58) [.str (textOf Z cs) ta, .str (Cs (Pt (j + 1))) tb, .int (1 + (j : Int)) tc]) Any (RInt (1 + (j : Int)))) ∧
    (∀ ta tb tc, Ctr w 480 700 (call (.ref 58) [.str (Cs (Pt (j + 1))) ta, .str (Cs (Pt j)) tb, .int 1 tc]) Any (RInt 1))
local macro_rules | `(tactic| walk_at "exec For") => `(tactic| (k_here; k_dflt (refine' For_cell rfl ?_)))
/-- the letters of the painting loop -/
inductive P9 (Pt : Nat → List Nat) (al : List Addr) (j : Nat) : List Value × Obj × Addr × Obj × Obj × Value → Prop
  | mk {sv : List Value} {t88 : Obj} {c88 : Addr} {o88 o6 : Obj} {v6 : Option Value} {t : Tok} (hsv : StrsAre sv ((Pt j).map fun c => Cs [c])) (d6 : o6.data = .cell v6) (h88 : End88 t88 c88 o88) (ltE : Off c88 al) :
      P9 Pt al j (sv, t88, c88, o88, o6, .str (Cs (Pt j)) t)
local macro_rules | `(tactic| walk_at "zz 2") => `(tactic| fail)
set_option maxRecDepth 100000 in
set_option maxHeartbeats 8000000 in
theorem segT9 (w : World) {g : Heap} {L f : Addr} {cd : Value} {s s' : Shared} {p : Program} {loose : List Str} {mean : ExcName → Option Value} {mg mb : Str → Option Value} {Q : Flow → Shared → Prop}
    (X : (hd.heap_1 w.params).In g) (T : Top p loose mean mg mb g) (C1 : CodeHd g 85 81) (C2 : CodeHd g 92 88) (hL : @LT.lt Nat _ 88 L ∧ @LT.lt Nat _ 81 L) {Z : Int} {mo cs : List Int}
    {Fw : Nat → Nat} (hmid : Mid8 g L Z mo cs ((List.range (cs.length + 1)).map fun e => (Fw e : Int)) (strF mo cs cs.length) s s') (hcs : 5 ≤ cs.length ∧ cs.length ≤ 6) (hmo : 2 ≤ mo.length ∧ mo.length ≤ 4) {E : Nat → Nat} {Pt : Nat → List Nat} (hFn : Fw cs.length ≤ cs.length) (hpaint : PaintOk w Z mo cs Fw E Pt) {R : List Stmt}
    (hkey : ∀ s'', Mid9 g L Z mo cs (strF mo cs cs.length) s s'' → wpAny (model PP w) (callerA.deeper (envOfC (Str.ofString "law") lawParts.2 L f cd)) (execs R (envOfC (Str.ofString "law") lawParts.2 L f cd)) Q (fun _ _ => False) s'') :
    wpAny (model PP w) (callerA.deeper (envOfC (Str.ofString "law") lawParts.2 L f cd)) (execs ((lawParts.1.drop 17).take 1 ++ R) (envOfC (Str.ofString "law") lawParts.2 L f cd)) Q (fun _ _ => False) s' := by
  w_top off
  have e : lawParts = (lawParts.1, lawParts.2) := rfl
  conv at e => rhs; whnf
  conv at e => rhs; arg 1; whnf
  conv at e => rhs; arg 2; whnf
  rw [e] at hkey ⊢
  clear e
  dsimp only [List.drop, List.take] at hkey ⊢
  obtain ⟨h1, tk1, m1, news1, o1, o2, o3, o4, o5, o6, o7, lm, mv, lc, cv, nc, lp, pv, t1, t3, t8, v6, v7, tw, ls, sv, ns, tx, lf, fv, nf, lst, stv, nst, t81, c81, o81, tf, hs1, F2, N2, hn0, hn1, hn2, hn3, hn4, hn5, hn6, q0, q1, q2, q3, q4, q5, q6, q7, q8, q9, q10, q11, q12, q13, q14, q15, d1, d2, d3, d4, d5, d6, d7, hmv, hcv, hpv, lt0, lt1, lt2, hsv, ltS, hfv, hstv, ltF, ltT, tab81, ltC⟩ := hmid
  subst hs1
  have N3 : News g L h1 [(lst, W.listOf stv.toArray nst), (lf, W.listOf fv.toArray nf), (ls, W.listOf sv.toArray ns), (lp, W.listOf pv.toArray pv.length), (lc, W.listOf cv.toArray nc), (lm, W.listOf mv.toArray 0), (L + 1 + 1 + 1 + 1 + 1 + 1 + 1, o7), (L + 1 + 1 + 1 + 1 + 1 + 1, o6), (L + 1 + 1 + 1 + 1 + 1, o5), (L + 1 + 1 + 1 + 1, o4), (L + 1 + 1 + 1, o3), (L + 1 + 1, o2), (L + 1, o1), (88, tabObj #[]), (81, t81), (c81, o81)] :=
    ncons N2 q0 (ncons N2 q1 (ncons N2 q2 (ncons N2 q3 (ncons N2 q4 (ncons N2 q5 (ncons N2 q6 (ncons N2 q7 (ncons N2 q8 (ncons N2 q9 (ncons N2 q10 (ncons N2 q11 (ncons N2 q12 (ncons N2 q13 (ncons N2 q14 (ncons N2 q15 (News.nil))))))))))))))))
  have F3 := Fr.overAll F2 [((Str.ofString "fewest"), _), ((Str.ofString "stretches"), _), ((Str.ofString "text"), _), ((Str.ofString "signs"), _), ((Str.ofString "word"), _), ((Str.ofString "size"), _), ((Str.ofString "former"), _)] (by
    refine fmc hn0 ?_
    refine fmc hn1 ?_
    refine fmc hn2 ?_
    refine fmc hn3 ?_
    refine fmc hn4 ?_
    refine fmc hn5 ?_
    refine fmc hn6 ?_
    exact fun _ h => absurd h List.not_mem_nil)
  dsimp only [ovs] at F3
  clear F2 N2 hn0 hn1 hn2 hn3 hn4 hn5 hn6 q0 q1 q2 q3 q4 q5 q6 q7 q8 q9 q10 q11 q12 q13 q14 q15
  have hcl := IntsAre.length hcv
  have hfl := IntsAre.length hfv
  rw [List.length_map, List.length_range] at hfl
  have hget : (((List.range (cs.length + 1)).map fun e => (Fw e : Int)).getD (cs.length : Int).toNat 0) = (Fw cs.length : Int) := by simp [List.getD_eq_getElem?_getD]
  obtain ⟨hPt0, hPtl, hPt⟩ := hpaint
  k_steps
  refine Hold.off ?_
  rename Fr _ _ _ _ => F4
  rename News _ _ _ _ => N4
  rename IsRange _ _ _ _ _ _ _ _ => rg
  rw [hget] at rg
  have hsv0 : StrsAre sv ((Pt 0).map fun c => Cs [c]) := by rw [hPt0, List.map_map]; exact hsv
  have lt88 : Off 88 [L + 1 + 1 + 1 + 1 + 1 + 1 + 1, L + 1 + 1 + 1 + 1 + 1 + 1, L + 1 + 1 + 1 + 1 + 1, L + 1 + 1 + 1 + 1, L + 1 + 1 + 1, L + 1 + 1, L + 1, 81, lm, lc, lp, ls, lf, lst, c81] := by
    exact (Off.cons (upN hL.1 7) (Off.cons (upN hL.1 6) (Off.cons (upN hL.1 5) (Off.cons (upN hL.1 4) (Off.cons (upN hL.1 3) (Off.cons (upN hL.1 2) (Off.cons (upN hL.1 1) (Off.cons (by decide) (Off.cons (lt0.at 88 (by kcf_m)).symm (Off.cons (lt1.at 88 (by kcf_m)).symm (Off.cons (lt2.at 88 (by kcf_m)).symm (Off.cons (ltS.at 88 (by kcf_m)).symm (Off.cons (ltF.at 88 (by kcf_m)).symm (Off.cons (ltT.at 88 (by kcf_m)).symm (Off.cons (ltC.at 88 (by kcf_m)).symm Off.nil)))))))))))))))
  refine for_cell (Pm := List Value × Obj × Addr × Obj × Obj × Value) (fun p => (Sv (Str.ofString "former") p.2.2.2.2.2 (F2m F4))) (fun p => p.2.2.2.2.1)
    (fun p => [(ls, W.listOf p.1.toArray ns), (88, p.2.1), (p.2.2.1, p.2.2.2.1)])
    (P9 Pt [L + 1 + 1 + 1 + 1 + 1 + 1 + 1, L + 1 + 1 + 1 + 1 + 1 + 1, L + 1 + 1 + 1 + 1 + 1, L + 1 + 1 + 1 + 1, L + 1 + 1 + 1, L + 1 + 1, L + 1, 81, lm, lc, lp, ls, lf, lst, c81])
    [Str.ofString "end", Str.ofString "painted"] [(81, t81), (c81, o81), (lst, W.listOf stv.toArray nst), (lf, W.listOf fv.toArray nf), (lp, W.listOf pv.toArray pv.length), (lc, W.listOf cv.toArray nc), (lm, W.listOf mv.toArray 0), (L + 1 + 1 + 1 + 1 + 1 + 1 + 1, o7), (L + 1 + 1 + 1 + 1 + 1, o5), (L + 1 + 1 + 1 + 1, o4), (L + 1 + 1 + 1, o3), (L + 1 + 1, o2), (L + 1, o1)] (sv, tabObj #[], 88, tabObj #[], o6, .str (textOf Z cs) tf) (L := L) (c := L + 1 + 1 + 1 + 1 + 1 + 1) (n := Fw cs.length) rfl rfl rfl rfl rfl rg (small_one (by omega) (by omega) (by omega) (by omega)) (by rw [rangeSize_nat]; omega) (Fr.over F4 (Str.ofString "former") rfl) ?N5
    (by have q := P9.mk (Pt := Pt) (j := 0) (t := tf) hsv0 d6 (.inl ⟨rfl, rfl, rfl⟩) lt88; rw [hPt0] at q; exact q) (fun _ _ h => by cases h with | mk _ d6 _ _ => exact ⟨_, d6⟩) ?hcr ?turn ?done
  case N5 =>
    first | exact nsub N4 (sub_idx [7, 2, 13, 13, 14, 15, 0, 1, 3, 4, 5, 6, 8, 9, 10, 11, 12] rfl) | exact nsub N4 (sub_idx [8, 3, 14, 14, 15, 16, 1, 2, 4, 5, 6, 7, 9, 10, 11, 12, 13] rfl) | exact nsub N4 (sub_idx [9, 4, 15, 15, 16, 17, 2, 3, 5, 6, 7, 8, 10, 11, 12, 13, 14] rfl) | exact nsub N4 (sub_idx [10, 5, 16, 16, 17, 18, 3, 4, 6, 7, 8, 9, 11, 12, 13, 14, 15] rfl) | exact nsub N4 (by (try dsimp only [List.cons_append, List.nil_append]); kcf_all)
  case hcr =>
    rintro i p ⟨_, _, _, ltE⟩
    exact ⟨(ltS.at (L + 1 + 1 + 1 + 1 + 1 + 1) (by kcf_m)).symm, (upN hL.1 6).symm, (ltE.at (L + 1 + 1 + 1 + 1 + 1 + 1) (by kcf_m)).symm, (upN hL.2 6).symm, (ltC.at (L + 1 + 1 + 1 + 1 + 1 + 1) (by kcf_m)).symm, (ltT.at (L + 1 + 1 + 1 + 1 + 1 + 1) (by kcf_m)).symm, (ltF.at (L + 1 + 1 + 1 + 1 + 1 + 1) (by kcf_m)).symm, (lt2.at (L + 1 + 1 + 1 + 1 + 1 + 1) (by kcf_m)).symm, (lt1.at (L + 1 + 1 + 1 + 1 + 1 + 1) (by kcf_m)).symm, (lt0.at (L + 1 + 1 + 1 + 1 + 1 + 1) (by kcf_m)).symm, (upL 7 6 rfl), (upL 5 6 rfl), (upL 4 6 rfl), (upL 3 6 rfl), (upL 2 6 rfl), (upL 1 6 rfl), trivial⟩
  case turn =>
    rintro j tj p u h9 tk9 J oJ oc hj ⟨hsv9, d6, h88, ltE⟩ hnJ dc F9 N9 K KT
    rename_i sv t88 c88 o88 o6 v6 tfm
    dsimp only [F2m] at KT F9 ⊢
    dsimp only [List.cons_append, List.nil_append] at N9 hnJ
    clear F4 N4
    obtain ⟨a1, a2, a3, a4, a5, a6, a7, a8⟩ := hPt j hj
    refine turn9 w X T C1 C2 hL F9 rfl rfl rfl rfl rfl rfl N9 dc d5 hfv hpv hsv9 hnJ lt0 lt1 lt2 ltS ltF ltT ltC ltE h88 tab81 hcs hmo (K := Fw cs.length) (by omega) hFn (by rw [List.length_map, List.length_range]) hget a1 a2 (hPtl j (by omega)) a3 a4 a5 a6 a7 a8 ?_
    intro h8 tk8 m8 sv8 t88n c88n o88n tf8 F8 hm8 hmf N8 hsv8 htab8 ltE8 hJE
    refine' TurnTo.mk KT (sv8, t88n, c88n, o88n, oc, .str (Cs (Pt (j + 1))) tf8) F8 N8 rfl (P9.mk (j := j + 1) hsv8 dc (.inr htab8) ltE8) ?hm9 ?hc9 ?hs9 ?ho9
    case hm9 =>
      intro z hz
      have hz' := hz
      simp only [List.contains_cons, List.contains_nil, Bool.or_false, Bool.or_eq_false_iff, beq_eq_false_iff_ne, ne_eq] at hz'
      by_cases h5 : z = Str.ofString "former"
      · subst h5; exact hmf
      · rw [hm8 z hz'.1 hz'.2 h5]; dsimp only [Sv, Tv]; rw [if_neg (by rw [hz]; exact Bool.false_ne_true), if_neg h5, if_neg h5, if_neg h5]
    case hc9 => exact fmc (by k_mem) (fmc (by k_mem) (fmc (by k_mem) (fmc (by k_mem) (fun _ h => absurd h List.not_mem_nil))))
    case hs9 => first | exact fmc (.head _) (fun q hq => List.mem_append_right [_, _, _, _, _] hq) | (try dsimp only [List.cons_append, List.nil_append]; kcf_all)
    case ho9 => exact ⟨hnJ.1, AllNe.mem hnJ (ls, W.listOf sv.toArray ns) (by k_mem), AllNe.mem hnJ (88, t88) (by k_mem), hJE.symm, trivial⟩
  case done =>
    rintro p u h9 tk9 ⟨hsv9, d6, h88, ltE⟩ F9 N9
    rename_i sv t88 c88 o88 o6 v6 fm
    dsimp only [F2m] at F9
    dsimp only [List.cons_append, List.nil_append] at N9
    clear F4 N4
    have h88p : ∃ pp, t88 = tabObj pp := by
      rcases h88 with ⟨rfl, _, _⟩ | ⟨_, _, _, _, e1, _, _⟩
      · exact ⟨_, rfl⟩
      · exact ⟨_, congrArg Prod.snd (List.cons.inj e1).1⟩
    k_steps
    rename Fr _ _ _ _ => F8
    rename News _ _ _ _ => N8
    (refine' hkey _ ⟨_, _, _, _, _, _, _, _, _, _, _, _, _, _, _, _, _, _, _, _, _, _, _, _, _, _, _, _, t81, c81, o81, t88, rfl, F8, N8, ?n0, ?n1, ?n2, ?n3, ?q0, ?q1, ?q2, ?q3, ?q4, ?q5, ?q6, ?q7, ?q8, ?q9, ?q10, ?q11, ?q12, ?q13, ?f_d1, ?f_d2, ?f_d3, ?f_d4, ?f_d5, ?f_d6, ?f_d7, ?f_hmv, ?f_hcv, ?f_hpv, ?f_lt0, ?f_lt1, ?f_lt2, ?f_hstv, ?f_tab81, ?f_ltT, ?f_ltC, ?f_h88p⟩; (case n0 => exact rfl); (case n1 => exact rfl); (case n2 => exact rfl); (case n3 => exact rfl); (case q4 => k_mem); (case q5 => k_mem); (case q6 => k_mem); (case q7 => k_mem); (case q8 => k_mem); (case q9 => k_mem); (case q10 => k_mem); (case q11 => k_mem); (case q12 => k_mem); (case f_d1 => assumption); (case f_d2 => assumption); (case f_d3 => assumption); (case f_d4 => assumption); (case f_d5 => assumption); (case f_d6 => assumption); (case f_d7 => assumption); (case q0 => k_mem); (case q1 => k_mem); (case q2 => k_mem); (case q3 => k_mem); (case q13 => k_mem); (case f_hmv => assumption); (case f_hcv => assumption); (case f_hpv => assumption); (case f_lt0 => assumption); (case f_lt1 => assumption); (case f_lt2 => assumption); (case f_hstv => assumption); (case f_tab81 => assumption); (case f_ltT => (exact Off.cons (ltT.at _ (by kcf_m)) (Off.cons (ltT.at _ (by kcf_m)) (Off.cons (ltT.at _ (by kcf_m)) (Off.cons (ltT.at _ (by kcf_m)) (Off.cons (ltT.at _ (by kcf_m)) (Off.cons (ltT.at _ (by kcf_m)) (Off.cons (ltT.at _ (by kcf_m)) (Off.cons (ltT.at _ (by kcf_m)) (Off.cons (ltT.at _ (by kcf_m)) (Off.cons (ltT.at _ (by kcf_m)) (Off.cons (ltT.at _ (by kcf_m)) (Off.cons (ltT.at _ (by kcf_m)) (Off.nil)))))))))))))); (case f_ltC => (exact Off.cons (ltC.at _ (by kcf_m)) (Off.cons (ltC.at _ (by kcf_m)) (Off.cons (ltC.at _ (by kcf_m)) (Off.cons (ltC.at _ (by kcf_m)) (Off.cons (ltC.at _ (by kcf_m)) (Off.cons (ltC.at _ (by kcf_m)) (Off.cons (ltC.at _ (by kcf_m)) (Off.cons (ltC.at _ (by kcf_m)) (Off.cons (ltC.at _ (by kcf_m)) (Off.cons (ltC.at _ (by kcf_m)) (Off.cons (ltC.at _ (by kcf_m)) (Off.cons (ltC.at _ (by kcf_m)) (Off.cons (ltC.at _ (by kcf_m)) (Off.nil))))))))))))))); (case f_h88p => assumption))
end

end
section
section
/-- the drawn number -/
def drawnI (Z : Int) (n : Nat) : Int := (5 * Z + 9).fmod (2 ^ n)
theorem drawn_bnd (Z : Int) {n : Nat} (hn : n ≤ 6) : 0 ≤ drawnI Z n ∧ drawnI Z n < 64 := by
  have h1 : (0 : Int) < 2 ^ n := Int.pow_pos (by decide)
  have h2 : (2 : Int) ^ n ≤ 64 := by
    have : n = 0 ∨ n = 1 ∨ n = 2 ∨ n = 3 ∨ n = 4 ∨ n = 5 ∨ n = 6 := by omega
    rcases this with rfl | rfl | rfl | rfl | rfl | rfl | rfl <;> decide
  have h3 := Int.fmod_nonneg_of_pos (5 * Z + 9) h1
  have h4 := Int.fmod_lt_of_pos (5 * Z + 9) h1
  exact ⟨h3, Int.lt_of_lt_of_le h4 h2⟩
abbrev drB (D k : Int) : Bool := (D.fdiv (2 ^ k.toNat)).fmod 2 == 1
def shownOf (Z : Int) (cs : List Int) : List Nat := (rangeKs 0 cs.length).map fun k => sgC Z (cs.getD k.toNat 0) (drB (drawnI Z cs.length) k)
def restS (mo cs : List Int) (D : Int) : List Int := (strF mo cs cs.length).filter fun x => Builtin.bitAnd x D == 0
/-- what the drawn painting asks of the plain law -/
def DrawnOk (w : World) (Z : Int) (mo cs : List Int) (RD : Nat) (ND : Int) : Prop :=
  (∀ i : Nat, i < (Cs (shownOf Z cs)).length + 1 → EmIs w (looseP (textOf Z mo) (1 + (i : Int))) (Cs (shownOf Z cs)) (decide (i < RD))) ∧
  0 < (allHit (restS mo cs (drawnI Z cs.length)) cs.length).length ∧
  (∀ M, M ∈ allHit (restS mo cs (drawnI Z cs.length)) cs.length → (∀ a ∈ allHit (restS mo cs (drawnI Z cs.length)) cs.length, M ≤ a) → M = (RD : Int)) ∧
  (∀ ta tb tc, Ctr w 480 700 (call (.ref 58) [.str (textOf Z cs) ta, .str (Cs (shownOf Z cs)) tb, .int (cs.length : Int) tc]) Any (RInt ND))
set_option maxRecDepth 100000 in
set_option maxHeartbeats 8000000 in
theorem segT10 (w : World) {g : Heap} {L f : Addr} {cd : Value} {s s' : Shared} {p : Program} {loose : List Str} {mean : ExcName → Option Value} {mg mb : Str → Option Value} {Q : Flow → Shared → Prop}
    (X : (hd.heap_1 w.params).In g) (T : Top p loose mean mg mb g) (C1 : CodeHd g 85 81) (C2 : CodeHd g 92 88) (hL : @LT.lt Nat _ 88 L ∧ @LT.lt Nat _ 81 L) {Z : Int} {mo cs : List Int}
    (hmid : Mid9 g L Z mo cs (strF mo cs cs.length) s s') (hcs : 5 ≤ cs.length ∧ cs.length ≤ 6) (hmo : 2 ≤ mo.length ∧ mo.length ≤ 4) {RD : Nat} {ND : Int} (hRD : RD ≤ cs.length) (hdr : DrawnOk w Z mo cs RD ND) (hND : ND = ((rangeKs 0 cs.length).map fun k => ((drawnI Z cs.length).fdiv (2 ^ k.toNat)).fmod 2).sum) {R : List Stmt}
    (hQ : ∀ h' tk' m' news' p1 p2, Fr g L h' m' → News g L h' news' → (88, tabObj p1) ∈ news' → (81, tabObj p2) ∈ news' → Q (.ret (.bool true)) { s with heap := h', toks := tk' }) :
    wpAny (model PP w) (callerA.deeper (envOfC (Str.ofString "law") lawParts.2 L f cd)) (execs ((lawParts.1.drop 18).take 4 ++ R) (envOfC (Str.ofString "law") lawParts.2 L f cd)) Q (fun _ _ => False) s' := by
  w_top off
  have e : lawParts = (lawParts.1, lawParts.2) := rfl
  conv at e => rhs; whnf
  conv at e => rhs; arg 1; whnf
  conv at e => rhs; arg 2; whnf
  rw [e]
  clear e
  dsimp only [List.drop, List.take]
  obtain ⟨h1, tk1, m1, news1, o1, o2, o3, o4, o5, o6, o7, lm, mv, lc, cv, nc, lp, pv, t1, t3, t8, v6, v7, tw, tx, lst, stv, nst, t81, c81, o81, t88, hs1, F2, N2, hn0, hn1, hn2, hn3, q0, q1, q2, q3, q4, q5, q6, q7, q8, q9, q10, q11, q12, q13, d1, d2, d3, d4, d5, d6, d7, hmv, hcv, hpv, lt0, lt1, lt2, hstv, tab81, ltT, ltC, h88p⟩ := hmid
  subst hs1
  have N3 : News g L h1 [(lst, W.listOf stv.toArray nst), (lp, W.listOf pv.toArray pv.length), (lc, W.listOf cv.toArray nc), (lm, W.listOf mv.toArray 0), (L + 1 + 1 + 1 + 1 + 1 + 1 + 1, o7), (L + 1 + 1 + 1 + 1 + 1 + 1, o6), (L + 1 + 1 + 1 + 1 + 1, o5), (L + 1 + 1 + 1 + 1, o4), (L + 1 + 1 + 1, o3), (L + 1 + 1, o2), (L + 1, o1), (88, t88), (81, t81), (c81, o81)] :=
    ncons N2 q0 (ncons N2 q1 (ncons N2 q2 (ncons N2 q3 (ncons N2 q4 (ncons N2 q5 (ncons N2 q6 (ncons N2 q7 (ncons N2 q8 (ncons N2 q9 (ncons N2 q10 (ncons N2 q11 (ncons N2 q12 (ncons N2 q13 (News.nil))))))))))))))
  have F3 := Fr.overAll F2 [((Str.ofString "stretches"), _), ((Str.ofString "text"), _), ((Str.ofString "word"), _), ((Str.ofString "size"), _)] (by
    refine fmc hn0 ?_
    refine fmc hn1 ?_
    refine fmc hn2 ?_
    refine fmc hn3 ?_
    exact fun _ h => absurd h List.not_mem_nil)
  dsimp only [ovs] at F3
  clear F2 N2 hn0 hn1 hn2 hn3 q0 q1 q2 q3 q4 q5 q6 q7 q8 q9 q10 q11 q12 q13
  have hcl := IntsAre.length hcv
  have hpvl := IntsAre.length hpv
  have hpsl : (partsOf Z cs).length = cs.length := List.length_map _
  have hw10 : (textOf Z mo).length ≤ 10 := by rw [Cs_len, List.length_map]; omega
  have hstl := IntsAre.length hstv
  have hssl : (strF mo cs cs.length).length ≤ 6 := by
    unfold strF; rw [List.length_map]; exact Nat.le_trans (spots_len _ _ _) (by omega)
  k_steps
  rename Fr _ _ _ _ => F4
  rename News _ _ _ _ => N4
  refine' storeX_C F4 N4 ?hc (UpdF.ofAll (pre := [(lst, W.listOf stv.toArray nst), (lp, W.listOf pv.toArray pv.length), (lc, W.listOf cv.toArray nc), (lm, W.listOf mv.toArray 0)]) (post := [(L + 1 + 1 + 1 + 1 + 1 + 1, o6), (L + 1 + 1 + 1 + 1 + 1, o5), (L + 1 + 1 + 1 + 1, o4), (L + 1 + 1 + 1, o3), (L + 1 + 1, o2), (L + 1, o1), (88, t88), (81, t81), (c81, o81)]) ⟨(by show @Ne Nat _ _; omega), (by show @Ne Nat _ _; omega), (by show @Ne Nat _ _; omega), (by show @Ne Nat _ _; omega), (by show @Ne Nat _ _; omega), (by show @Ne Nat _ _; omega), (by show @Ne Nat _ _; omega), (by show @Ne Nat _ _; omega), (ltC.at (L + 1 + 1 + 1 + 1 + 1 + 1 + 1) (by kcf_m)).symm, trivial⟩ ⟨(ltT.at (L + 1 + 1 + 1 + 1 + 1 + 1 + 1) (by kcf_m)).symm, (lt2.at (L + 1 + 1 + 1 + 1 + 1 + 1 + 1) (by kcf_m)).symm, (lt1.at (L + 1 + 1 + 1 + 1 + 1 + 1 + 1) (by kcf_m)).symm, (lt0.at (L + 1 + 1 + 1 + 1 + 1 + 1 + 1) (by kcf_m)).symm, trivial⟩) ?hd ?_
  case hc => exact rfl
  case hd => exact d7
  intro h5 o7n F5 N5 d7n
  dsimp only [List.cons_append, List.nil_append] at N5
  clear F4 N4 d7
  obtain ⟨tD, dD⟩ : ∃ t, o7n.data = .cell (some (.int (drawnI Z cs.length) t)) := ⟨_, d7n⟩
  clear d7n
  obtain ⟨hD0, hD64⟩ := drawn_bnd Z hcs.2
  obtain ⟨hm1, hm2, hm3, hm4⟩ := hdr
  have hshl : (Cs (shownOf Z cs)).length = cs.length := by rw [Cs_len]; unfold shownOf; rw [List.length_map, rangeKs_length]
  have hsh : (rangeKs 0 cs.length).map (fun k => Cs [sgC Z (cs.getD k.toNat 0) (drB (drawnI Z cs.length) k)]) = (shownOf Z cs).map fun c => Cs [c] := by unfold shownOf; rw [List.map_map]; rfl
  have hrs : restS mo cs (drawnI Z cs.length) = (strF mo cs cs.length).filter fun x => Builtin.bitAnd x (drawnI Z cs.length) == 0 := rfl
  generalize drawnI Z cs.length = D at dD hD0 hD64 hm2 hm3 hsh hND hrs
  generalize shownOf Z cs = Sh at hshl hm1 hm4 hsh
  k_steps
  refine Hold.off ?_
  rename Fr _ _ _ _ => F4
  rename News _ _ _ _ => N4
  rename IsRange _ _ _ _ _ _ _ _ => rg
  refine LCg.CompSrc.range rfl F4 N4 rg (small_one (by omega) (by omega) (by omega) (by omega)) (n := cs.length) (by rw [rangeSize_nat]; omega) (by rw [sizeLine_eq]; omega) fun g9 => rest_strs (ks := rangeKs 0 cs.length) (fun k => Cs [sgC Z (cs.getD k.toNat 0) (drB D k)]) (rangeKs_length _ _) trivial (p_range 0 cs.length) ?turn ?fin
  case turn =>
    intro k9 t9 I9 oI9 C9 oC9 D9 m9 ys9 h9 tk9 E9 hk9 hC9 hx9 F9 N9
    obtain ⟨hk0, hk1⟩ := mem_rangeKs hk9
    clear F4 N4
    k_steps
    refine Hold.off ?_
    rename Fr _ _ _ _ => Fo
    rename News _ _ _ _ => No
    refine' Ctr.useS (c_sign w _ _ _ (parts_bnd48 Z cs _).1 (parts_bnd48 Z cs _).2) ?uF ?uN ?uX ?uT ?uh ?ud ?uu ?uP ?_
    case uF => k_asm
    case uN => k_asm
    case uX => k_asm
    case uT => k_asm
    case uh => rfl
    case ud => k_room
    case uu => exact Nat.le_of_ble_eq_true rfl
    case uP => trivial
    k_whole
    intro tl2 hl2 tkl2 Fl2 Nl2
    clear Fo No
    try dsimp only
    k_steps
    exact Hold.off ⟨⟨_, congrArg (fun x => Value.str x _) (sign_at0 Z cs (j := k9.toNat) (by omega) _)⟩, .mk (by assumption) (by assumption)⟩
  case fin =>
    intro ys9 hys9 D9 h9 tk9 F9 N9 O9
    rw [hsh] at hys9
    clear F4 N4
    k_steps
    rename News _ _ _ _ => N6
    refine Hold.off (join_listW (IsList.of_lst N6 (by k_mem)) hys9 (by decide +kernel) (join_w Sh (fun c => c) (by rw [← Cs_len, hshl]; omega)) fun t' k' => ?_)
    rw [join_chars]
    dsimp only
    k_steps
    rename Fr _ _ _ _ => F6
    rename News _ _ _ _ => N6
    have N7 : News g L _ [(lst, W.listOf stv.toArray nst), (lp, W.listOf pv.toArray pv.length), (lc, W.listOf cv.toArray nc), (lm, W.listOf mv.toArray 0), (L + 1 + 1 + 1 + 1 + 1 + 1 + 1, o7n), (L + 1 + 1 + 1 + 1 + 1 + 1, o6), (L + 1 + 1 + 1 + 1 + 1, o5), (L + 1 + 1 + 1 + 1, o4), (L + 1 + 1 + 1, o3), (L + 1 + 1, o2), (L + 1, o1), (88, t88), (81, t81), (c81, o81)] := fun q hq => N6 q (by first | exact hq | exact .tail _ hq)
    clear N6
    refine Hold.off ?_
    rename Fr _ _ _ _ => Fo
    rename News _ _ _ _ => No
    refine' CtrN.use (c_most_hit w (textOf Z mo) (Cs Sh) _ _ RD hw10 (by omega) (by omega) _ tab81 hm1) ([(lst, W.listOf stv.toArray nst), (lp, W.listOf pv.toArray pv.length), (lc, W.listOf cv.toArray nc), (lm, W.listOf mv.toArray 0), (L + 1 + 1 + 1 + 1 + 1 + 1 + 1, o7n), (L + 1 + 1 + 1 + 1 + 1 + 1, o6), (L + 1 + 1 + 1 + 1 + 1, o5), (L + 1 + 1 + 1 + 1, o4), (L + 1 + 1 + 1, o3), (L + 1 + 1, o2), (L + 1, o1), (88, t88)]) Fo No X T C1 ?uh ?ud ?uu ?h0 ?hr ?hne ?_
    case uh => rfl
    case ud => k_room
    case uu => exact Nat.le_of_ble_eq_true rfl
    case h0 => kcf_all
    case hr => first | exact sub_idx [0, 1, 2, 3, 4, 5, 6, 7, 8, 9, 10, 11] rfl | exact sub_idx [1, 2, 3, 4, 5, 6, 7, 8, 9, 10, 11, 12] rfl | exact sub_idx [2, 3, 4, 5, 6, 7, 8, 9, 10, 11, 12, 13] rfl | exact sub_idx [3, 4, 5, 6, 7, 8, 9, 10, 11, 12, 13, 14] rfl | kcf_all
    case hne =>
      intro q hq
      simp only [List.mem_cons, List.not_mem_nil, or_false] at hq
      rcases hq with rfl | rfl
      · exact ⟨(ltT.at (81) (by kcf_m)).symm, (lt2.at (81) (by kcf_m)).symm, (lt1.at (81) (by kcf_m)).symm, (lt0.at (81) (by kcf_m)).symm, (by show @Ne Nat _ _; omega), (by show @Ne Nat _ _; omega), (by show @Ne Nat _ _; omega), (by show @Ne Nat _ _; omega), (by show @Ne Nat _ _; omega), (by show @Ne Nat _ _; omega), (by show @Ne Nat _ _; omega), (by show @Ne Nat _ _; omega), trivial⟩
      · exact ⟨(ltC.at (lst) (by kcf_m)), (ltC.at (lp) (by kcf_m)), (ltC.at (lc) (by kcf_m)), (ltC.at (lm) (by kcf_m)), (ltC.at (L + 1 + 1 + 1 + 1 + 1 + 1 + 1) (by kcf_m)), (ltC.at (L + 1 + 1 + 1 + 1 + 1 + 1) (by kcf_m)), (ltC.at (L + 1 + 1 + 1 + 1 + 1) (by kcf_m)), (ltC.at (L + 1 + 1 + 1 + 1) (by kcf_m)), (ltC.at (L + 1 + 1 + 1) (by kcf_m)), (ltC.at (L + 1 + 1) (by kcf_m)), (ltC.at (L + 1) (by kcf_m)), (ltC.at (88) (by kcf_m)), trivial⟩
    k_whole
    rintro v9 h9m tk9m N₁ ⟨⟨tv2, rfl⟩, rfl⟩ F5 N5 _
    clear Fo No
    try dsimp only
    dsimp only [List.cons_append, List.nil_append] at N5
    k_steps
    refine Hold.off ?_
    rename Fr _ _ _ _ => F4
    rename News _ _ _ _ => N4
    refine LCt.CompSrcT.ledger rfl F4 N4 (by k_mem) (by rw [sizeLine_eq, List.size_toArray]; omega) fun g8 => rest_filter hstv (fun x => Builtin.bitAnd x D == 0) (.inr ⟨_, by k_mem, rfl, _, rfl⟩) ?iT ?iE ?iF
    case iT =>
      intro k9 t9 I9 oI9 C9 oC9 D9 m9 ys9 h9 tk9 E9 hk9 hC9 hx9 F9 N9
      obtain ⟨hk0, hk64⟩ := str_bnd hmo hcs.2 k9 hk9
      clear F4 N4
      k_steps
      exact Hold.off ⟨rfl, .mk (by assumption) (by assumption)⟩
    case iE =>
      intro k9 t9 I9 oI9 C9 oC9 D9 m9 ys9 h9 tk9 E9 hk9 hC9 hx9 F9 N9
      clear F4 N4
      k_steps
      exact Hold.off ⟨⟨_, rfl⟩, .mk (by assumption) (by assumption)⟩
    case iF =>
      intro zs9 hzs9 D8 h8 tk8 F8 N8 O8
      have O8a := off1_all O8
      clear O8
      have hzl := IntsAre.length hzs9
      have hrl : ((strF mo cs cs.length).filter fun x => Builtin.bitAnd x D == 0).length ≤ 6 := Nat.le_trans (List.length_filter_le _ _) hssl
      clear F4 N4
      k_steps
      refine Hold.off ?_
      rename Fr _ _ _ _ => Fo
      rename News _ _ _ _ => No
      refine' CtrN.use (c_fewest w D8 zs9 zs9.length (restS mo cs D) cs.length _ hzs9 ?nb hcs.2 ?nc hm2) [(lst, W.listOf stv.toArray nst), (lp, W.listOf pv.toArray pv.length), (lc, W.listOf cv.toArray nc), (lm, W.listOf mv.toArray 0), (L + 1 + 1 + 1 + 1 + 1 + 1 + 1, o7n), (L + 1 + 1 + 1 + 1 + 1 + 1, o6), (L + 1 + 1 + 1 + 1 + 1, o5), (L + 1 + 1 + 1 + 1, o4), (L + 1 + 1 + 1, o3), (L + 1 + 1, o2), (L + 1, o1), (88, t88), (81, t81), (c81, o81)] Fo No X T C1 ?uh ?ud ?uu ?h0 ?hr ?hne ?_
      case nb => (show ((strF mo cs cs.length).filter fun x => Builtin.bitAnd x D == 0).length ≤ 10); omega
      case nc => exact fun x hx => str_bnd hmo hcs.2 x (List.mem_filter.mp hx).1
      case uh => rfl
      case ud => k_room
      case uu => exact Nat.le_of_ble_eq_true rfl
      case h0 => kcf_all
      case hr => first | exact sub_idx [0, 1, 2, 3, 4, 5, 6, 7, 8, 9, 10, 11, 12, 13] rfl | exact sub_idx [1, 2, 3, 4, 5, 6, 7, 8, 9, 10, 11, 12, 13, 14] rfl | exact sub_idx [2, 3, 4, 5, 6, 7, 8, 9, 10, 11, 12, 13, 14, 15] rfl | exact sub_idx [3, 4, 5, 6, 7, 8, 9, 10, 11, 12, 13, 14, 15, 16] rfl | kcf_all
      case hne => (intro q hq; rw [List.mem_singleton] at hq; subst hq; exact ⟨AllNe.mem O8a (_, _) (by k_mem), AllNe.mem O8a (_, _) (by k_mem), AllNe.mem O8a (_, _) (by k_mem), AllNe.mem O8a (_, _) (by k_mem), AllNe.mem O8a (_, _) (by k_mem), AllNe.mem O8a (_, _) (by k_mem), AllNe.mem O8a (_, _) (by k_mem), AllNe.mem O8a (_, _) (by k_mem), AllNe.mem O8a (_, _) (by k_mem), AllNe.mem O8a (_, _) (by k_mem), AllNe.mem O8a (_, _) (by k_mem), AllNe.mem O8a (_, _) (by k_mem), AllNe.mem O8a (_, _) (by k_mem), AllNe.mem O8a (_, _) (by k_mem), trivial⟩)
      k_whole
      rintro v9 h9' tk9' N₁ ⟨⟨MM, hMv, hM1, hM2⟩, rfl⟩ F5 N5 _
      obtain ⟨tM, rfl⟩ := hMv
      have hMe := hm3 MM hM1 hM2
      subst hMe
      clear Fo No hM1 hM2
      try dsimp only
      dsimp only [List.cons_append, List.nil_append] at N5
      k_steps
      all_goals first
        | exact absurd rfl (show ¬ ((RD : Int) = (RD : Int)) by assumption)
        | skip
      refine Hold.off ?_
      rename Fr _ _ _ _ => Fo
      rename News _ _ _ _ => No
      refine' Ctr.useI (c_price w _ _ _ _ _ _ _ hm4) ?uF ?uN ?uX ?uT ?uh ?ud ?uu ?uP ?_
      case uF => k_asm
      case uN => k_asm
      case uX => k_asm
      case uT => k_asm
      case uh => rfl
      case ud => k_room
      case uu => exact Nat.le_of_ble_eq_true rfl
      case uP => trivial
      k_whole
      intro tl3 hl3 tkl3 Fl3 Nl3
      clear Fo No
      try dsimp only
      k_steps
      refine Hold.off ?_
      rename Fr _ _ _ _ => F4
      rename News _ _ _ _ => N4
      rename IsRange _ _ _ _ _ _ _ _ => rg
      refine LCg.CompSrc.range rfl F4 N4 rg (small_one (by omega) (by omega) (by omega) (by omega)) (n := cs.length) (by rw [rangeSize_nat]; omega) (by rw [sizeLine_eq]; omega) fun g9 => rest_ints (ks := rangeKs 0 cs.length) (fun k => (D.fdiv (2 ^ k.toNat)).fmod 2) (rangeKs_length _ _) trivial (p_range 0 cs.length) ?sturn ?sfin
      case sturn =>
        intro k9 t9 I9 oI9 C9 oC9 D9 m9 ys9 h9 tk9 E9 hk9 hC9 hx9 F9 N9
        obtain ⟨hk0, hk1⟩ := mem_rangeKs hk9
        clear F4 N4
        k_steps
        exact Hold.off ⟨⟨_, rfl⟩, .mk (by assumption) (by assumption)⟩
      case sfin =>
        intro qs9 hqs9 D7 h7 tk7 F7 N7 O7
        clear F4 N4
        k_steps
        rename Fr _ _ _ _ => F8
        rename News _ _ _ _ => N8
        rw [← hND, beq_self_eq_true]
        obtain ⟨pp, rfl⟩ := h88p
        obtain ⟨_, _, _, _, e1, _, _⟩ := tab81
        have e2 : t81 = tabObj _ := congrArg Prod.snd (List.cons.inj e1).1
        subst e2
        exact hQ _ _ _ _ _ _ F8 N8 (by k_mem) (by k_mem)
end

end
end Mine
end
section
open PySem PySem.W PyProof.Rows PySem.Calls PySem.Spec
open PySem.StrLaws PySem.Builtin PySem.Builtin.Str
namespace Mine
theorem occ_first_hi (x y : Str) (lo hi : Nat) :
    (occurrences x y lo hi 1 = [] ∧ ∀ i, lo ≤ i → ¬ At x y hi i) ∨
    ∃ i r, occurrences x y lo hi 1 = i :: r ∧ lo ≤ i ∧ At x y hi i ∧ ∀ k, lo ≤ k → k < i → ¬ At x y hi k := by
  rw [occ_eq]
  rcases occ_first x y hi 1 (Nat.le_refl 1) (List.range' lo (hi + 1 - lo)) lo (fun i hi => by have := List.mem_range'_1.mp hi; omega) with ⟨h0, hn⟩ | ⟨pre, a, post, e, h0, ha, hn⟩
  · refine .inl ⟨by rw [h0], fun i hlo hi => ?_⟩
    exact hn i (by have := hi.1; rw [List.mem_range'_1]; omega) hi
  · have hs := range'_split_from e
    refine .inr ⟨a, ((forIn (List.range' lo (hi + 1 - lo)) ((#[] : Array Nat), lo) (occBody x y hi 1)).run.fst.toList).tail, ?_, hs.1, ha, fun k hk0 hk => hn k (hs.2 k hk0 hk)⟩
    generalize (forIn (List.range' lo (hi + 1 - lo)) ((#[] : Array Nat), lo) (occBody x y hi 1)).run.fst = arr at h0
    have h1 : arr.toList[0]? = some a := by simpa using h0
    cases hL : arr.toList with
    | nil => rw [hL] at h1; cases h1
    | cons b t => rw [hL] at h1; simp at h1; rw [h1]; rfl
theorem from_nat (n p : Nat) : fromIndex n (p : Int) = p := by unfold fromIndex; rw [if_neg (by omega)]; omega
/-- the first place from p on that P takes -/
def nx (P : Nat → Bool) : Nat → Nat → Option Nat
  | 0, _ => none
  | f + 1, p => if P p = true then some p else nx P f (p + 1)
theorem nx_some {P : Nat → Bool} {s : Nat} : ∀ {f p : Nat}, p ≤ s → s < p + f → P s = true → (∀ k, p ≤ k → k < s → P k = false) → nx P f p = some s
  | 0, _, h1, h2, _, _ => absurd h2 (by omega)
  | f + 1, p, h1, h2, h3, h4 => by
    unfold nx
    by_cases h : p = s
    · subst h; rw [if_pos h3]
    · rw [if_neg (by rw [h4 p (Nat.le_refl _) (by omega)]; exact Bool.false_ne_true)]
      exact nx_some (by omega) (by omega) h3 fun k hk => h4 k (by omega)
theorem nx_none {P : Nat → Bool} : ∀ {f p : Nat}, (∀ k, p ≤ k → P k = false) → nx P f p = none
  | 0, _, _ => rfl
  | f + 1, p, h => by
    unfold nx
    rw [if_neg (by rw [h p (Nat.le_refl _)]; exact Bool.false_ne_true)]
    exact nx_none fun k hk => h k (by omega)
/-- where the word stands in the text, ahead of the place hi -/
def stands (t wl : List Nat) (hi : Nat) (i : Nat) : Bool := decide (i + wl.length ≤ hi) && decide ((t.drop i).take wl.length = wl)
theorem stands_at {t wl : List Nat} {hi i : Nat} : stands t wl hi i = true ↔ At (Cs t) (Cs wl) hi i := by
  unfold stands; rw [at_list]; simp
theorem find_nx {t wl : List Nat} {p hi : Nat} (ht : t.length ≤ 6) (hh : hi ≤ t.length) : find4 (Cs t) (Cs wl) (p : Int) (hi : Int) = match nx (stands t wl hi) 7 p with | some s => (s : Int) | none => -1 := by
  unfold find4
  rw [from_nat, from_nat, Cs_len, Nat.min_eq_left hh]
  rcases occ_first_hi (Cs t) (Cs wl) p hi with ⟨h0, hn⟩ | ⟨i, r, h0, h1, h2, h3⟩
  · rw [h0, nx_none fun k hk => Bool.eq_false_iff.mpr fun h => hn k hk (stands_at.mp h)]
  · have h4 := h2.1
    rw [h0, nx_some (s := i) h1 (by omega) (stands_at.mpr h2) fun k hk hk2 => Bool.eq_false_iff.mpr fun h => h3 k hk hk2 (stands_at.mp h)]
theorem empty_cs : Str.ofString "" = Cs [] := by decide +kernel
theorem find_empty {t : List Nat} {p hi : Nat} (hh : hi ≤ t.length) (hp : p ≤ hi) : find4 (Cs t) (Str.ofString "") (p : Int) (hi : Int) = (p : Int) := by
  unfold find4
  rw [from_nat, from_nat, Cs_len, Nat.min_eq_left hh, empty_cs]
  have hat : At (Cs t) (Cs []) hi p := by rw [at_list]; exact ⟨by simpa using hp, by simp⟩
  rcases occ_first_hi (Cs t) (Cs []) p hi with ⟨h0, hn⟩ | ⟨i, r, h0, h1, h2, h3⟩
  · exact absurd hat (hn p (Nat.le_refl _))
  · rw [h0]
    have : i = p := by
      rcases Nat.lt_or_ge p i with h | h
      · exact absurd hat (h3 p (Nat.le_refl _) h)
      · omega
    rw [this]
/-- k words one behind the other, greedily, from p on -/
def emG (P : Nat → Bool) (wd : Nat) : Nat → Nat → Bool
  | 0, _ => true
  | k + 1, p => match nx P 7 p with
    | some s => emG P wd k (s + wd)
    | none => false
theorem emLoop_rep {t wl : List Nat} {hi : Nat} (ht : t.length ≤ 6) (hh : hi ≤ t.length) {tl : List Str} (htl : ∀ p : Nat, p ≤ hi → emLoop (Cs t) (hi : Int) tl (p : Int) = true) :
    ∀ (k p : Nat), p ≤ hi → emLoop (Cs t) (hi : Int) (List.replicate k (Cs wl) ++ tl) (p : Int) = emG (stands t wl hi) wl.length k p
  | 0, p, hp => htl p hp
  | k + 1, p, hp => by
    rw [List.replicate_succ, List.cons_append, emLoop, find_nx ht hh, emG]
    cases hnx : nx (stands t wl hi) 7 p with
    | none => rfl
    | some s =>
      have hs : stands t wl hi s = true := by
        have : ∀ f p, nx (stands t wl hi) f p = some s → stands t wl hi s = true := by
          intro f
          induction f with
          | zero => intro p h; cases h
          | succ f ih =>
            intro p h
            unfold nx at h
            split at h
            · injection h with h; subst h; assumption
            · exact ih _ h
        exact this _ _ hnx
      have h1 := (stands_at.mp hs).1
      rw [Cs_len] at h1
      dsimp only
      rw [if_neg (by omega), Cs_len]
      have := emLoop_rep (wl := wl) ht hh htl k (s + wl.length) h1
      rw [← this]
      norm_cast
theorem em_loose {t wl : List Nat} (ht : t.length ≤ 6) (k : Nat) :
    emLoop (Cs t) ((Cs t).length : Int) (Str.ofString "" :: (List.replicate k (Cs wl) ++ [Str.ofString ""])) 0 = emG (stands t wl t.length) wl.length k 0 := by
  rw [Cs_len, emLoop]
  have h := find_empty (t := t) (p := 0) (Nat.le_refl _) (Nat.zero_le _)
  rw [show ((0 : Nat) : Int) = 0 from rfl] at h
  rw [h, if_neg (by decide)]
  have e : (0 : Int) + ((Str.ofString "").length : Int) = ((0 : Nat) : Int) := by rw [empty_cs, Cs_len]; rfl
  rw [e]
  refine emLoop_rep ht (Nat.le_refl _) (fun p hp => ?_) k 0 (Nat.zero_le _)
  rw [emLoop, find_empty (Nat.le_refl _) hp, if_neg (by omega), emLoop]
theorem pin_em {t wl : List Nat} (ht : t.length ≤ 6) (hw : 1 ≤ wl.length) (k : Nat) :
    pinP (Cs wl) (Cs t) (List.replicate k (Cs wl)) = (stands t wl t.length 0 && (decide (wl.length ≤ t.length) && (stands t wl t.length (t.length - wl.length) && (decide (2 * wl.length ≤ t.length) && emG (stands t wl (t.length - wl.length)) wl.length k wl.length)))) := by
  have e1 : Txt.startswith (Cs t) (Cs wl) = stands t wl t.length 0 := by
    unfold Txt.startswith stands
    rw [Cs_len, Cs_len, subAt_list]
  have e2 : Txt.endswith (Cs t) (Cs wl) = (decide (wl.length ≤ t.length) && stands t wl t.length (t.length - wl.length)) := by
    unfold Txt.endswith stands
    rw [Cs_len, Cs_len, subAt_list, Nat.zero_add]
    by_cases h : wl.length ≤ t.length
    · have h2 : t.length - wl.length + wl.length ≤ t.length := by omega
      simp [h]
    · simp [h]
  unfold pinP
  rw [e1, e2, Cs_len, Cs_len]
  cases stands t wl t.length 0 with
  | false => rfl
  | true =>
    rw [if_pos rfl, Bool.true_and]
    by_cases h : wl.length ≤ t.length
    · rw [decide_eq_true h, Bool.true_and, Bool.true_and]
      cases stands t wl t.length (t.length - wl.length) with
      | false => rfl
      | true =>
        rw [if_pos rfl, Bool.true_and]
        by_cases h2 : 2 * wl.length ≤ t.length
        · rw [if_neg (by omega), decide_eq_true h2, Bool.true_and]
          have e3 : ((t.length : Int) - (wl.length : Int)) = ((t.length - wl.length : Nat) : Int) := by omega
          rw [e3]
          have := emLoop_rep (wl := wl) (hi := t.length - wl.length) (tl := []) ht (by omega) (fun _ _ => rfl) k wl.length (by omega)
          rw [List.append_nil] at this
          exact this
        · rw [if_pos (by omega), decide_eq_false h2, Bool.false_and]
    · rw [decide_eq_false h]; rfl
end Mine

end
section
open PySem PySem.W PyProof.Rows PySem.Calls PySem.Spec
open PySem.StrLaws PySem.Builtin PySem.Builtin.Str
namespace Mine
theorem cs_append (a b : List Nat) : Cs a ++ Cs b = Cs (a ++ b) := by
  show (⟨_⟩ : Str) = _
  simp [Cs]
theorem fold_rep (x : Array Nat) : ∀ (k : Nat) (acc : Array Nat), (List.replicate k x).foldl (· ++ ·) acc = acc ++ ((List.replicate k x.toList).flatten).toArray
  | 0, acc => by simp
  | k + 1, acc => by
    rw [List.replicate_succ, List.foldl_cons, fold_rep x k, List.replicate_succ, List.flatten_cons]
    apply Array.ext'
    simp
theorem mul_cs (x : List Nat) (k : Nat) (hk : 1 ≤ k) (hx : 1 ≤ x.length) : Txt.mul (Cs x) (k : Int) = Cs (List.replicate k x).flatten := by
  unfold Txt.mul
  rw [if_neg (by omega)]
  by_cases h : k = 1
  · subst h; simp
  · have h1 : ((k : Int) == 1) = false := by rw [beq_eq_false_iff_ne]; omega
    have h2 : ((Cs x).length == 0) = false := by rw [Cs_len, beq_eq_false_iff_ne]; omega
    rw [h1, h2, if_neg (by simp), Int.toNat_natCast, fold_rep]
    simp [Cs]
theorem flat_rep (wl : List Nat) : ∀ (k : Nat) (p : List Nat), flat p (List.replicate k wl ++ [[]]) = p ++ DD ++ (List.replicate k (wl ++ DD)).flatten
  | 0, p => by simp [flat]
  | k + 1, p => by
    rw [List.replicate_succ, List.cons_append, flat, flat_rep wl k wl, List.replicate_succ, List.flatten_cons]
theorem loose_flat (wl : List Nat) (k : Nat) (hk : 1 ≤ k) : looseP (Cs wl) (k : Int) = Cs (flat [] (List.replicate k wl ++ [[]])) := by
  unfold looseP
  rw [dots_eq, cs_append wl DD, mul_cs (wl ++ DD) k hk (by simp [DD]), cs_append, flat_rep]
  simp
theorem flat_app (x : List Nat) : ∀ (r : List (List Nat)) (q : List Nat), flat (x ++ q) r = x ++ flat q r
  | [], _ => rfl
  | _ :: _, _ => by simp [flat]
theorem join_fold : ∀ (ps : List (List Nat)) (p : List Nat), (ps.map Cs).foldl (fun acc q => acc ++ (Cs DD).cps ++ q.cps) (Cs p).cps = (Cs (flat p ps)).cps
  | [], _ => rfl
  | q :: r, p => by
    rw [List.map_cons, List.foldl_cons]
    have e : (Cs p).cps ++ (Cs DD).cps ++ (Cs q).cps = (Cs (p ++ DD ++ q)).cps := by simp [Cs]
    rw [e, join_fold r, flat_app, flat]
theorem join_flat (p : List Nat) (ps : List (List Nat)) : Txt.join (Str.ofString "...") (Cs p :: ps.map Cs) = Cs (flat p ps) := by
  rw [dots_eq]
  show (⟨(ps.map Cs).foldl (fun acc q => acc ++ (Cs DD).cps ++ q.cps) (Cs p).cps⟩ : Str) = _
  rw [join_fold]
theorem flat_len (wl : List Nat) : ∀ (k : Nat) (p : List Nat), (flat p (List.replicate k wl)).length = p.length + k * (3 + wl.length)
  | 0, p => by simp [flat]
  | k + 1, p => by
    rw [List.replicate_succ, flat, List.length_append, List.length_append, flat_len wl k wl, Nat.succ_mul]
    simp [DD]; omega
theorem em_fit (w : World) {t wl : List Nat} (ht : t.length ≤ 6) (hw2 : wl.length ≤ 4) (hd : ∀ c ∈ wl, c ≠ 46) (k : Nat) (hk : 1 ≤ k) (hk7 : k ≤ 7) :
    EmIs w (looseP (Cs wl) (k : Int)) (Cs t) (emG (stands t wl t.length) wl.length k 0) := by
  intro ta tb
  have h1 := split_flat [] (List.replicate k wl ++ [[]]) (by simp) (fun _ h => nomatch h) (fun q hq c hc => by
    rcases List.mem_append.mp hq with hq | hq
    · rw [(List.mem_replicate.mp hq).2] at hc; exact hd c hc
    · rw [List.mem_singleton.mp hq] at hc; exact nomatch hc)
  rw [← loose_flat wl k hk] at h1
  rw [← em_loose ht k]
  refine c_em1 w _ _ ta tb (List.replicate k (Cs wl)) ?_ (by rw [Cs_len]; omega) ?_ h1.2 (by rw [List.length_replicate]; omega)
  · exact Nat.le_trans (len_loose (by rw [Cs_len]; omega) (by omega) (by omega)) (by decide)
  · rw [h1.1, List.map_cons, List.map_append, List.map_replicate, List.map_cons, List.map_nil, ← empty_cs]
theorem em_one (w : World) {t wl : List Nat} (hd : ∀ c ∈ wl, c ≠ 46) : EmIs w (Txt.join (Str.ofString "...") (List.replicate 1 (Cs wl))) (Cs t) (decide (wl = t)) := by
  intro ta tb
  have e : Txt.join (Str.ofString "...") (List.replicate 1 (Cs wl)) = Cs wl := rfl
  rw [e, ← Cs_beq]
  exact c_em0 w _ _ ta tb (occ_free wl hd)
theorem em_pin (w : World) {t wl : List Nat} (ht : t.length ≤ 6) (hw : 1 ≤ wl.length) (hw2 : wl.length ≤ 4) (hd : ∀ c ∈ wl, c ≠ 46) (k : Nat) (hk : 2 ≤ k) (hk4 : k ≤ 4) :
    EmIs w (Txt.join (Str.ofString "...") (List.replicate k (Cs wl))) (Cs t) (pinP (Cs wl) (Cs t) (List.replicate (k - 2) (Cs wl))) := by
  intro ta tb
  obtain ⟨j, rfl⟩ : ∃ j, k = j + 1 := ⟨k - 1, by omega⟩
  have hj : List.replicate j wl ≠ [] := by
    intro h
    have := congrArg List.length h
    simp at this
    omega
  have h1 := split_flat wl (List.replicate j wl) hj hd (fun q hq c hc => by rw [(List.mem_replicate.mp hq).2] at hc; exact hd c hc)
  have e : Txt.join (Str.ofString "...") (List.replicate (j + 1) (Cs wl)) = Cs (flat wl (List.replicate j wl)) := by
    rw [List.replicate_succ, ← List.map_replicate (f := Cs), join_flat]
  rw [e]
  have hl : (Cs (flat wl (List.replicate j wl))).length ≤ 1000 := by
    rw [Cs_len, flat_len]
    have : j * (3 + wl.length) ≤ 3 * 7 := Nat.mul_le_mul (by omega) (by omega)
    omega
  have hb : (Cs t).length ≤ 1000 := by rw [Cs_len]; omega
  have hwl : 1 ≤ (Cs wl).length := by rw [Cs_len]; exact hw
  have hs := h1.1
  rw [List.map_cons, List.map_replicate] at hs
  have hj3 : j = 1 ∨ j = 2 ∨ j = 3 := by omega
  rcases hj3 with rfl | rfl | rfl
  · exact c_em2 w _ _ (Cs wl) ta tb [] hl hb hwl hs h1.2 (by decide)
  · exact c_em2 w _ _ (Cs wl) ta tb [Cs wl] hl hb hwl hs h1.2 (by simp)
  · exact c_em2 w _ _ (Cs wl) ta tb [Cs wl, Cs wl] hl hb hwl hs h1.2 (by simp)
end Mine

end
section
open PySem PySem.W PyProof.Rows PySem.Calls PySem.Spec
namespace Mine
def gc (P : Nat → Bool) (wd : Nat) : Nat → Nat → Nat
  | 0, _ => 0
  | f + 1, p => match nx P 7 p with
    | some s => gc P wd f (s + wd) + 1
    | none => 0
theorem emG_gc (P : Nat → Bool) (wd : Nat) : ∀ (k f p : Nat), k ≤ f → emG P wd k p = decide (k ≤ gc P wd f p)
  | 0, _, _, _ => by simp [emG]
  | k + 1, 0, _, h => absurd h (by omega)
  | k + 1, f + 1, p, h => by
    rw [emG, gc]
    cases nx P 7 p with
    | none => simp
    | some s =>
      dsimp only
      rw [emG_gc P wd k f _ (by omega)]
      exact decide_eq_decide.mpr (by omega)
/-- the text with the places of pt painted over -/
def textP (Z : Int) (cs : List Int) (pt : Nat → Bool) : List Nat := (List.range cs.length).map fun p => sgC Z (cs.getD p 0) (pt p)
theorem textP_len (Z : Int) (cs : List Int) (pt : Nat → Bool) : (textP Z cs pt).length = cs.length := by simp [textP]
theorem textP_none (Z : Int) (cs : List Int) : textP Z cs (fun _ => false) = cs.map (loC Z) := by
  apply List.ext_getElem
  · simp [textP]
  · intro i h1 h2
    have hi : i < cs.length := by simpa using h2
    simp only [textP, List.getElem_map, List.getElem_range]
    rw [List.getD_eq_getElem?_getD, List.getElem?_eq_getElem hi]
    rfl
theorem textP_set (Z : Int) (cs : List Int) (pt : Nat → Bool) {x : Nat} (hx : x < cs.length) : textP Z cs (fun p => p == x || pt p) = (textP Z cs pt).set x (sgC Z (cs.getD x 0) true) := by
  apply List.ext_getElem
  · simp [textP]
  · intro i h1 h2
    rw [List.getElem_set]
    by_cases e : x = i
    · subst e; simp [textP]
    · rw [if_neg e]
      have : (i == x) = false := by rw [beq_eq_false_iff_ne]; omega
      simp [textP, this]
theorem letter_fin : ∀ z : Fin 16, ∀ b : Bool, ∀ c d : Fin 2, (((if b = true then (65 : Int) else 97) + ((z.val : Int) + 8 * (c.val : Int)) % 16).toNat = (97 + ((z.val : Int) + 8 * (d.val : Int)) % 16).toNat) ↔ (b = false ∧ c = d) := by decide
theorem letter {Z c d : Int} {b : Bool} (hc : c = 0 ∨ c = 1) (hd : d = 0 ∨ d = 1) : sgC Z c b = loC Z d ↔ b = false ∧ c = d := by
  unfold sgC loC
  rw [Int.fmod_eq_emod_of_nonneg _ (by decide), Int.fmod_eq_emod_of_nonneg _ (by decide), ← Int.emod_add_emod Z, ← Int.emod_add_emod Z]
  obtain ⟨z, hz⟩ : ∃ z : Fin 16, Z % 16 = (z.val : Int) := ⟨⟨(Z % 16).toNat, by omega⟩, by show _ = (((Z % 16).toNat : Nat) : Int); omega⟩
  rw [hz]
  rcases hc with rfl | rfl <;> rcases hd with rfl | rfl
  · exact (letter_fin z b 0 0).trans (by simp)
  · exact (letter_fin z b 0 1).trans (by simp)
  · exact (letter_fin z b 1 0).trans (by simp)
  · exact (letter_fin z b 1 1).trans (by simp)
theorem lo_dot (Z : Int) (mo : List Int) : ∀ c ∈ mo.map (loC Z), c ≠ 46 := by
  intro c hc
  obtain ⟨d, _, rfl⟩ := List.mem_map.mp hc
  unfold loC
  rw [Int.fmod_eq_emod_of_nonneg _ (by decide)]
  omega
theorem stands_take {t wl : List Nat} {e hi : Nat} (hh : hi ≤ e) : stands (t.take e) wl hi = stands t wl hi := by
  funext i
  unfold stands
  by_cases h : i + wl.length ≤ hi
  · have : ((t.take e).drop i).take wl.length = (t.drop i).take wl.length := by
      rw [List.drop_take, List.take_take, Nat.min_eq_left (by omega)]
    rw [this]
  · rw [decide_eq_false h, Bool.false_and, Bool.false_and]
/-- where the motif stands, by the cells' bits and the places painted over -/
def SP (b : List Bool) (wd hi : Nat) (pt : Nat → Bool) (i : Nat) : Bool := decide (i + wd ≤ hi) && (b.getD i false && (List.range wd).all fun q => !pt (i + q))
def bitsOf (mo cs : List Int) : List Bool := (List.range 5).map fun i => decide ((cs.drop i).take mo.length = mo)
theorem bits_at (mo cs : List Int) {i : Nat} (h : i < 5) : (bitsOf mo cs).getD i false = decide ((cs.drop i).take mo.length = mo) := by
  unfold bitsOf
  simp [List.getD_eq_getElem?_getD, h]
theorem stands_text {Z : Int} {mo cs : List Int} {pt : Nat → Bool} {hi : Nat} (hc : ∀ c ∈ cs, c = 0 ∨ c = 1) (hm : ∀ c ∈ mo, c = 0 ∨ c = 1) (hn : cs.length ≤ 6) (hmo : 2 ≤ mo.length) (hh : hi ≤ cs.length) :
    stands (textP Z cs pt) (mo.map (loC Z)) hi = SP (bitsOf mo cs) mo.length hi pt := by
  funext i
  unfold stands SP
  rw [List.length_map]
  by_cases h : i + mo.length ≤ hi
  · rw [decide_eq_true h, Bool.true_and, Bool.true_and, bits_at mo cs (by omega), Bool.eq_iff_iff, Bool.and_eq_true, decide_eq_true_eq, decide_eq_true_eq, List.all_eq_true]
    have hg : ∀ q, q < mo.length → ((textP Z cs pt).drop i)[q]? = some (sgC Z (cs.getD (i + q) 0) (pt (i + q))) := by
      intro q hq
      rw [List.getElem?_drop]
      unfold textP
      rw [List.getElem?_map, List.getElem?_range (by omega)]
      rfl
    have hcq : ∀ q, q < mo.length → (cs.drop i)[q]? = some (cs.getD (i + q) 0) := by
      intro q hq
      rw [List.getElem?_drop, List.getD_eq_getElem?_getD]
      have : i + q < cs.length := by omega
      simp [this]
    have hc01 : ∀ q, q < mo.length → cs.getD (i + q) 0 = 0 ∨ cs.getD (i + q) 0 = 1 := by
      intro q hq
      have : i + q < cs.length := by omega
      rw [List.getD_eq_getElem?_getD, List.getElem?_eq_getElem this]
      exact hc _ (List.getElem_mem this)
    constructor
    · intro e
      have key : ∀ q, (hq : q < mo.length) → pt (i + q) = false ∧ cs.getD (i + q) 0 = mo[q] := by
        intro q hq
        have h1 := congrArg (fun l => l[q]?) e
        try dsimp only at h1
        rw [List.getElem?_take_of_lt hq, hg q hq, List.getElem?_map, List.getElem?_eq_getElem hq] at h1
        have h2 := Option.some.inj h1
        exact (letter (hc01 q hq) (hm _ (List.getElem_mem hq))).mp h2
      refine ⟨?_, fun q hq => ?_⟩
      · apply List.ext_getElem?
        intro q
        by_cases hq : q < mo.length
        · rw [List.getElem?_take_of_lt hq, hcq q hq, List.getElem?_eq_getElem hq, (key q hq).2]
        · rw [List.getElem?_eq_none (by rw [List.length_take]; omega), List.getElem?_eq_none (by omega)]
      · rw [(key q (List.mem_range.mp hq)).1]; rfl
    · rintro ⟨e, hp⟩
      apply List.ext_getElem?
      intro q
      by_cases hq : q < mo.length
      · have h1 := congrArg (fun l => l[q]?) e
        try dsimp only at h1
        rw [List.getElem?_take_of_lt hq, hcq q hq, List.getElem?_eq_getElem hq] at h1
        have h2 := Option.some.inj h1
        have h3 := hp q (List.mem_range.mpr hq)
        rw [List.getElem?_take_of_lt hq, hg q hq, List.getElem?_map, List.getElem?_eq_getElem hq]
        refine congrArg some ?_
        refine (letter (hc01 q hq) (hm _ (List.getElem_mem hq))).mpr ⟨by simpa using h3, h2⟩
      · rw [List.getElem?_eq_none (by rw [List.length_take]; omega), List.getElem?_eq_none (by rw [List.length_map]; omega)]
  · rw [decide_eq_false h, Bool.false_and, Bool.false_and]
def spB (b : List Bool) (wd e : Nat) : List Int := (rangeKs 0 ((e : Int) - (wd : Int) + 1).toNat).filter fun k => b.getD k.toNat false
def strB (b : List Bool) (wd e : Nat) : List Int := (spB b wd e).map fun k => (2 ^ wd - 1) * 2 ^ k.toNat
theorem spots_B {mo cs : List Int} {e : Nat} (hmo : 2 ≤ mo.length) (he : e ≤ 6) : spotsF mo cs e = spB (bitsOf mo cs) mo.length e := by
  unfold spotsF spB
  refine List.filter_congr fun k hk => ?_
  have := mem_rangeKs hk
  rw [bits_at mo cs (by omega)]
theorem str_B {mo cs : List Int} {e : Nat} (hmo : 2 ≤ mo.length) (he : e ≤ 6) : strF mo cs e = strB (bitsOf mo cs) mo.length e := by
  unfold strF strB
  rw [spots_B hmo he]
/-- how many words fit in the front of e places -/
def FwB (b : List Bool) (wd e : Nat) : Nat := gc (SP b wd e fun _ => false) wd 7 0
def EB (b : List Bool) (wd n k : Nat) : Nat := ((List.range (n + 1)).filter fun e => decide (FwB b wd e < k)).length
/-- the places painted over behind j turns -/
def LB (b : List Bool) (wd n : Nat) : Nat → List Nat
  | 0 => []
  | j + 1 => (EB b wd n (1 + j) - 1) :: LB b wd n j
def chkFew (b : List Bool) (wd e : Nat) : Bool := (allHit (strB b wd e) e).contains (FwB b wd e : Int) && (allHit (strB b wd e) e).all fun a => decide ((FwB b wd e : Int) ≤ a)
def chkPin (b : List Bool) (wd e k : Nat) : Bool :=
  (SP b wd e (fun _ => false) 0 && (decide (wd ≤ e) && (SP b wd e (fun _ => false) (e - wd) && (decide (2 * wd ≤ e) && emG (SP b wd (e - wd) fun _ => false) wd (k - 2) wd)))) == (decide ((0 : Int) ∈ spB b wd e) && (decide (((e : Int) - (wd : Int)) ∈ spB b wd e) && decide (k ≤ FwB b wd e)))
def chkTurn (b : List Bool) (wd n j : Nat) : Bool :=
  decide (1 ≤ EB b wd n (1 + j)) && decide (EB b wd n (1 + j) ≤ n) && !(LB b wd n j).contains (EB b wd n (1 + j) - 1) && (gc (SP b wd n fun p => (LB b wd n (j + 1)).contains p) wd 7 0 == FwB b wd n - (1 + j)) &&
  (List.range (n + 1)).all fun i => decide (1 + j ≤ FwB b wd i) == decide (EB b wd n (1 + j) ≤ i)
def chkAll (b : List Bool) (wd n : Nat) : Bool :=
  decide (FwB b wd n ≤ 3) && ((List.range (n + 1)).all fun e => (List.range (e / wd + 2)).all fun k => decide (k < 2) || chkPin b wd e k) && (List.range (FwB b wd n)).all fun j => chkTurn b wd n j
theorem few_ok : ∀ b0 b1 b2 b3 b4 : Bool, ∀ wd : Fin 3, ∀ e : Fin 7, chkFew [b0, b1, b2, b3, b4] (wd.val + 2) e.val = true := by decide +kernel
theorem all_ok : ∀ b0 b1 b2 b3 b4 : Bool, ∀ wd : Fin 3, ∀ n : Fin 2, chkAll [b0, b1, b2, b3, b4] (wd.val + 2) (n.val + 5) = true := by decide +kernel
end Mine

end
section
open PySem PySem.W PyProof.Rows PySem.Calls PySem.Spec
namespace Mine
def code (l : Nat) (b : Bool) : Nat := (if b = true then 65 else 97) + l
def bI (b : Bool) : Int := if b = true then 1 else 0
def chkSub (l l' : Nat) (b b' : Bool) : Bool :=
  let c := subCost (Cs [code l b]) (Cs [code l' b'])
  decide (bI b - bI b' ≤ c) && decide (bI b' - bI b ≤ c) && (decide (l ≠ l') || decide (c = if b = b' then 0 else 1))
theorem sub_ok : ∀ l l' : Fin 16, ∀ b b' : Bool, chkSub l.val l'.val b b' = true := by decide +kernel
/-- the sum of the first values -/
def S (f : Nat → Int) : Nat → Int
  | 0 => 0
  | i + 1 => S f i + f i
theorem S_zero {f : Nat → Int} : ∀ {n : Nat}, (∀ i, i < n → f i = 0) → S f n = 0
  | 0, _ => rfl
  | n + 1, h => by rw [S, S_zero fun i hi => h i (by omega), h n (by omega)]; rfl
theorem S_add (f : Nat → Int) (lo : Nat) : ∀ m, S f (lo + m) = S f lo + S (fun t => f (lo + t)) m
  | 0 => by simp [S]
  | m + 1 => by
    rw [← Nat.add_assoc, S, S_add f lo m, S]; omega
theorem S_congr {f g : Nat → Int} : ∀ {n : Nat}, (∀ i, i < n → f i = g i) → S f n = S g n
  | 0, _ => rfl
  | n + 1, h => by rw [S, S, S_congr fun i hi => h i (by omega), h n (by omega)]
theorem S_sub (f g : Nat → Int) : ∀ n, S (fun t => f t - g t) n = S f n - S g n
  | 0 => rfl
  | n + 1 => by rw [S, S, S, S_sub f g n]; omega
theorem S_bnd {f : Nat → Int} : ∀ {n : Nat}, (∀ i, i < n → 0 ≤ f i ∧ f i ≤ 1) → 0 ≤ S f n ∧ S f n ≤ (n : Int)
  | 0, _ => ⟨Int.le_refl _, Int.le_refl _⟩
  | n + 1, h => by
    have h1 := S_bnd (f := f) (n := n) fun i hi => h i (by omega)
    have h2 := h n (by omega)
    rw [S]; omega
theorem le_min3 {x a b c : Int} (h1 : x ≤ a + 2) (h2 : x ≤ b + 2) (h3 : x ≤ c) : x ≤ min (min a b + 2) c := by omega
theorem lev_low {σ : Nat → Nat → Int} {fa fb : Nat → Int} {m : Nat} (ha : ∀ i, i < m → 0 ≤ fa i ∧ fa i ≤ 1) (hb : ∀ i, i < m → 0 ≤ fb i ∧ fb i ≤ 1)
    (hσ : ∀ i j, i < m → j < m → fb i - fa j ≤ σ i j ∧ fa j - fb i ≤ σ i j) : ∀ (i : Nat), i ≤ m → ∀ j, j < m → S fb i - S fa (j + 1) ≤ levR σ i j ∧ S fa (j + 1) - S fb i ≤ levR σ i j := by
  intro i
  induction i with
  | zero =>
    intro _ j hj
    have h1 := S_bnd (f := fa) (n := j + 1) fun i hi => ha i (by omega)
    show _ ≤ 2 * ((j : Int) + 1) ∧ _ ≤ 2 * ((j : Int) + 1)
    simp only [S] at *
    omega
  | succ i ih =>
    intro hi j
    have hbi := S_bnd (f := fb) (n := i) fun k hk => hb k (by omega)
    have hb1 := hb i (by omega)
    have e1 : S fb (i + 1) = S fb i + fb i := rfl
    induction j with
    | zero =>
      intro hj
      have h1 := ih (by omega) 0 hj
      have h2 := hσ i 0 (by omega) hj
      have h3 := ha 0 hj
      have e2 : S fa 1 = 0 + fa 0 := rfl
      have e3 : levR σ (i + 1) 0 = min (min (2 * (i : Int)) (levR σ i 0) + 2) (2 * (i : Int) + σ i 0) := rfl
      rw [e3]
      simp only [Nat.zero_add] at *
      exact ⟨le_min3 (by omega) (by omega) (by omega), le_min3 (by omega) (by omega) (by omega)⟩
    | succ j jh =>
      intro hj
      have h1 := ih (by omega) (j + 1) hj
      have h4 := ih (by omega) j (by omega)
      have h5 := jh (by omega)
      have h2 := hσ i (j + 1) (by omega) hj
      have h3 := ha (j + 1) hj
      have e2 : S fa (j + 1 + 1) = S fa (j + 1) + fa (j + 1) := rfl
      have e3 : levR σ (i + 1) (j + 1) = min (min (levR σ (i + 1) j) (levR σ i (j + 1)) + 2) (levR σ i j + σ i (j + 1)) := rfl
      rw [e3]
      exact ⟨le_min3 (by omega) (by omega) (by omega), le_min3 (by omega) (by omega) (by omega)⟩
theorem lev_up {σ : Nat → Nat → Int} : ∀ i, levR σ (i + 1) i ≤ S (fun t => σ t t) (i + 1)
  | 0 => by
    have e3 : levR σ (0 + 1) 0 = min (min (2 * ((0 : Nat) : Int)) (levR σ 0 0) + 2) (2 * ((0 : Nat) : Int) + σ 0 0) := rfl
    rw [e3]
    simp only [S]
    omega
  | i + 1 => by
    have h := lev_up (σ := σ) i
    have e3 : levR σ (i + 1 + 1) (i + 1) = min (min (levR σ (i + 1 + 1) i) (levR σ (i + 1) (i + 1)) + 2) (levR σ (i + 1) i + σ (i + 1) (i + 1)) := rfl
    rw [e3]
    have e1 : S (fun t => σ t t) (i + 1 + 1) = S (fun t => σ t t) (i + 1) + σ (i + 1) (i + 1) := rfl
    omega
theorem first_of (d : Nat → Bool) : ∀ n, (∃ i, i < n ∧ d i = true) → ∃ lo, lo < n ∧ d lo = true ∧ ∀ i, i < lo → d i = false
  | 0, ⟨_, h, _⟩ => absurd h (Nat.not_lt_zero _)
  | n + 1, ⟨i, hi, hd⟩ => by
    by_cases h : ∃ i, i < n ∧ d i = true
    · obtain ⟨lo, h1, h2⟩ := first_of d n h
      exact ⟨lo, by omega, h2⟩
    · have e : i = n := by
        rcases Nat.lt_or_ge i n with h1 | h1
        · exact absurd ⟨i, h1, hd⟩ h
        · omega
      subst e
      refine ⟨i, by omega, hd, fun k hk => Bool.eq_false_iff.mpr fun hk2 => h ⟨k, hk, hk2⟩⟩
theorem last_of (d : Nat → Bool) : ∀ n, (∃ i, i < n ∧ d i = true) → ∃ hi, hi < n ∧ d hi = true ∧ ∀ i, hi < i → i < n → d i = false
  | 0, ⟨_, h, _⟩ => absurd h (Nat.not_lt_zero _)
  | n + 1, ⟨i, hi, hd⟩ => by
    by_cases h : d n = true
    · exact ⟨n, by omega, h, fun k h1 h2 => by omega⟩
    · have : i ≠ n := fun e => h (e ▸ hd)
      obtain ⟨z, h1, h2, h3⟩ := last_of d n ⟨i, by omega, hd⟩
      refine ⟨z, by omega, h2, fun k hk hk2 => ?_⟩
      rcases Nat.lt_or_ge k n with h4 | h4
      · exact h3 k hk h4
      · have : k = n := by omega
        rw [this]; exact Bool.eq_false_iff.mpr h
end Mine

end
section
open PySem PySem.W PyProof.Rows PySem.Calls PySem.Spec
namespace Mine
def ltr (Z c : Int) : Nat := ((Z + 8 * c).fmod 16).toNat
theorem ltr_lt (Z c : Int) : ltr Z c < 16 := by
  unfold ltr
  have h1 := Int.fmod_lt_of_pos (Z + 8 * c) (b := 16) (by decide)
  have h2 := Int.fmod_nonneg_of_pos (Z + 8 * c) (b := 16) (by decide)
  omega
theorem sgC_code (Z c : Int) (b : Bool) : sgC Z c b = code (ltr Z c) b := by
  unfold sgC code ltr
  have h2 := Int.fmod_nonneg_of_pos (Z + 8 * c) (b := 16) (by decide)
  cases b
  · simp only [Bool.false_eq_true, if_false]; exact Int.toNat_add (by decide) h2
  · simp only [if_true]; exact Int.toNat_add (by decide) h2
theorem code_at (Z : Int) (cs : List Int) (pt : Nat → Bool) {p : Nat} (hp : p < cs.length) : (textP Z cs pt)[p]'(by rw [textP_len]; exact hp) = code (ltr Z (cs.getD p 0)) (pt p) := by
  simp only [textP, List.getElem_map, List.getElem_range]
  exact sgC_code _ _ _
theorem win_at (Z : Int) (cs : List Int) (pt : Nat → Bool) {lo m j : Nat} (hm : lo + m ≤ cs.length) (hj : j < m) : (((textP Z cs pt).drop lo).take m).getD j 0 = code (ltr Z (cs.getD (lo + j) 0)) (pt (lo + j)) := by
  rw [List.getD_eq_getElem?_getD, List.getElem?_take_of_lt hj, List.getElem?_drop, List.getElem?_eq_getElem (by rw [textP_len]; omega)]
  exact code_at Z cs pt (by omega)
theorem code_ne {l : Nat} {b b' : Bool} (h : b ≠ b') : code l b ≠ code l b' := by
  unfold code
  cases b <;> cases b' <;> simp at h ⊢ <;> omega
theorem S_mono {f : Nat → Int} {m : Nat} (h : ∀ i, i < m → 0 ≤ f i) : ∀ {a : Nat}, a ≤ m → S f a ≤ S f m := by
  induction m with
  | zero => intro a ha; have : a = 0 := by omega
            rw [this]; exact Int.le_refl _
  | succ m ih =>
    intro a ha
    rcases Nat.lt_or_ge a (m + 1) with h1 | h1
    · have h2 := ih (fun i hi => h i (by omega)) (a := a) (by omega)
      have h3 := h m (by omega)
      rw [S]; omega
    · have : a = m + 1 := by omega
      rw [this]; exact Int.le_refl _
/-- how many places two paintings part at -/
def dI (pa pb : Nat → Bool) (t : Nat) : Int := if pa t = pb t then 0 else 1
theorem price_ok (w : World) (Z : Int) (cs : List Int) (hn6 : cs.length ≤ 6) (pa pb : Nat → Bool) (hsub : (∀ p, p < cs.length → pa p = true → pb p = true) ∨ (∀ p, p < cs.length → pb p = true → pa p = true)) (mc : Int) (hr : S (dI pa pb) cs.length ≤ mc) :
    ∀ ta tb tc, Ctr w 480 700 (call (.ref 58) [.str (Cs (textP Z cs pa)) ta, .str (Cs (textP Z cs pb)) tb, .int mc tc]) Any (RInt (S (dI pa pb) cs.length)) := by
  intro ta tb tc
  have hmc0 : 0 ≤ mc := Int.le_trans (S_bnd (f := dI pa pb) (n := cs.length) fun i _ => by unfold dI; split <;> decide).1 hr
  by_cases hd : ∃ i, i < cs.length ∧ (fun p => pa p != pb p) i = true
  · obtain ⟨lo, l1, l2, l3⟩ := first_of _ _ hd
    obtain ⟨hh, h1, h2, h3⟩ := last_of _ _ hd
    have hle : lo ≤ hh := by
      rcases Nat.lt_or_ge hh lo with h | h
      · have := h3 lo h l1; rw [l2] at this; exact absurd this (by decide)
      · exact h
    have hz : ∀ p, p < cs.length → (pa p != pb p) = false → pa p = pb p := fun p _ h => by simpa using h
    obtain ⟨m, rfl⟩ : ∃ m, hh = lo + m := ⟨hh - lo, (Nat.add_sub_cancel' hle).symm⟩
    have hm : lo + m + 1 - lo = m + 1 := by rw [Nat.add_assoc, Nat.add_sub_cancel_left]
    have hlm : lo + (m + 1) ≤ cs.length := h1
    clear hd hle
    generalize hσd : levSub (((textP Z cs pa).drop lo).take (m + 1)) (((textP Z cs pb).drop lo).take (m + 1)) = σ
    have hchk : ∀ i j, i < m + 1 → j < m + 1 → chkSub (ltr Z (cs.getD (lo + i) 0)) (ltr Z (cs.getD (lo + j) 0)) (pb (lo + i)) (pa (lo + j)) = true ∧ σ i j = subCost (Cs [code (ltr Z (cs.getD (lo + i) 0)) (pb (lo + i))]) (Cs [code (ltr Z (cs.getD (lo + j) 0)) (pa (lo + j))]) := by
      intro i j hi hj
      refine ⟨sub_ok ⟨_, ltr_lt _ _⟩ ⟨_, ltr_lt _ _⟩ _ _, ?_⟩
      rw [← hσd]
      unfold levSub
      rw [win_at Z cs pb hlm hi, win_at Z cs pa hlm hj]
    have hσ : ∀ i j, i < m + 1 → j < m + 1 → bI (pb (lo + i)) - bI (pa (lo + j)) ≤ σ i j ∧ bI (pa (lo + j)) - bI (pb (lo + i)) ≤ σ i j := by
      intro i j hi hj
      obtain ⟨c1, c2⟩ := hchk i j hi hj
      unfold chkSub at c1
      simp only [Bool.and_eq_true, decide_eq_true_eq] at c1
      rw [c2]; exact ⟨c1.1.1, c1.1.2⟩
    have hdiag : ∀ t, t < m + 1 → σ t t = dI pa pb (lo + t) := by
      intro t ht
      obtain ⟨c1, c2⟩ := hchk t t ht ht
      unfold chkSub at c1
      simp only [Bool.and_eq_true, decide_eq_true_eq, Bool.or_eq_true, ne_eq, not_true_eq_false, false_or] at c1
      rw [c2, c1.2]
      unfold dI
      by_cases e : pa (lo + t) = pb (lo + t)
      · rw [if_pos e, if_pos e.symm]
      · rw [if_neg e, if_neg fun h => e h.symm]
    have hbI : ∀ b : Bool, 0 ≤ bI b ∧ bI b ≤ 1 := by decide
    have hS : S (dI pa pb) cs.length = S (fun t => dI pa pb (lo + t)) (m + 1) := by
      have e1 : cs.length = lo + (m + 1) + (cs.length - (lo + (m + 1))) := (Nat.add_sub_cancel' hlm).symm
      rw [e1, S_add, S_add, S_zero (f := dI pa pb) (n := lo) fun i hi => by
        unfold dI; rw [if_pos (hz i (by omega) (l3 i hi))], S_zero (n := cs.length - (lo + (m + 1))) fun i hi => by
        unfold dI; rw [if_pos (hz _ (by omega) (h3 _ (by omega) (by omega)))]]
      omega
    have hup : ∀ i, i < m + 1 → levR σ (i + 1) i ≤ S (dI pa pb) cs.length := by
      intro i hi
      refine Int.le_trans (lev_up i) ?_
      rw [S_congr (g := fun t => dI pa pb (lo + t)) fun t ht => hdiag t (by omega), hS]
      exact S_mono (fun t _ => by show 0 ≤ dI pa pb (lo + t); unfold dI; split <;> decide) (by omega)
    have hout : levR σ (m + 1) m = S (dI pa pb) cs.length := by
      have hlow := lev_low (σ := σ) (fa := fun t => bI (pa (lo + t))) (fb := fun t => bI (pb (lo + t))) (m := m + 1) (fun i _ => hbI _) (fun i _ => hbI _) hσ (m + 1) (Nat.le_refl _) m (Nat.lt_succ_self _)
      have hu := hup m (Nat.lt_succ_self _)
      rw [← S_sub, ← S_sub] at hlow
      have : S (dI pa pb) cs.length ≤ levR σ (m + 1) m := by
        rw [hS]
        rcases hsub with hs | hs
        · rw [S_congr (g := fun t => bI (pb (lo + t)) - bI (pa (lo + t))) fun t ht => ?_]
          · exact hlow.1
          · have := hs (lo + t) (by omega)
            unfold dI bI
            cases hpa : pa (lo + t) <;> cases hpb : pb (lo + t) <;> simp_all
        · rw [S_congr (g := fun t => bI (pa (lo + t)) - bI (pb (lo + t))) fun t ht => ?_]
          · exact hlow.2
          · have := hs (lo + t) (by omega)
            unfold dI bI
            cases hpa : pa (lo + t) <;> cases hpb : pb (lo + t) <;> simp_all
      omega
    have hla : (textP Z cs pa).length = cs.length := textP_len _ _ _
    have hlb : (textP Z cs pb).length = cs.length := textP_len _ _ _
    have c := c_lev w (textP Z cs pa) (textP Z cs pb) ta tb tc mc hmc0 lo (lo + m + 1) (by rw [hla, hlb]) (by omega) (by omega) (by omega)
      (fun i h hi => by rw [code_at Z cs pa (by omega), code_at Z cs pb (by omega), hz i (by omega) (l3 i hi)])
      (fun i h hi => by rw [code_at Z cs pa (by omega), code_at Z cs pb (by omega), hz i (by omega) (h3 i (by omega) (by omega))])
      (fun h => by rw [code_at Z cs pa (by omega), code_at Z cs pb (by omega)]; exact code_ne (by simpa using l2))
      (fun h => by
        rw [code_at Z cs pa (by omega), code_at Z cs pb (by omega)]
        exact code_ne (by simpa using h2))
      (by rw [hm, hσd]; exact fun i hi => Int.le_trans (hup i hi) hr)
    rw [hm, hσd] at c
    have e9 : levOut σ (m + 1) (m + 1) = S (dI pa pb) cs.length := hout
    rw [e9] at c
    exact c
  · have he : textP Z cs pa = textP Z cs pb := by
      unfold textP
      refine List.map_congr_left fun p hp => ?_
      have : pa p = pb p := by
        have h := fun h => hd ⟨p, List.mem_range.mp hp, h⟩
        simpa using h
      rw [this]
    have h0 : S (dI pa pb) cs.length = 0 := S_zero fun i hi => by
      have : pa i = pb i := by
        have h := fun h => hd ⟨i, hi, h⟩
        simpa using h
      unfold dI; rw [if_pos this]
    rw [he, h0]
    exact c_lev0 w _ ta tb tc mc
end Mine

end
section
open PySem PySem.W PyProof.Rows PySem.Calls PySem.Spec
namespace Mine
theorem few_b (f : Nat → Bool) {wd e : Nat} (h2 : 2 ≤ wd) (h4 : wd ≤ 4) (he : e ≤ 6) : chkFew ((List.range 5).map f) wd e = true := by
  have h := few_ok (f 0) (f 1) (f 2) (f 3) (f 4) ⟨wd - 2, by omega⟩ ⟨e, by omega⟩
  dsimp only at h
  rw [show wd - 2 + 2 = wd by omega] at h
  exact h
theorem all_b (f : Nat → Bool) {wd n : Nat} (h2 : 2 ≤ wd) (h4 : wd ≤ 4) (hn5 : 5 ≤ n) (hn6 : n ≤ 6) : chkAll ((List.range 5).map f) wd n = true := by
  have h := all_ok (f 0) (f 1) (f 2) (f 3) (f 4) ⟨wd - 2, by omega⟩ ⟨n - 5, by omega⟩
  dsimp only at h
  rw [show wd - 2 + 2 = wd by omega, show n - 5 + 5 = n by omega] at h
  exact h
theorem few_spec {b : List Bool} {wd e : Nat} (h : chkFew b wd e = true) : 0 < (allHit (strB b wd e) e).length ∧ ∀ M, M ∈ allHit (strB b wd e) e → (∀ a ∈ allHit (strB b wd e) e, M ≤ a) → M = (FwB b wd e : Int) := by
  unfold chkFew at h
  simp only [Bool.and_eq_true, List.contains_iff_mem, List.all_eq_true, decide_eq_true_eq] at h
  refine ⟨List.length_pos_of_mem h.1, fun M hM hle => Int.le_antisymm (hle _ h.1) (h.2 _ hM)⟩
section
variable {Z : Int} {mo cs : List Int} (hc : ∀ c ∈ cs, c = 0 ∨ c = 1) (hm : ∀ c ∈ mo, c = 0 ∨ c = 1) (hcs : 5 ≤ cs.length ∧ cs.length ≤ 6) (hmo : 2 ≤ mo.length ∧ mo.length ≤ 4)
include hcs hmo
theorem few_all : FewOk mo cs (FwB (bitsOf mo cs) mo.length) := by
  intro e he
  rw [str_B hmo.1 (by omega)]
  exact few_spec (few_b _ hmo.1 hmo.2 (by omega))
include hc hm
theorem em_gen (w : World) (pt : Nat → Bool) {e k : Nat} (he : e ≤ cs.length) (hk : 1 ≤ k) (hk7 : k ≤ 7) : EmIs w (looseP (textOf Z mo) (k : Int)) (Cs ((textP Z cs pt).take e)) (decide (k ≤ gc (SP (bitsOf mo cs) mo.length e pt) mo.length 7 0)) := by
  have hl : ((textP Z cs pt).take e).length = e := by rw [List.length_take, textP_len]; omega
  have h := em_fit w (t := (textP Z cs pt).take e) (wl := mo.map (loC Z)) (by omega) (by rw [List.length_map]; omega) (lo_dot Z mo) k hk hk7
  rw [hl, stands_take (Nat.le_refl _), stands_text hc hm hcs.2 hmo.1 he, emG_gc _ _ k 7 0 hk7, List.length_map] at h
  exact h
theorem em_full (w : World) (pt : Nat → Bool) {j : Nat} (hj : j < cs.length + 1) : EmIs w (looseP (textOf Z mo) (1 + (j : Int))) (Cs (textP Z cs pt)) (decide (j < gc (SP (bitsOf mo cs) mo.length cs.length pt) mo.length 7 0)) := by
  have h := em_gen hc hm hcs hmo (Z := Z) w pt (e := cs.length) (k := 1 + j) (Nat.le_refl _) (by omega) (by omega)
  rw [List.take_of_length_le (by rw [textP_len]; exact Nat.le_refl _), show (((1 + j : Nat) : Nat) : Int) = 1 + (j : Int) by omega, show decide (1 + j ≤ gc (SP (bitsOf mo cs) mo.length cs.length pt) mo.length 7 0) = decide (j < gc (SP (bitsOf mo cs) mo.length cs.length pt) mo.length 7 0) from decide_eq_decide.mpr (by omega)] at h
  exact h
theorem text_none : textOf Z cs = Cs (textP Z cs fun _ => false) := by rw [textP_none]
theorem slice_e {e : Nat} (he : e ≤ cs.length) : Txt.slice (textOf Z cs) none (some (e : Int)) = Cs ((textP Z cs fun _ => false).take e) := by
  rw [textP_none]
  exact slice_to (by rw [List.length_map]; exact he)
theorem div_le {e : Nat} (he : e ≤ cs.length) : e / mo.length ≤ 3 := Nat.le_trans (Nat.div_le_div_left hmo.1 (by decide)) (by omega)
theorem fit_all (w : World) : ∀ e k : Nat, e ≤ cs.length → 1 ≤ k → k ≤ e / mo.length + 1 → EmIs w (looseP (textOf Z mo) (k : Int)) (Txt.slice (textOf Z cs) none (some (e : Int))) (decide (k ≤ FwB (bitsOf mo cs) mo.length e)) := by
  intro e k he hk hk2
  have := div_le hc hm hcs hmo he
  rw [slice_e hc hm hcs hmo he]
  exact em_gen hc hm hcs hmo w _ he hk (by omega)
theorem map_inj : ∀ {a b : List Int}, (∀ c ∈ a, c = 0 ∨ c = 1) → (∀ c ∈ b, c = 0 ∨ c = 1) → (a.map (loC Z) = b.map (loC Z) ↔ a = b)
  | [], [], _, _ => by simp
  | [], _ :: _, _, _ => by simp
  | _ :: _, [], _, _ => by simp
  | x :: a, y :: b, ha, hb => by
    rw [List.map_cons, List.map_cons, List.cons.injEq, List.cons.injEq, map_inj (fun c h => ha c (.tail _ h)) fun c h => hb c (.tail _ h)]
    have := letter (Z := Z) (b := false) (ha x (.head _)) (hb y (.head _))
    have e : loC Z x = sgC Z x false := rfl
    rw [e, this]
    simp
theorem pin_all (w : World) : ∀ e k : Nat, e ≤ cs.length → 1 ≤ k → k ≤ e / mo.length + 1 → EmIs w (Txt.join (Str.ofString "...") (List.replicate k (textOf Z mo))) (Txt.slice (textOf Z cs) none (some (e : Int))) (pinR mo cs (FwB (bitsOf mo cs) mo.length) e k) := by
  intro e k he hk hk2
  have h3 := div_le hc hm hcs hmo he
  rw [slice_e hc hm hcs hmo he]
  have hl : ((textP Z cs fun _ => false).take e).length = e := by rw [List.length_take, textP_len]; omega
  by_cases h1 : k = 1
  · subst h1
    have h := em_one w (t := (textP Z cs fun _ => false).take e) (wl := mo.map (loC Z)) (lo_dot Z mo)
    have e1 : decide (mo.map (loC Z) = (textP Z cs fun _ => false).take e) = pinR mo cs (FwB (bitsOf mo cs) mo.length) e 1 := by
      unfold pinR
      rw [if_pos rfl, textP_none, ← List.map_take]
      refine decide_eq_decide.mpr ?_
      rw [map_inj hc hm hcs hmo hm fun c h => hc c (List.mem_of_mem_take h)]
      exact eq_comm
    rw [e1] at h
    exact h
  · have h := em_pin w (t := (textP Z cs fun _ => false).take e) (wl := mo.map (loC Z)) (by omega) (by rw [List.length_map]; omega) (by rw [List.length_map]; omega) (lo_dot Z mo) k (by omega) (by omega)
    rw [pin_em (by omega) (by rw [List.length_map]; omega), hl, List.length_map, stands_take (Nat.le_refl _), stands_take (Nat.sub_le _ _), stands_text hc hm hcs.2 hmo.1 he, stands_text hc hm hcs.2 hmo.1 (by omega)] at h
    have ha := all_b (fun i => decide ((cs.drop i).take mo.length = mo)) hmo.1 hmo.2 hcs.1 hcs.2
    unfold chkAll at ha
    simp only [Bool.and_eq_true, List.all_eq_true, List.mem_range, decide_eq_true_eq, Bool.or_eq_true] at ha
    have hp := (ha.1.2 e (by omega) k (by omega)).resolve_left (by omega)
    unfold chkPin at hp
    have hp2 := eq_of_beq hp
    have e2 : (List.range 5).map (fun i => decide ((cs.drop i).take mo.length = mo)) = bitsOf mo cs := rfl
    rw [e2] at hp2
    rw [hp2] at h
    have e3 : pinR mo cs (FwB (bitsOf mo cs) mo.length) e k = (decide ((0 : Int) ∈ spB (bitsOf mo cs) mo.length e) && (decide (((e : Int) - (mo.length : Int)) ∈ spB (bitsOf mo cs) mo.length e) && decide (k ≤ FwB (bitsOf mo cs) mo.length e))) := by
      unfold pinR
      rw [if_neg h1, spots_B hmo.1 (by omega)]
    rw [e3]
    exact h
end
end Mine

end
section
open PySem PySem.W PyProof.Rows PySem.Calls PySem.Spec
namespace Mine
def chkCount (b : List Bool) (wd n j : Nat) : Bool :=
  decide (S (dI (fun _ => false) fun p => (LB b wd n (j + 1)).contains p) n = 1 + (j : Int)) && decide (S (dI (fun p => (LB b wd n (j + 1)).contains p) fun p => (LB b wd n j).contains p) n = 1)
theorem count_ok : ∀ b0 b1 b2 b3 b4 : Bool, ∀ wd : Fin 3, ∀ n : Fin 2, ((List.range (FwB [b0, b1, b2, b3, b4] (wd.val + 2) (n.val + 5))).all fun j => chkCount [b0, b1, b2, b3, b4] (wd.val + 2) (n.val + 5) j) = true := by decide +kernel
theorem count_b (f : Nat → Bool) {wd n : Nat} (h2 : 2 ≤ wd) (h4 : wd ≤ 4) (hn5 : 5 ≤ n) (hn6 : n ≤ 6) : ((List.range (FwB ((List.range 5).map f) wd n)).all fun j => chkCount ((List.range 5).map f) wd n j) = true := by
  have h := count_ok (f 0) (f 1) (f 2) (f 3) (f 4) ⟨wd - 2, by omega⟩ ⟨n - 5, by omega⟩
  dsimp only at h
  rw [show wd - 2 + 2 = wd by omega, show n - 5 + 5 = n by omega] at h
  exact h
def chkBit (wd k : Nat) (D : Int) : Bool := (Builtin.bitAnd ((2 ^ wd - 1) * 2 ^ k) D == 0) == (List.range wd).all fun q => !drB D ((k + q : Nat) : Int)
theorem bit_ok : ∀ wd : Fin 3, ∀ k : Fin 5, ∀ D : Fin 64, chkBit (wd.val + 2) k.val ((D.val : Nat) : Int) = true := by decide +kernel
theorem bit_b {wd k : Nat} {D : Int} (h2 : 2 ≤ wd) (h4 : wd ≤ 4) (hk : k ≤ 4) (hD0 : 0 ≤ D) (hD : D < 64) : (Builtin.bitAnd ((2 ^ wd - 1) * 2 ^ k) D == 0) = (List.range wd).all fun q => !drB D ((k + q : Nat) : Int) := by
  have h := bit_ok ⟨wd - 2, by omega⟩ ⟨k, by omega⟩ ⟨D.toNat, by omega⟩
  dsimp only at h
  rw [show wd - 2 + 2 = wd by omega, Int.toNat_of_nonneg hD0] at h
  exact eq_of_beq h
theorem cells_of (f : Nat → Int) (L : List Nat) : ((L.map f).filter fun c => c = c) = L.map f := by
  induction L with
  | nil => rfl
  | cons a r ih => simp
theorem sum_S (f : Int → Int) : ∀ n : Nat, ((rangeKs 0 n).map f).sum = S (fun t => f (t : Int)) n
  | 0 => rfl
  | n + 1 => by
    have ih := sum_S f n
    unfold rangeKs at ih ⊢
    rw [List.range_succ, List.map_append, List.map_append, List.sum_append, ih, S]
    simp
section
variable {Z : Int} {mo cs : List Int} (hc : ∀ c ∈ cs, c = 0 ∨ c = 1) (hm : ∀ c ∈ mo, c = 0 ∨ c = 1) (hcs : 5 ≤ cs.length ∧ cs.length ≤ 6) (hmo : 2 ≤ mo.length ∧ mo.length ≤ 4)
include hcs hmo
theorem fw_le : FwB (bitsOf mo cs) mo.length cs.length ≤ 3 := by
  have ha := all_b (fun i => decide ((cs.drop i).take mo.length = mo)) hmo.1 hmo.2 hcs.1 hcs.2
  unfold chkAll at ha
  simp only [Bool.and_eq_true, decide_eq_true_eq] at ha
  exact ha.1.1
include hc hm
theorem paint_all (w : World) : PaintOk w Z mo cs (FwB (bitsOf mo cs) mo.length) (EB (bitsOf mo cs) mo.length cs.length) (fun j => textP Z cs fun p => (LB (bitsOf mo cs) mo.length cs.length j).contains p) := by
  have hfw := fw_le hcs hmo
  have ha := all_b (fun i => decide ((cs.drop i).take mo.length = mo)) hmo.1 hmo.2 hcs.1 hcs.2
  have hb := count_b (fun i => decide ((cs.drop i).take mo.length = mo)) hmo.1 hmo.2 hcs.1 hcs.2
  have e2 : (List.range 5).map (fun i => decide ((cs.drop i).take mo.length = mo)) = bitsOf mo cs := rfl
  rw [e2] at ha hb
  unfold chkAll at ha
  simp only [Bool.and_eq_true, List.all_eq_true, List.mem_range] at ha hb
  refine ⟨textP_none Z cs, fun j _ => textP_len _ _ _, fun j hj => ?_⟩
  have ht := ha.2 j hj
  have hcnt := hb j hj
  unfold chkTurn at ht
  unfold chkCount at hcnt
  simp only [Bool.and_eq_true, decide_eq_true_eq, List.all_eq_true, List.mem_range, beq_iff_eq] at ht hcnt
  obtain ⟨⟨⟨⟨t1, t2⟩, _⟩, t4⟩, t5⟩ := ht
  have hlb : LB (bitsOf mo cs) mo.length cs.length (j + 1) = (EB (bitsOf mo cs) mo.length cs.length (1 + j) - 1) :: LB (bitsOf mo cs) mo.length cs.length j := rfl
  have hfun : (fun p => (LB (bitsOf mo cs) mo.length cs.length (j + 1)).contains p) = fun p => p == (EB (bitsOf mo cs) mo.length cs.length (1 + j) - 1) || (LB (bitsOf mo cs) mo.length cs.length j).contains p := by
    funext p
    rw [hlb, List.contains_cons]
  refine ⟨t1, t2, ?_, ?_, ?_, ?_, ?_, ?_⟩
  · show textP Z cs (fun p => (LB (bitsOf mo cs) mo.length cs.length (j + 1)).contains p) = _
    rw [hfun]
    exact textP_set Z cs _ (by omega)
  · intro i hi
    have hi2 : i ≤ cs.length := by
      have : (textOf Z cs).length = cs.length := by rw [Cs_len, List.length_map]
      omega
    rw [Int.zero_add, slice_e hc hm hcs hmo hi2, ← t5 i (by omega), show (1 : Int) + (j : Int) = ((1 + j : Nat) : Int) by omega]
    exact em_gen hc hm hcs hmo w _ hi2 (by omega) (by omega)
  · rw [List.filter_map, List.length_map]
    unfold EB
    congr 1
    refine List.filter_congr fun e _ => ?_
    show decide (((FwB (bitsOf mo cs) mo.length e : Nat) : Int) < 1 + (j : Int)) = decide (FwB (bitsOf mo cs) mo.length e < 1 + j)
    exact decide_eq_decide.mpr (by omega)
  · intro i hi
    rw [Cs_len, textP_len] at hi
    have h := em_full hc hm hcs hmo (Z := Z) w (fun p => (LB (bitsOf mo cs) mo.length cs.length (j + 1)).contains p) hi
    rw [t4] at h
    exact h
  · have h := price_ok w Z cs hcs.2 (fun _ => false) (fun p => (LB (bitsOf mo cs) mo.length cs.length (j + 1)).contains p) (.inl fun p _ h => by cases h) (1 + (j : Int)) (by rw [hcnt.1]; exact Int.le_refl _)
    rw [hcnt.1, ← text_none hc hm hcs hmo] at h
    exact h
  · have h := price_ok w Z cs hcs.2 (fun p => (LB (bitsOf mo cs) mo.length cs.length (j + 1)).contains p) (fun p => (LB (bitsOf mo cs) mo.length cs.length j).contains p) (.inr fun p _ h => by rw [hlb, List.contains_cons, h, Bool.or_true]) 1 (by rw [hcnt.2]; exact Int.le_refl _)
    rw [hcnt.2] at h
    exact h
theorem drawn_all (w : World) : ∃ RD ND, RD ≤ cs.length ∧ DrawnOk w Z mo cs RD ND ∧ ND = ((rangeKs 0 cs.length).map fun k => ((drawnI Z cs.length).fdiv (2 ^ k.toNat)).fmod 2).sum := by
  obtain ⟨hD0, hD64⟩ := drawn_bnd Z hcs.2
  have hshd : shownOf Z cs = textP Z cs fun p => drB (drawnI Z cs.length) (p : Int) := by
    unfold shownOf textP rangeKs
    rw [List.map_map]
    refine List.map_congr_left fun p _ => ?_
    simp
  have hbD : ∀ x, (drawnI Z cs.length).fdiv (2 ^ x) = drawnI Z cs.length / 2 ^ x := fun x => Int.fdiv_eq_ediv_of_nonneg _ (Int.le_of_lt (Int.pow_pos (by decide)))
  have hND : ((rangeKs 0 cs.length).map fun k => ((drawnI Z cs.length).fdiv (2 ^ k.toNat)).fmod 2).sum = S (dI (fun _ => false) fun p => drB (drawnI Z cs.length) (p : Int)) cs.length := by
    rw [sum_S]
    refine S_congr fun t _ => ?_
    have h1 := fmod_lo ((drawnI Z cs.length).fdiv (2 ^ t)) (n := 2) (by decide)
    have h2 := fmod_hi ((drawnI Z cs.length).fdiv (2 ^ t)) (n := 2) (by decide)
    show ((drawnI Z cs.length).fdiv (2 ^ t)).fmod 2 = if false = (((drawnI Z cs.length).fdiv (2 ^ t)).fmod 2 == 1) then (0 : Int) else 1
    generalize ((drawnI Z cs.length).fdiv (2 ^ t)).fmod 2 = x at h1 h2
    have : x = 0 ∨ x = 1 := by omega
    rcases this with rfl | rfl <;> decide
  have hrest : restS mo cs (drawnI Z cs.length) = strB ((List.range 5).map fun i => (bitsOf mo cs).getD i false && (List.range mo.length).all fun q => !drB (drawnI Z cs.length) ((i + q : Nat) : Int)) mo.length cs.length := by
    unfold restS
    rw [str_B hmo.1 hcs.2]
    unfold strB spB
    rw [List.filter_map, List.filter_filter]
    congr 1
    refine List.filter_congr fun k hk => ?_
    have hk2 := mem_rangeKs hk
    have hk4 : k.toNat < 5 := by omega
    simp only [Function.comp_apply]
    rw [bit_b hmo.1 hmo.2 (by omega) hD0 hD64]
    rw [Bool.and_comm]
    simp [List.getD_eq_getElem?_getD, hk4]
  have hSP : SP (bitsOf mo cs) mo.length cs.length (fun p => drB (drawnI Z cs.length) (p : Int)) = SP ((List.range 5).map fun i => (bitsOf mo cs).getD i false && (List.range mo.length).all fun q => !drB (drawnI Z cs.length) ((i + q : Nat) : Int)) mo.length cs.length fun _ => false := by
    funext i
    unfold SP
    by_cases h : i + mo.length ≤ cs.length
    · have hi : i < 5 := by omega
      rw [decide_eq_true h, Bool.true_and, Bool.true_and]
      have e : ((List.range 5).map fun i => (bitsOf mo cs).getD i false && (List.range mo.length).all fun q => !drB (drawnI Z cs.length) ((i + q : Nat) : Int)).getD i false = ((bitsOf mo cs).getD i false && (List.range mo.length).all fun q => !drB (drawnI Z cs.length) ((i + q : Nat) : Int)) := by
        simp [List.getD_eq_getElem?_getD, hi]
      rw [e]
      have e4 : ((List.range mo.length).all fun _ => !false) = true := by simp
      rw [e4, Bool.and_true]
    · rw [decide_eq_false h, Bool.false_and, Bool.false_and]
  refine ⟨FwB ((List.range 5).map fun i => (bitsOf mo cs).getD i false && (List.range mo.length).all fun q => !drB (drawnI Z cs.length) ((i + q : Nat) : Int)) mo.length cs.length, _, ?_, ⟨?_, ?_, ?_, ?_⟩, rfl⟩
  · have ha := all_b (fun i => (bitsOf mo cs).getD i false && (List.range mo.length).all fun q => !drB (drawnI Z cs.length) ((i + q : Nat) : Int)) hmo.1 hmo.2 hcs.1 hcs.2
    unfold chkAll at ha
    simp only [Bool.and_eq_true, decide_eq_true_eq] at ha
    exact Nat.le_trans ha.1.1 (by omega)
  · intro i hi
    rw [Cs_len, hshd, textP_len] at hi
    have h := em_full hc hm hcs hmo (Z := Z) w (fun p => drB (drawnI Z cs.length) (p : Int)) hi
    rw [hSP, ← hshd] at h
    exact h
  · rw [hrest]
    exact (few_spec (few_b _ hmo.1 hmo.2 hcs.2)).1
  · rw [hrest]
    exact (few_spec (few_b _ hmo.1 hmo.2 hcs.2)).2
  · have h := price_ok w Z cs hcs.2 (fun _ => false) (fun p => drB (drawnI Z cs.length) (p : Int)) (.inl fun p _ h => by cases h) (cs.length : Int) (S_bnd (f := dI _ _) fun i _ => by unfold dI; split <;> decide).2
    rw [← hND, ← text_none hc hm hcs hmo, ← hshd] at h
    exact h
end
end Mine

end
section
open PySem PySem.W PyProof.Rows PySem.Calls PySem.Spec
namespace Mine
theorem cutl (l : List Stmt) (a n : Nat) : (l.drop a).take n ++ l.drop (a + n) = l.drop a := by
  rw [← List.drop_drop]; exact List.take_append_drop n (l.drop a)
theorem motif_01 (r : Int) : ∀ c ∈ motifOf r, c = 0 ∨ c = 1 := by
  unfold motifOf
  split <;> (try split) <;> decide
theorem piece_01 {mo : List Int} (h : ∀ c ∈ mo, c = 0 ∨ c = 1) (x : Int) : ∀ c ∈ piece mo x, c = 0 ∨ c = 1 := by
  unfold piece
  split
  · exact h
  · split
    · exact fun c hc => h c (List.mem_of_mem_drop hc)
    · split <;> decide
theorem pieces_01 {mo : List Int} (h : ∀ c ∈ mo, c = 0 ∨ c = 1) (l : List Int) : ∀ c ∈ l.flatMap (piece mo), c = 0 ∨ c = 1 := by
  intro c hc
  obtain ⟨x, _, hx⟩ := List.mem_flatMap.mp hc
  exact piece_01 h x c hx
theorem strip_len {mo : List Int} (h1 : 2 ≤ mo.length) (h2 : mo.length ≤ 4) (ns : List Int) : 5 ≤ ((List.take 5 (ns ++ [0, 1, 0])).flatMap (piece mo)).length ∧ ((List.take 5 (ns ++ [0, 1, 0])).flatMap (piece mo)).length ≤ 20 := by
  have hp := pieces_len h1 h2 (List.take 5 (ns ++ [0, 1, 0]))
  have hl : (List.take 5 (ns ++ [0, 1, 0])).length ≤ 5 := by rw [List.length_take]; omega
  refine ⟨?_, by omega⟩
  have p0 : (piece mo 0).length = mo.length := by unfold piece; rw [if_pos (by decide)]
  have p1 : (piece mo 1).length = mo.length - 1 := by unfold piece; rw [if_neg (by decide), if_pos (by decide), List.length_drop]
  match ns with
  | [] =>
    show 5 ≤ ([0, 1, 0].flatMap (piece mo)).length
    simp only [List.flatMap_cons, List.flatMap_nil, List.length_append, List.append_nil, p0, p1]
    omega
  | [a] =>
    show 5 ≤ ([a, 0, 1, 0].flatMap (piece mo)).length
    simp only [List.flatMap_cons, List.flatMap_nil, List.length_append, List.append_nil, p0, p1]
    omega
  | a :: b :: r =>
    have : 5 ≤ (List.take 5 (a :: b :: r ++ [0, 1, 0])).length := by
      rw [List.length_take]
      simp only [List.cons_append, List.length_cons, List.length_append, List.length_nil]
      omega
    omega
set_option maxRecDepth 100000 in
set_option maxHeartbeats 8000000 in
theorem law_all (w : World) {g : Heap} {L f l : Addr} {cd : Value} {s : Shared} {p : Program} {loose : List Str} {mean : ExcName → Option Value} {mg mb : Str → Option Value} {m : Str → Option Value} {Q : Flow → Shared → Prop} {vs : List Value} {ns : List Int} {o1 o2 o3 o4 o5 o6 o7 : Obj}
    (X : (hd.heap_1 w.params).In g) (T : Top p loose mean mg mb g) (C1 : CodeHd g 85 81) (C2 : CodeHd g 92 88) (F : Fr g L s.heap m) (hm : m (Str.ofString "script") = some (.ref l))
    (N : News g L s.heap [(L + 1 + 1 + 1 + 1 + 1 + 1 + 1, o7), (L + 1 + 1 + 1 + 1 + 1 + 1, o6), (L + 1 + 1 + 1 + 1 + 1, o5), (L + 1 + 1 + 1 + 1, o4), (L + 1 + 1 + 1, o3), (L + 1 + 1, o2), (L + 1, o1), (88, tabObj #[]), (81, tabObj #[])])
    (d1 : ∃ v, o1.data = .cell v) (d2 : ∃ v, o2.data = .cell v) (d3 : ∃ v, o3.data = .cell v) (d4 : ∃ v, o4.data = .cell v) (d5 : ∃ v, o5.data = .cell v) (d6 : ∃ v, o6.data = .cell v) (d7 : ∃ v, o7.data = .cell v)
    (hl : g.IsList l vs.toArray) (hi : IntsAre vs ns) (hn : ns.length ≤ 63) (hL : @LT.lt Nat _ 88 L ∧ @LT.lt Nat _ 81 L)
    (hQ : ∀ h tk m' news' p1 p2, Fr g L h m' → News g L h news' → (88, tabObj p1) ∈ news' → (81, tabObj p2) ∈ news' → Q (.ret (.bool true)) { s with heap := h, toks := tk }) :
    wpAny (model PP w) (callerA.deeper (envOfC (Str.ofString "law") lawParts.2 L f cd)) (execs lawParts.1 (envOfC (Str.ofString "law") lawParts.2 L f cd)) Q (fun _ _ => False) s := by
  have hmo := motif_len (ns.sum.fmod 3)
  have hm01 := motif_01 (ns.sum.fmod 3)
  have hst := strip_len hmo.1 hmo.2 ns
  have hc01 : ∀ c ∈ ((List.take 5 (ns ++ [0, 1, 0])).flatMap (piece (motifOf (ns.sum.fmod 3)))).take 6, c = 0 ∨ c = 1 := fun c hc => pieces_01 hm01 _ c (List.mem_of_mem_take hc)
  have hcs : 5 ≤ (((List.take 5 (ns ++ [0, 1, 0])).flatMap (piece (motifOf (ns.sum.fmod 3)))).take 6).length ∧ (((List.take 5 (ns ++ [0, 1, 0])).flatMap (piece (motifOf (ns.sum.fmod 3)))).take 6).length ≤ 6 := by
    rw [List.length_take]; omega
  generalize hZ : ns.sum = Z at *
  generalize hmoe : motifOf (Z.fmod 3) = mo at *
  generalize hc5 : (List.take 5 (ns ++ [0, 1, 0])).flatMap (piece mo) = c5 at *
  generalize hcse : c5.take 6 = cs at *
  have hw10 : (textOf Z mo).length ≤ 10 := by rw [Cs_len, List.length_map]; omega
  obtain ⟨RD, ND, hRD, hdr, hND⟩ := drawn_all (Z := Z) hc01 hm01 hcs hmo w
  have hfw := fw_le (mo := mo) (cs := cs) hcs hmo
  have h10 : ∀ s', Mid9 g L Z mo cs (strF mo cs cs.length) s s' → wpAny (model PP w) (callerA.deeper (envOfC (Str.ofString "law") lawParts.2 L f cd)) (execs (lawParts.1.drop 18) (envOfC (Str.ofString "law") lawParts.2 L f cd)) Q (fun _ _ => False) s' := fun s' hmid => by
    rw [← cutl _ 18 4]
    exact segT10 w X T C1 C2 hL hmid hcs hmo hRD hdr hND hQ
  have h9 : ∀ s', Mid8 g L Z mo cs ((List.range (cs.length + 1)).map fun e => (FwB (bitsOf mo cs) mo.length e : Int)) (strF mo cs cs.length) s s' → wpAny (model PP w) (callerA.deeper (envOfC (Str.ofString "law") lawParts.2 L f cd)) (execs (lawParts.1.drop 17) (envOfC (Str.ofString "law") lawParts.2 L f cd)) Q (fun _ _ => False) s' := fun s' hmid => by
    rw [← cutl _ 17 1]
    exact segT9 w X T C1 C2 hL hmid hcs hmo (by omega) (paint_all hc01 hm01 hcs hmo w) h10
  have h8 : ∀ s', Mid7 g L Z mo cs ((List.range (cs.length + 1)).map fun e => (FwB (bitsOf mo cs) mo.length e : Int)) (strF mo cs cs.length) s s' → wpAny (model PP w) (callerA.deeper (envOfC (Str.ofString "law") lawParts.2 L f cd)) (execs (lawParts.1.drop 15) (envOfC (Str.ofString "law") lawParts.2 L f cd)) Q (fun _ _ => False) s' := fun s' hmid => by
    rw [← cutl _ 15 2]
    refine segT8 w X T C1 C2 hL hmid hcs hmo (by omega) (fun j hj => ?_) h9
    rw [text_none hc01 hm01 hcs hmo]
    exact em_full hc01 hm01 hcs hmo w _ hj
  have h7 : ∀ s', Mid7 g L Z mo cs [] [] s s' → wpAny (model PP w) (callerA.deeper (envOfC (Str.ofString "law") lawParts.2 L f cd)) (execs (lawParts.1.drop 14) (envOfC (Str.ofString "law") lawParts.2 L f cd)) Q (fun _ _ => False) s' := fun s' hmid => by
    rw [← cutl _ 14 1]
    exact segT7 w X T C1 C2 hL hmid hw10 hcs hmo (few_all hcs hmo) (fit_all hc01 hm01 hcs hmo w) (pin_all hc01 hm01 hcs hmo w) h8
  have h6 : ∀ s', Mid5 g L Z mo cs s s' → wpAny (model PP w) (callerA.deeper (envOfC (Str.ofString "law") lawParts.2 L f cd)) (execs (lawParts.1.drop 10) (envOfC (Str.ofString "law") lawParts.2 L f cd)) Q (fun _ _ => False) s' := fun s' hmid => by
    rw [← cutl _ 10 4]
    exact segT6 w X T C1 C2 hL hmid hcs hmo h7
  have h5 : ∀ s', Mid4 g L Z mo cs s s' → wpAny (model PP w) (callerA.deeper (envOfC (Str.ofString "law") lawParts.2 L f cd)) (execs (lawParts.1.drop 9) (envOfC (Str.ofString "law") lawParts.2 L f cd)) Q (fun _ _ => False) s' := fun s' hmid => by
    rw [← cutl _ 9 1]
    exact segT5 w X T C1 C2 hL hmid hcs hmo h6
  have h4 : ∀ s', Mid3 g L Z mo cs s s' → wpAny (model PP w) (callerA.deeper (envOfC (Str.ofString "law") lawParts.2 L f cd)) (execs (lawParts.1.drop 8) (envOfC (Str.ofString "law") lawParts.2 L f cd)) Q (fun _ _ => False) s' := fun s' hmid => by
    rw [← cutl _ 8 1]
    exact seg4 w X T C1 C2 hL hmid hcs hmo h5
  have h3 : ∀ s', Mid2 g L Z mo c5 s s' → wpAny (model PP w) (callerA.deeper (envOfC (Str.ofString "law") lawParts.2 L f cd)) (execs (lawParts.1.drop 5) (envOfC (Str.ofString "law") lawParts.2 L f cd)) Q (fun _ _ => False) s' := fun s' hmid => by
    rw [← cutl _ 5 3]
    exact seg3 w X T C1 C2 hL hmid hst (by rw [hcse]; exact h4)
  have h2 : ∀ s', Mid1 g L l ns s s' → wpAny (model PP w) (callerA.deeper (envOfC (Str.ofString "law") lawParts.2 L f cd)) (execs (lawParts.1.drop 4) (envOfC (Str.ofString "law") lawParts.2 L f cd)) Q (fun _ _ => False) s' := fun s' hmid => by
    rw [← cutl _ 4 1]
    exact seg2 w X T C1 C2 hL hmid (by rw [hZ, hmoe, hc5]; exact h3) hl hi hn
  have h1 := seg1 w X T C1 C2 F hm N d1 d2 d3 d4 d5 d6 d7 hl hi hn hL (Q := Q) (f := f) (cd := cd) (R := lawParts.1.drop 4) h2
  have e := cutl lawParts.1 0 4
  rw [show 0 + 4 = 4 from rfl] at e
  rw [e] at h1
  exact h1
end Mine

end
section
open PySem PySem.W PyProof.Rows PySem.Calls PySem.Spec
namespace Mine
abbrev FrOf {g h : Heap} {L : Addr} {m : Str → Option Value} (_ : Fr g L h m) : Heap → (Str → Option Value) → Prop := fun h' m' => Fr g L h' m'
abbrev NewsOf {g h : Heap} {L : Addr} {news : List (Addr × Obj)} (_ : News g L h news) : Heap → List (Addr × Obj) → Prop := fun h' n' => News g L h' n'
section
local macro_rules | `(tactic| walk_at "pyIter ref") => `(tactic| (refine hold ?_))
set_option maxRecDepth 100000 in
set_option maxHeartbeats 8000000 in
theorem l1w : PT hd := by
  w_top off
  k_go0
  show wpAny _ _ _ _ _ _
  k_fold
  rename Fr _ _ _ _ => F'
  rename News _ _ _ _ => N'
  rename Shared => s1
  rename _ = #[] => hgens
  have hQ : ∀ h tk m' news' p1 p2, FrOf F' h m' → NewsOf N' h news' → (88, tabObj p1) ∈ news' → (81, tabObj p2) ∈ news' → qk (.ret (.bool true)) { s1 with heap := h, toks := tk } := by
    intro h tk m' news' p1 p2 F2 N2 h1 h2
    exact ⟨goodW_bool F2 hgens (raisesW_false fun ct hct => absurd hct List.not_mem_nil) (postW_of rfl rfl (by decide +kernel)), GrownAt.of N2 h1, GrownAt.of N2 h2, trivial⟩
  clear_value qk ek
  rename Frag.In _ _ => X'
  rename Top _ _ _ _ _ _ => T'
  rename IntsAre _ _ => hI
  show wpAny _ _ (execs lawParts.1 (envOfC (Str.ofString "law") lawParts.2 _ _ _)) _ _ _
  rename Fr _ _ _ _ => F'
  rename Heap.IsList _ _ _ => lifted
  have hn9 : _ ≤ 63 := Int.ofNat_le.mp (Int.not_lt.mp (by assumption))
  refine wpAny_mono (law_all _ X' T' (by assumption) (by assumption) F' rfl N' ⟨_, by assumption⟩ ⟨_, by assumption⟩ ⟨_, by assumption⟩ ⟨_, by assumption⟩ ⟨_, by assumption⟩ ⟨_, by assumption⟩ ⟨_, by assumption⟩ lifted hI hn9 (by assumption) ?hq) (fun _ _ h => h) (fun _ _ h => h.elim)
  case hq => exact hQ
end
theorem fin.tw357486453476387696 : True := trivial
theorem fin.tw9556851944654607512 : True := trivial
theorem fin.tw2508255044705368994 : True := trivial
theorem fin.tw10891054232620793217 : True := trivial
theorem fin.tw1262681375813215985 : True := trivial
theorem fin.tw18322396300614539805 : True := trivial
theorem fin.tw15205425988870721313 : True := trivial
theorem fin.tw3199103547748192838 : True := trivial
theorem fin.tw2117135873502361916 : True := trivial
theorem fin.tw4924110625330727750 : True := trivial
theorem fin.tw7055459427971326715 : True := trivial
theorem fin.tw5934825339627483726 : True := trivial
theorem fin.tw10098057777631523497 : True := trivial
theorem fin.tw7675655780812522254 : True := trivial
theorem fin.tw3314143786362844604 : True := trivial
theorem fin.tw480829909506669009 : True := trivial
theorem fin.tw10329872625359487480 : True := trivial
theorem fin.tw10580198807604790814 : True := trivial
theorem fin.tw17416127249078093707 : True := trivial
theorem fin.tw17570709534508481193 : True := trivial
theorem fin.tw12649782002744950493 : True := trivial
theorem fin.tw13383306551100868464 : True := trivial
theorem fin.tw13516622038369049944 : True := trivial
theorem fin.tw6207176494656529804 : True := trivial
theorem fin.tw15344004072050561172 : True := trivial
theorem fin.tw12237877928780879103 : True := trivial
theorem fin.tw15688172546075569117 : True := trivial
theorem fin.tw14574801432027512755 : True := trivial
theorem fin.tw4171678462856256454 : True := trivial
theorem fin.tw999798209818781672 : True := trivial
theorem fin.tw13790858721211988464 : True := trivial
theorem fin.tw1976505206021243879 : True := trivial
theorem fin.tw16496857829328116044 : True := trivial
theorem fin.tw9746901515087519452 : True := trivial
theorem fin.tw6956187926921108005 : True := trivial
theorem fin.tw15149952090015108872 : True := trivial
theorem fin.tw6144012678527597917 : True := trivial
theorem fin.tw15566928917628492161 : True := trivial
theorem fin.tw10147658903529517814 : True := trivial
theorem fin.tw12740692763255036000 : True := trivial
theorem fin.tw3683778510129048087 : True := trivial
theorem fin.tw13294311002278339166 : True := trivial
theorem fin.tw15815952407149668801 : True := trivial
section
local macro_rules | `(tactic| refine $_:ident $xs*) => do
  if xs.size < 20 then Lean.Macro.throwUnsupported
  `(tactic| refine' hd (And.intro ?hl $(Lean.mkIdent `walk)))
set_option Elab.async true in
set_option maxRecDepth 100000 in
set_option maxHeartbeats 8000000 in
theorem fin (walk : PT hd) : PySem.Challenge.rw_sc0066_01.Holds := by
  o_law
  k_head
end
theorem l1 : PySem.Challenge.rw_sc0066_01.Holds := fin l1w
end Mine

end
end

open PySem PySem.W PyProof.Rows
theorem PySem.Challenge.cw_sc0066_01_holds : PySem.Challenge.rw_sc0066_01.Holds :=
  Mine.l1
