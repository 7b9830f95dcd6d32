import PyProof.Rows.All
import Wide.All
import OpenK.AllK
import Wide.FinOn
import PySem.Challenge.RW_at5003_01
open PySem PySem.W PySem.Calls PyProof.Rows
set_option Elab.async false
set_option maxRecDepth 100000
set_option maxHeartbeats 8000000
set_option linter.all false
namespace Mine
/-! The written part of the program's heap (heap_39), laid by the library's open_top; its own head is not needed, so the walk's goal stands for it. -/
theorem two {p q : Prop} (hc : p) (_ : q) : p := hc
section
local macro_rules | `(tactic| o_head $_) => `(tactic| refine Mine.two (q := True) ?hc ?hw)
local macro_rules | `(tactic| w_witness2) => `(tactic| exact True.intro)
open_top hd for PySem.Challenge.rw_at5003_01
end
/-! open_top leaves the walker's lines for a program's top on: off again, they cost time alone. -/
theorem topOff : True := by
  w_top off
  exact True.intro
section
section
local macro_rules | `(tactic| walk_at "my room") => `(tactic| first | assumption | (refine Room.deeper ?_; walk_at "my room") | (refine Room.make ?_; walk_at "my room") | (refine Room.in1 ?_; walk_at "my room") | exact Room.mono (by assumption) (by decide))
local macro_rules | `(tactic| k_room) => `(tactic| exact Room.lt (n := 0) (by walk_at "my room"))
local macro_rules | `(tactic| k_units) => `(tactic| exact Room.un (n := 0) (by walk_at "my room"))
local macro_rules | `(tactic| k_inst) => `(tactic| exact inst_keep (by assumption) (Fr.keep (by assumption)))
local macro_rules | `(tactic| walk_at "my enter") => `(tactic| (refine' call_top ?X ?T ?k1 ?k2 ?k3 ?k4 ?k5 ?_ ?c1 ?c2 ?c3 ?c4; (case X => assumption); (case T => assumption); (case k1 => k_is); (case k2 => k_is); (case k3 => k_room); (case k4 => (first | exact BindsTo.of_eq rfl | exact binds_K (by assumption) rfl (by k_is) rfl rfl rfl)); (case k5 => exact locs rfl); (case c1 => rfl); (case c2 => rfl); (case c3 => rfl); (case c4 => decide); intro L h₁ F N))
local macro_rules | `(tactic| walk_at "assign Tuple") => `(tactic| ((with_reducible show wpAny _ _ (assign (Expr.Tuple _ _ _) _ (Value.ref _)) _ _ _); refine unpackN_ (by assumption) (by assumption) (News.isTup (by assumption) (by k_mem)) (Room.handled (n := 0) (by walk_at "my room")) (by rfl) (by rfl) ?_; intro h' F' N'; (try k_sweep); (try dsimp only)))
local macro_rules | `(tactic| walk_at "unpackItems ref") => `(tactic| (refine unpackItemsN_ (by assumption) (by assumption) (News.isTup (by assumption) (by k_mem)) (Room.handled (n := 0) (by walk_at "my room")) (by rfl) ?_; intro h' F' N'; (try k_sweep); (try dsimp only)))
local macro_rules | `(tactic| units_room) => `(tactic| exact Room.un64 (n := 0) (by walk_at "my room"))
/-- room for n more frames -/
structure Room (A : Around) (n : Nat) : Prop where
  depth : A.depth + n < 900
  units : A.units + 20 * n < 9000
  handled : A.handled = none
theorem Room.mono {A : Around} {n m : Nat} (h : Room A n) (hm : m ≤ n) : Room A m := ⟨by have := h.depth; omega, by have := h.units; omega, h.handled⟩
theorem Room.deeper {A : Around} {env : Env} {n : Nat} (h : Room A (n + 1)) : Room (A.deeper env) n :=
  ⟨by have := h.depth; show A.depth + 1 + n < 900; omega, by have := h.units; show A.units + 3 + 20 * n < 9000; omega, h.handled⟩
theorem Room.in1 {A : Around} {n : Nat} (h : Room A (n + 1)) : Room A.in1 n :=
  ⟨by have := h.depth; show A.depth + n < 900; omega, by have := h.units; show A.units + 1 + 20 * n < 9000; omega, h.handled⟩
theorem Room.make {A : Around} {C : Addr} {vals : List Value} {kw : List (Str × Value)} {n : Nat} (h : Room A (n + 1)) : Room (A.under (.builtin "type.__call__" ⟨.ref C :: vals, kw⟩)) n :=
  ⟨by have := h.depth; show A.depth + 1 + n < 900; omega, by have := h.units; show A.units + 1 + 20 * n < 9000; omega, h.handled⟩
theorem Room.lt {A : Around} {n : Nat} (h : Room A n) : A.depth < recursionLimit := by have := h.depth; show _ < 1000; omega
theorem Room.un64 {A : Around} {n : Nat} (h : Room A n) : A.units + 64 < cLine := by have := h.units; show _ < 9900; omega
theorem Room.un {A : Around} {n : Nat} (h : Room A n) : A.units < cLine := by have := h.units; show _ < 9900; omega


section
variable {prog : Program} {w : World} {A : Around} {s : Shared} {K : Frag} {p : Program} {loose : List Str} {mg mb : Str → Option Value}
theorem call_top {R : Result → Shared → Prop} {name qual : Str} {params : Arguments} {body : List Stmt} {scope : Scope} {dV kV doc pm cdv ct oc : Value} {an od : Option Addr} {osl : Array (Option Value)} {f : Addr} {args : Args} {binds : List (Str × Value)}
    (X : K.In s.heap) (T : TopRead p loose mg mb s.heap)
    (ho : K.lookup f = some ⟨oc, od, .func (fnOf name qual params body scope dV kV doc pm an cdv ct), osl⟩) (hcd : codeIn K cdv qual = true) (hroom : A.depth < recursionLimit)
    (hbind : BindsTo s (fnOf name qual params body scope dV kV doc pm an cdv ct) args binds) (hloc : ∀ y ∈ binds, scope.names.lookup y.1 = some .local)
    (h : ∀ L h₁, Fr s.heap L h₁ (fun y => binds.reverse.lookup y) → News s.heap L h₁ [] →
      wpAny (model prog w) (A.deeper (envOf qual scope L f cdv)) (execs body (envOf qual scope L f cdv))
        (fun fl s' => R (.ok (.ret (match fl with | .ret v => v | _ => .none))) s')
        (fun _ _ => False)
        { s with heap := h₁, toks := s.toks + binds.length })
    (hco : scope.isCoroutine = false) (hgen : scope.isGenerator = false) (hk : scope.kind = .function)
    (hcell : ∀ x ∈ scope.names, x.2 ≠ .cell) : codeAny (model prog w) A (.call (.ref f) args) R s := by
  refine codeAny_call_def (fd := fnOf name qual params body scope dV kV doc pm an cdv ct) (body := body) (binds := binds) hroom (X _ _ ho) rfl T.nolimit (codeRec_of X hcd) rfl hbind hcell hloc (fun h₁ hns hk₁ => ?_) hco hgen hk
  exact wpAny_mono (h _ h₁ ⟨hns, hk₁, Nat.le_refl _⟩ News.nil) (fun _ _ x => x) (fun _ _ x => x.elim)
end
/-- a call with objects of the call's own in the ledger: b is the heap below them -/
theorem call_led {prog : Program} {w : World} {A : Around} {s : Shared} {K : Frag} {p : Program} {loose : List Str} {mg mb : Str → Option Value} {b : Heap} {news : List (Addr × Obj)}
    {R : Result → Shared → Prop} {name qual : Str} {params : Arguments} {body : List Stmt} {scope : Scope} {dV kV doc pm cdv ct oc : Value} {an od : Option Addr} {osl : Array (Option Value)} {f : Addr} {args : Args} {binds : List (Str × Value)}
    (X : K.In b) (T : TopRead p loose mg mb b) (hb : ∀ a o, b.get? a = some o → s.heap.get? a = some o) (hsz : b.objs.size ≤ s.heap.objs.size) (hn : ∀ p ∈ news, s.heap.get? p.1 = some p.2 ∧ b.get? p.1 = none)
    (ho : K.lookup f = some ⟨oc, od, .func (fnOf name qual params body scope dV kV doc pm an cdv ct), osl⟩) (hcd : codeIn K cdv qual = true) (hroom : A.depth < recursionLimit)
    (hbind : BindsTo s (fnOf name qual params body scope dV kV doc pm an cdv ct) args binds) (hloc : ∀ y ∈ binds, scope.names.lookup y.1 = some .local)
    (h : ∀ L h₁, Fr b L h₁ (fun y => binds.reverse.lookup y) → News b L h₁ news →
      wpAny (model prog w) (A.deeper (envOf qual scope L f cdv)) (execs body (envOf qual scope L f cdv))
        (fun fl s' => R (.ok (.ret (match fl with | .ret v => v | _ => .none))) s')
        (fun _ _ => False)
        { s with heap := h₁, toks := s.toks + binds.length })
    (hco : scope.isCoroutine = false) (hgen : scope.isGenerator = false) (hk : scope.kind = .function)
    (hcell : ∀ x ∈ scope.names, x.2 ≠ .cell) : codeAny (model prog w) A (.call (.ref f) args) R s := by
  have X' : K.In s.heap := X.keeps hb
  have T' := T.keeps hb
  refine codeAny_call_def (fd := fnOf name qual params body scope dV kV doc pm an cdv ct) (body := body) (binds := binds) hroom (X' _ _ ho) rfl T'.nolimit (codeRec_of X' hcd) rfl hbind hcell hloc (fun h₁ hns hk₁ => ?_) hco hgen hk
  refine wpAny_mono (h _ h₁ ⟨hns, fun a o e => hk₁ a o (hb a o e), hsz⟩ fun p hp => ⟨hk₁ _ _ (hn p hp).1, Nat.ne_of_lt (Heap.lt_size (hn p hp).1), (hn p hp).2⟩) (fun _ _ x => x) (fun _ _ x => x.elim)
theorem inst_keep {h h' : Heap} {x C : Addr} {ox : Obj} {od : Option Obj} (I : InstAt h x ox C od) (k : ∀ b o, h.get? b = some o → h'.get? b = some o) : InstAt h' x ox C od := by
  obtain ⟨a, b, c, d⟩ := I
  refine ⟨k _ _ a, b, c, ?_⟩
  cases e : ox.dict <;> cases od <;> simp_all

/-- all kept, nothing else turned -/
def Ke (s s' : Shared) : Prop := (∀ b o, s.heap.get? b = some o → s'.heap.get? b = some o) ∧ s'.gens = s.gens ∧ s'.drawn = s.drawn ∧ s'.os = s.os
theorem Ke.refl (s : Shared) : Ke s s := ⟨fun _ _ e => e, rfl, rfl, rfl⟩
theorem Ke.trans {a b c : Shared} (h : Ke a b) (k : Ke b c) : Ke a c := ⟨fun x o e => k.1 x o (h.1 x o e), k.2.1.trans h.2.1, k.2.2.1.trans h.2.2.1, k.2.2.2.trans h.2.2.2⟩
theorem Ke.of {s : Shared} {h' : Heap} {tk : Nat} (k : ∀ b o, s.heap.get? b = some o → h'.get? b = some o) : Ke s { s with heap := h', toks := tk } := ⟨k, rfl, rfl, rfl⟩
theorem Ke.eq {s s' : Shared} (k : Ke s s') : s' = { s with heap := s'.heap, toks := s'.toks } := by
  obtain ⟨h, g, d, t, o⟩ := s
  obtain ⟨h', g', d', t', o'⟩ := s'
  obtain ⟨_, a, b, c⟩ := k
  simp only at a b c
  subst a b c; rfl
theorem fr_ke {h₀ : Heap} {L : Addr} {s s' : Shared} {m : Str → Option Value} (k : Ke s s') (F : Fr h₀ L s.heap m) : Fr h₀ L s'.heap m :=
  ⟨F.ns.keeps k.1, fun b o e => k.1 b o (F.keep b o e), F.above⟩
theorem news_ke {h₀ : Heap} {L : Addr} {s s' : Shared} {news : List (Addr × Obj)} (k : Ke s s') (N : News h₀ L s.heap news) : News h₀ L s'.heap news :=
  fun p hp => ⟨k.1 _ _ (N p hp).1, (N p hp).2⟩
def AllNe (a : Nat) : List (Addr × Obj) → Prop
  | [] => True
  | p :: r => @Ne Nat p.1 a ∧ AllNe a r
theorem news_new {h₀ : Heap} {L a : Addr} {o : Obj} {s s' : Shared} {m : Str → Option Value} {news : List (Addr × Obj)} (k : Ke s s') (F : Fr h₀ L s.heap m) (N : News h₀ L s.heap news) (hn : s.heap.get? a = none) (ha : s'.heap.get? a = some o) :
    News h₀ L s'.heap ((a, o) :: news) ∧ AllNe a news := by
  refine ⟨fun p hp => ?_, ?_⟩
  · rcases List.mem_cons.mp hp with rfl | hp
    · refine ⟨ha, fun (e : a = L) => ?_, ?_⟩
      · obtain ⟨oL, _, _, hL, _⟩ := F.ns
        rw [e, hL] at hn; cases hn
      · show h₀.get? a = none
        cases q : h₀.get? a with
        | none => rfl
        | some o' => rw [F.keep _ _ q] at hn; cases hn
    · exact news_ke k N p hp
  · clear F k ha
    induction news with
    | nil => trivial
    | cons p r ih =>
      refine ⟨fun (e : p.1 = a) => ?_, ih fun q hq => N q (.tail _ hq)⟩
      have := (N p (.head _)).1
      rw [e, hn] at this; cases this
def Stopped (P : Prop) : Prop := P
theorem Stopped.go {P : Prop} (h : Stopped P) : P := h
theorem Stopped.on {P : Prop} (h : P) : Stopped P := h
theorem kx {K : Frag} {h₀ h : Heap} {L : Addr} {m : Str → Option Value} (F : Fr h₀ L h m) (X : K.In h₀) : K.In h := X.keeps F.keep
theorem tx {p : Program} {loose : List Str} {mg mb : Str → Option Value} {h₀ h : Heap} {L : Addr} {m : Str → Option Value} (F : Fr h₀ L h m) (T : TopRead p loose mg mb h₀) : TopRead p loose mg mb h := T.keeps F.keep
end
section
local macro_rules | `(tactic| walk_at "my room") => `(tactic| first | assumption | (refine Room.deeper ?_; walk_at "my room") | (refine Room.make ?_; walk_at "my room") | (refine Room.in1 ?_; walk_at "my room") | exact Room.mono (by assumption) (by decide))
local macro_rules | `(tactic| k_room) => `(tactic| exact Room.lt (n := 0) (by walk_at "my room"))
local macro_rules | `(tactic| k_units) => `(tactic| exact Room.un (n := 0) (by walk_at "my room"))
local macro_rules | `(tactic| k_inst) => `(tactic| exact inst_keep (by assumption) (Fr.keep (by assumption)))
local macro_rules | `(tactic| walk_at "my enter") => `(tactic| (refine' call_top ?X ?T ?k1 ?k2 ?k3 ?k4 ?k5 ?_ ?c1 ?c2 ?c3 ?c4; (case X => assumption); (case T => assumption); (case k1 => k_is); (case k2 => k_is); (case k3 => k_room); (case k4 => (first | exact BindsTo.of_eq rfl | exact binds_K (by assumption) rfl (by k_is) rfl rfl rfl)); (case k5 => exact locs rfl); (case c1 => rfl); (case c2 => rfl); (case c3 => rfl); (case c4 => decide); intro L h₁ F N))
local macro_rules | `(tactic| walk_at "assign Tuple") => `(tactic| ((with_reducible show wpAny _ _ (assign (Expr.Tuple _ _ _) _ (Value.ref _)) _ _ _); refine unpackN_ (by assumption) (by assumption) (News.isTup (by assumption) (by k_mem)) (Room.handled (n := 0) (by walk_at "my room")) (by rfl) (by rfl) ?_; intro h' F' N'; (try k_sweep); (try dsimp only)))
local macro_rules | `(tactic| walk_at "unpackItems ref") => `(tactic| (refine unpackItemsN_ (by assumption) (by assumption) (News.isTup (by assumption) (by k_mem)) (Room.handled (n := 0) (by walk_at "my room")) (by rfl) ?_; intro h' F' N'; (try k_sweep); (try dsimp only)))
local macro_rules | `(tactic| units_room) => `(tactic| exact Room.un64 (n := 0) (by walk_at "my room"))
abbrev frDict (a e : Int) (b f c g : Tok) (n d : Int) : Obj := dictOf [⟨a, .str "numerator" b, .int n c⟩, ⟨e, .str "denominator" f, .int d g⟩] 2
/-- the object at x is the Fraction n / d -/
def FrAt (h : Heap) (x : Addr) (n d : Int) : Prop := ∃ dx a b c e f g, InstAt h x (instObj 237 dx) 237 (some (frDict a e b f c g n d))
theorem FrAt.mk {h : Heap} {x dx : Addr} {a e : Int} {b f c g : Tok} {n d : Int} (I : InstAt h x (instObj 237 dx) 237 (some (frDict a e b f c g n d))) : FrAt h x n d := ⟨dx, a, b, c, e, f, g, I⟩
theorem FrAt.keep {h h' : Heap} {x : Addr} {n d : Int} (F : FrAt h x n d) (k : ∀ b o, h.get? b = some o → h'.get? b = some o) : FrAt h' x n d := by
  obtain ⟨dx, a, b, c, e, f, g, I⟩ := F
  exact ⟨dx, a, b, c, e, f, g, inst_keep I k⟩

section
variable {prog : Program} {w : World} {A : Around} {s : Shared} {p : Program} {loose : List Str} {mg mb : Str → Option Value} {R : Result → Shared → Prop}

def TupAt (h : Heap) (a : Addr) (vs : List Value) : Prop := h.get? a = some { cls := .type "tuple", data := .seq vs.toArray }

theorem parts_int {n : Int} {t : Tok} (X : (Mine.hd.heap_39 w.params).In s.heap) (T : TopRead p loose mg mb s.heap) (hA : Room A 3)
   (k : ∀ a s' t', Ke s s' → s.heap.get? a = none → TupAt s'.heap a [.int n t, .int 1 t'] → R (.ok (.ret (.ref a))) s') :
   codeAny (model prog w) A (.call (.ref 93) ⟨[.int n t], []⟩) R s := by
  walk_at "my enter"
  k_steps
  rename_i F' N' _
  exact k _ _ _ (Ke.of F'.keep) (N' _ (.head _)).2.2 (N' _ (.head _)).1
theorem parts_fr {x : Addr} {n d : Int} (X : (Mine.hd.heap_39 w.params).In s.heap) (T : TopRead p loose mg mb s.heap) (hA : Room A 3) (Hx : FrAt s.heap x n d)
   (k : ∀ a s' t t', Ke s s' → s.heap.get? a = none → TupAt s'.heap a [.int n t, .int d t'] → R (.ok (.ret (.ref a))) s') :
   codeAny (model prog w) A (.call (.ref 93) ⟨[.ref x], []⟩) R s := by
  obtain ⟨dx, a, b, c, e, f, g, I⟩ := Hx
  walk_at "my enter"
  k_steps
  rename_i F' N' _
  exact k _ _ _ _ (Ke.of F'.keep) (N' _ (.head _)).2.2 (N' _ (.head _)).1
end
end
section
local macro_rules | `(tactic| walk_at "my room") => `(tactic| first | assumption | (refine Room.deeper ?_; walk_at "my room") | (refine Room.make ?_; walk_at "my room") | (refine Room.in1 ?_; walk_at "my room") | exact Room.mono (by assumption) (by decide))
local macro_rules | `(tactic| k_room) => `(tactic| exact Room.lt (n := 0) (by walk_at "my room"))
local macro_rules | `(tactic| k_units) => `(tactic| exact Room.un (n := 0) (by walk_at "my room"))
local macro_rules | `(tactic| k_inst) => `(tactic| exact inst_keep (by assumption) (Fr.keep (by assumption)))
local macro_rules | `(tactic| walk_at "my enter") => `(tactic| (refine' call_top ?X ?T ?k1 ?k2 ?k3 ?k4 ?k5 ?_ ?c1 ?c2 ?c3 ?c4; (case X => assumption); (case T => assumption); (case k1 => k_is); (case k2 => k_is); (case k3 => k_room); (case k4 => (first | exact BindsTo.of_eq rfl | exact binds_K (by assumption) rfl (by k_is) rfl rfl rfl)); (case k5 => exact locs rfl); (case c1 => rfl); (case c2 => rfl); (case c3 => rfl); (case c4 => decide); intro L h₁ F N))
local macro_rules | `(tactic| walk_at "assign Tuple") => `(tactic| ((with_reducible show wpAny _ _ (assign (Expr.Tuple _ _ _) _ (Value.ref _)) _ _ _); refine unpackN_ (by assumption) (by assumption) (News.isTup (by assumption) (by k_mem)) (Room.handled (n := 0) (by walk_at "my room")) (by rfl) (by rfl) ?_; intro h' F' N'; (try k_sweep); (try dsimp only)))
local macro_rules | `(tactic| walk_at "unpackItems ref") => `(tactic| (refine unpackItemsN_ (by assumption) (by assumption) (News.isTup (by assumption) (by k_mem)) (Room.handled (n := 0) (by walk_at "my room")) (by rfl) ?_; intro h' F' N'; (try k_sweep); (try dsimp only)))
local macro_rules | `(tactic| units_room) => `(tactic| exact Room.un64 (n := 0) (by walk_at "my room"))



def nf (m : Str → Option Value) (dv rs : Int) (t u : Tok) : Str → Option Value := fun y => if y = "rest" then some (.int rs u) else if y = "divisor" then some (.int dv t) else m y
theorem nf_eq {m m' : Str → Option Value} {dv rs : Int} {t u : Tok} (h1 : m' "rest" = some (.int rs u)) (h2 : m' "divisor" = some (.int dv t)) (h : ∀ y : Str, y ≠ "rest" → y ≠ "divisor" → m' y = m y) : m' = nf m dv rs t u := by
  funext y
  unfold nf
  by_cases q : y = "rest"
  · rw [if_pos q, q]; exact h1
  · rw [if_neg q]
    by_cases q' : y = "divisor"
    · rw [if_pos q', q']; exact h2
    · rw [if_neg q']; exact h y q q'
theorem fr_nf {h₀ h : Heap} {L : Addr} {m m' : Str → Option Value} {dv rs : Int} {t u : Tok} (F : Fr h₀ L h m') (h1 : m' "rest" = some (.int rs u)) (h2 : m' "divisor" = some (.int dv t)) (e : ∀ y : Str, y ≠ "rest" → y ≠ "divisor" → m' y = m y) : Fr h₀ L h (nf m dv rs t u) := nf_eq h1 h2 e ▸ F
section
variable {prog : Program} {w : World} {A : Around} {s : Shared} {E : Value → Shared → Prop} {Q : Flow → Shared → Prop} {h₀ : Heap} {L : Addr} {env : Env} {m : Str → Option Value} {news : List (Addr × Obj)}
theorem fmod_pos_eq {a b : Int} (hb : 0 < b) : a.fmod b = a % b := by
  rw [Int.fmod_eq_emod_of_nonneg _ (Int.le_of_lt hb)]
theorem gcd_emod (a b : Int) : Int.gcd b (a % b) = Int.gcd a b := by
  rw [Int.emod_def, Int.gcd_sub_mul_left_right, Int.gcd_comm]
theorem euclid_while {test : Expr} {body : List Stmt} {pos : Pos} {d r : Int} {t1 t2 : Tok} (F : Fr h₀ L s.heap m) (N : News h₀ L s.heap news) (h1 : m "divisor" = some (.int d t1)) (h2 : m "rest" = some (.int r t2)) (hd : 0 < d) (hr : 0 ≤ r)
    (turn : ∀ dv rs u1 u2 h₁ tk₁, 0 < dv → 0 ≤ rs → Fr h₀ L h₁ (nf m dv rs u1 u2) → News h₀ L h₁ news →
      wpAny (model prog w) A (isTrue test env (eval test env)) (fun b s₂ => if b = true then wpAny (model prog w) A (execs body env) (fun f s₃ => Stopped (f = .next ∧ rs ≠ 0 ∧ ∃ h' tk, s₃ = { s with heap := h', toks := tk } ∧ News h₀ L h' news ∧ ∃ v1 v2, Fr h₀ L h' (nf m rs (dv.fmod rs) v1 v2))) (fun _ _ => False) s₂
        else Stopped (rs = 0 ∧ ∃ h' tk, s₂ = { s with heap := h', toks := tk } ∧ News h₀ L h' news ∧ Fr h₀ L h' (nf m dv rs u1 u2))) (fun _ _ => False) { s with heap := h₁, toks := tk₁ })
    (done : ∀ g u1 u2 h' tk, 0 < g → g = (Int.gcd d r : Int) → Fr h₀ L h' (nf m g 0 u1 u2) → News h₀ L h' news → Q .next { s with heap := h', toks := tk }) :
    wpAny (model prog w) A (exec (.While test body [] pos) env) Q (fun _ _ => False) s := by
  refine While_inv (fun n m₁ nw => nw = news ∧ ∃ dv rs u1 u2, m₁ = nf m dv rs u1 u2 ∧ 0 < dv ∧ 0 ≤ rs ∧ (n : Int) = rs ∧ (Int.gcd dv rs : Int) = Int.gcd d r) (n₀ := r.toNat) F N ⟨rfl, d, r, t1, t2, nf_eq h2 h1 (fun _ _ _ => rfl), hd, hr, by omega, rfl⟩ ?_ PassesOwn.never
  rintro n m₁ nw h₁ tk₁ F₁ N₁ ⟨rfl, dv, rs, u1, u2, rfl, hdv, hrs, hn, hg⟩
  refine wpAny_mono (turn dv rs u1 u2 h₁ tk₁ hdv hrs F₁ N₁) (fun b s₂ hb => ?_) fun _ _ e => e
  cases b with
  | true =>
    simp only [if_true] at hb ⊢
    refine wpAny_mono hb (fun f s₃ hf => ?_) fun _ _ e => e
    obtain ⟨rfl, hrs0, h', tk, rfl, N', v1, v2, F'⟩ := hf
    have hpos : 0 < rs := by omega
    have hlt := Int.emod_lt_of_pos dv hpos
    have hge := Int.emod_nonneg dv hrs0
    refine ⟨rfl, h', tk, _, nw, (dv.fmod rs).toNat, rfl, F', N', ?_, rfl, rs, dv.fmod rs, v1, v2, rfl, hpos, ?_, ?_, ?_⟩
    · rw [fmod_pos_eq hpos]; omega
    · rw [fmod_pos_eq hpos]; exact hge
    · rw [fmod_pos_eq hpos]; omega
    · rw [fmod_pos_eq hpos, ← hg, gcd_emod]
  | false =>
    simp only [Bool.false_eq_true, if_false] at hb ⊢
    obtain ⟨rfl, h', tk, rfl, N', F'⟩ := hb
    refine done dv u1 u2 h' tk hdv ?_ F' N'
    rw [← hg, Int.gcd_zero]
    omega
end

theorem frac_norm {a b g : Int} (hb : 0 < b) (hg : g = (Int.gcd a b : Int)) : 0 < b.fdiv g ∧ a.fdiv g * b = a * b.fdiv g ∧ Int.gcd (a.fdiv g) (b.fdiv g) = 1 := by
  have hg0 : 0 < g := by
    have : 0 < Int.gcd a b := Int.gcd_pos_of_ne_zero_right _ (by omega)
    omega
  have ha : g ∣ a := hg ▸ Int.gcd_dvd_left ..
  have hbd : g ∣ b := hg ▸ Int.gcd_dvd_right ..
  rw [Int.fdiv_eq_ediv_of_nonneg _ (Int.le_of_lt hg0), Int.fdiv_eq_ediv_of_nonneg _ (Int.le_of_lt hg0)]
  obtain ⟨n, rfl⟩ := ha
  obtain ⟨d, hd⟩ := hbd
  subst hd
  rw [Int.mul_ediv_cancel_left _ (by omega), Int.mul_ediv_cancel_left _ (by omega)]
  refine ⟨?_, ?_, ?_⟩
  · exact Int.pos_of_mul_pos_right hb (by omega)
  · rw [Int.mul_left_comm, Int.mul_assoc]
  · rw [Int.gcd_mul_left] at hg
    have h1 : (g.natAbs : Int) = g := by omega
    have : (g.natAbs : Int) * 1 = g.natAbs * (Int.gcd n d : Int) := by rw [Int.mul_one, h1]; rw [Int.natCast_mul, h1] at hg; exact hg
    have := Int.eq_of_mul_eq_mul_left (by omega) this
    omega

theorem noPy {x y : Int} (h0 : 0 < y) (h : y < 1152921504606846976) : Builtin.divisionGoesByPylong x y = false := by
  refine PyProof.noPylong_of_log2 ?_
  have h1 : y.natAbs ≠ 0 := by omega
  have h60 : y.natAbs.log2 < 60 := (Nat.log2_lt h1).mpr (by omega)
  omega
theorem dl_lt {d l : Int} (h0 : 0 < d) (h1 : d ≤ 45360) (h2 : 0 < l) (h3 : l ≤ 45360) : d * l < 1152921504606846976 := by
  have := Int.mul_le_mul h1 h3 (by omega) (by omega)
  omega
theorem cop_dvd {l u m : Int} (h : l ∣ u * m) (g : Int.gcd l u = 1) : l ∣ m := by
  have := Int.dvd_gcd_mul_iff_dvd_mul.mpr h
  rw [g] at this
  simpa using this
/-- u / l, in lowest terms, is z / 45360 -/
def Norm (u l z : Int) : Prop := 0 < l ∧ u * 45360 = z * l ∧ Int.gcd u l = 1
theorem Norm.pos {u l z : Int} (h : Norm u l z) : 0 < l := h.1
theorem Norm.dvd {u l z : Int} (h : Norm u l z) : l ∣ 45360 := by
  have h1 : l ∣ u * 45360 := ⟨z, by rw [h.2.1, Int.mul_comm]⟩
  exact cop_dvd h1 (by rw [Int.gcd_comm]; exact h.2.2)
theorem Norm.le {u l z : Int} (h : Norm u l z) : l ≤ 45360 := Int.le_of_dvd (by decide) h.dvd
theorem Norm.int (i : Int) : Norm i 1 (45360 * i) := ⟨by decide, by omega, by simp⟩
theorem Norm.lt_iff {u l z u' l' z' : Int} (h : Norm u l z) (h' : Norm u' l' z') : u * l' < u' * l ↔ z < z' := by
  have p : 0 < l * l' := Int.mul_pos h.1 h'.1
  have e1 : (u * l') * 45360 = z * (l * l') := by rw [Int.mul_right_comm, h.2.1, Int.mul_assoc]
  have e2 : (u' * l) * 45360 = z' * (l * l') := by rw [Int.mul_right_comm, h'.2.1, Int.mul_assoc, Int.mul_comm l' l]
  constructor
  · intro q
    refine Int.lt_of_mul_lt_mul_right (a := l * l') ?_ (Int.le_of_lt p)
    omega
  · intro q
    have := Int.mul_lt_mul_of_pos_right q p
    omega
theorem Norm.le_iff {u l z u' l' z' : Int} (h : Norm u l z) (h' : Norm u' l' z') : u * l' ≤ u' * l ↔ z ≤ z' := by
  have := h'.lt_iff h
  omega
theorem Norm.eq_iff {u l z u' l' z' : Int} (h : Norm u l z) (h' : Norm u' l' z') : (u = u' ∧ l = l') ↔ z = z' := by
  constructor
  · rintro ⟨rfl, rfl⟩
    have e : z * l = z' * l := h.2.1.symm.trans h'.2.1
    exact Int.eq_of_mul_eq_mul_right (by have := h.1; omega) e
  · rintro rfl
    have e1 : u * l' = u' * l := by
      have a := (h.le_iff h').mpr (Int.le_refl _)
      have b := (h'.le_iff h).mpr (Int.le_refl _)
      omega
    have d1 : l ∣ l' := by
      have : l ∣ u * l' := ⟨u', by rw [e1, Int.mul_comm]⟩
      exact cop_dvd this (by rw [Int.gcd_comm]; exact h.2.2)
    have d2 : l' ∣ l := by
      have : l' ∣ u' * l := ⟨u, by rw [← e1, Int.mul_comm]⟩
      exact cop_dvd this (by rw [Int.gcd_comm]; exact h'.2.2)
    have hl : l = l' := Int.le_antisymm (Int.le_of_dvd h'.1 d1) (Int.le_of_dvd h.1 d2)
    subst hl
    exact ⟨Int.eq_of_mul_eq_mul_right (by have := h.1; omega) e1, rfl⟩
theorem Norm.of_frac {a b n d z : Int} (hb : 0 < b) (h : a * 45360 = z * b) (hd : 0 < d) (he : n * b = a * d) (hg : Int.gcd n d = 1) : Norm n d z := by
  refine ⟨hd, ?_, hg⟩
  refine Int.eq_of_mul_eq_mul_right (a := b) (by omega) ?_
  rw [Int.mul_right_comm, he, Int.mul_right_comm, h, Int.mul_right_comm]
theorem Norm.neg {u l z : Int} (h : Norm u l z) : (-u) * 45360 = (-z) * l := by rw [Int.neg_mul, h.2.1, Int.neg_mul]
theorem Norm.add {u l z u' l' z' : Int} (h : Norm u l z) (h' : Norm u' l' z') : (u * l' + u' * l) * 45360 = (z + z') * (l * l') := by
  have e1 : (u * l') * 45360 = z * (l * l') := by rw [Int.mul_right_comm, h.2.1, Int.mul_assoc]
  have e2 : (u' * l) * 45360 = z' * (l * l') := by rw [Int.mul_right_comm, h'.2.1, Int.mul_assoc, Int.mul_comm l' l]
  rw [Int.add_mul, Int.add_mul, e1, e2]
theorem Norm.mul {u l z i : Int} (h : Norm u l z) : (u * i) * 45360 = (z * i) * (l * 1) := by
  rw [Int.mul_right_comm, h.2.1, Int.mul_right_comm, Int.mul_one]
end
section
local macro_rules | `(tactic| walk_at "my room") => `(tactic| first | assumption | (refine Room.deeper ?_; walk_at "my room") | (refine Room.make ?_; walk_at "my room") | (refine Room.in1 ?_; walk_at "my room") | exact Room.mono (by assumption) (by decide))
local macro_rules | `(tactic| k_room) => `(tactic| exact Room.lt (n := 0) (by walk_at "my room"))
local macro_rules | `(tactic| k_units) => `(tactic| exact Room.un (n := 0) (by walk_at "my room"))
local macro_rules | `(tactic| k_inst) => `(tactic| exact inst_keep (by assumption) (Fr.keep (by assumption)))
local macro_rules | `(tactic| walk_at "my enter") => `(tactic| (refine' call_top ?X ?T ?k1 ?k2 ?k3 ?k4 ?k5 ?_ ?c1 ?c2 ?c3 ?c4; (case X => assumption); (case T => assumption); (case k1 => k_is); (case k2 => k_is); (case k3 => k_room); (case k4 => (first | exact BindsTo.of_eq rfl | exact binds_K (by assumption) rfl (by k_is) rfl rfl rfl)); (case k5 => exact locs rfl); (case c1 => rfl); (case c2 => rfl); (case c3 => rfl); (case c4 => decide); intro L h₁ F N))
local macro_rules | `(tactic| walk_at "assign Tuple") => `(tactic| ((with_reducible show wpAny _ _ (assign (Expr.Tuple _ _ _) _ (Value.ref _)) _ _ _); refine unpackN_ (by assumption) (by assumption) (News.isTup (by assumption) (by k_mem)) (Room.handled (n := 0) (by walk_at "my room")) (by rfl) (by rfl) ?_; intro h' F' N'; (try k_sweep); (try dsimp only)))
local macro_rules | `(tactic| walk_at "unpackItems ref") => `(tactic| (refine unpackItemsN_ (by assumption) (by assumption) (News.isTup (by assumption) (by k_mem)) (Room.handled (n := 0) (by walk_at "my room")) (by rfl) ?_; intro h' F' N'; (try k_sweep); (try dsimp only)))
local macro_rules | `(tactic| units_room) => `(tactic| exact Room.un64 (n := 0) (by walk_at "my room"))
local macro_rules | `(tactic| walk_at "call ref") => `(tactic| ((with_reducible show wpAny _ _ (call (Value.ref 93) [Value.int _ _]) _ _ _); (with_reducible rename Fr _ _ _ _ => kF); (with_reducible rename News _ _ _ _ => kN); refine wpAny_call (parts_int (kx kF (by assumption)) (tx kF (by assumption)) (by walk_at "my room") ?_); intro a' s' t' hk' hn' ht'; (have F' := fr_ke hk' kF); (have N' := news_new hk' kF kN hn' ht'); obtain ⟨N', n1'⟩ := N'; (simp only [AllNe, and_true] at n1'); (clear kF kN); (rw [hk'.eq]); (try dsimp only)))
local macro_rules | `(tactic| walk_at "binaryOp FloorDiv int int") => `(tactic| (refine floordiv_int (by omega) ?_ (Or.inl (noPy (by omega) (by omega)))))
local macro_rules | `(tactic| walk_at "exec Raise") => `(tactic| (exfalso; omega))
local macro_rules | `(tactic| walk_at "exec While Name cons nil") => `(tactic| (refine Stopped.go ?_))
section
variable {prog : Program} {w : World} {A : Around} {s : Shared} {p : Program} {loose : List Str} {mg mb : Str → Option Value} {R : Result → Shared → Prop}
set_option pp.deepTerms false in
set_option pp.deepTerms.threshold 6 in
theorem frac_new {a b : Int} {t u : Tok} (X : (Mine.hd.heap_39 w.params).In s.heap) (T : TopRead p loose mg mb s.heap) (hA : Room A 8) (hb : 0 < b) (hb' : b < 1152921504606846976)
   (k : ∀ x s' n d, Ke s s' → s.heap.get? x = none → FrAt s'.heap x n d → 0 < d → n * b = a * d → Int.gcd n d = 1 → R (.ok (.ret (.ref x))) s') :
   codeAny (model prog w) A (.call (.ref 237) ⟨[.int a t, .int b u], []⟩) R s := by
  obtain ⟨h, g, d, tk, os⟩ := s
  refine make_core (makes_of X (by k_is)) (looks_findIn X (by k_is)) (fun self => bind_fn X self (by k_is)) (.inl rfl) ?_
  refine' call_led (b := h) (news := [(h.objs.size + 1, instObj 237 h.objs.size), (h.objs.size, dictOf [] 0)]) X T ?hb ?hs ?hn ?k1 ?k2 ?k3 ?k4 ?k5 ?_ ?c1 ?c2 ?c3 ?c4
  case hb => exact fun c o e => Heap.get?_push_of_some _ (Heap.get?_push_of_some _ e)
  case hs => simp only [Heap.size_push]; omega
  case hn =>
    have none_at : ∀ c : Nat, h.objs.size ≤ c → h.get? c = none := fun c hc => by
      cases q : h.get? c with
      | none => rfl
      | some o => exact absurd (Heap.lt_size q) (Nat.not_lt.mpr hc)
    intro p hp
    simp only [List.mem_cons, List.not_mem_nil, or_false] at hp
    rcases hp with rfl | rfl
    · exact ⟨by heap_get, none_at _ (Nat.le_succ _)⟩
    · exact ⟨Heap.get?_push_of_some _ (Heap.get?_push_size _ rfl), none_at _ (Nat.le_refl _)⟩
  case k1 => k_is
  case k2 => k_is
  case k3 => k_room
  case k4 => exact binds_K (Frag.In.keeps X (fun c o e => Heap.get?_push_of_some _ (Heap.get?_push_of_some _ e))) rfl (by k_is) rfl rfl rfl
  case k5 => exact locs rfl
  case c1 => rfl
  case c2 => rfl
  case c3 => rfl
  case c4 => decide
  intro L h₁ F N
  have lt : @LT.lt Nat _ h.objs.size (h.objs.size + 1) := Nat.lt_succ_self _
  dsimp only
  k_steps
  refine Stopped.on ?_
  rename Fr _ _ _ _ => F'
  rename News _ _ _ _ => N'
  refine euclid_while F' N' (by rfl) (by rfl) (by omega) ?_ ?_ ?_
  · rw [Int.mul_one, Int.mul_one, fmod_pos_eq hb]
    exact Int.emod_nonneg _ (by omega)
  · intro dv rs u1 u2 h₁ tk₁ hdv hrs F₁ N₁
    clear F' N'
    k_steps
    · rename Fr _ _ _ _ => F'
      rename News _ _ _ _ => N'
      refine Stopped.on ⟨rfl, by assumption, _, _, rfl, fun p hp => N' p (.tail _ hp), _, _, fr_nf F' (by rfl) (by rfl) ?_⟩
      intro y h1 h2
      simp only [nf, if_neg h1, if_neg h2]
    · rename Fr _ _ _ _ => F'
      rename News _ _ _ _ => N'
      exact Stopped.on ⟨by omega, _, _, rfl, N', F'⟩
  · intro gg u1 u2 h₁ tk₁ hg0 hg F₁ N₁
    clear F' N'
    have hgcd : gg = (Int.gcd a b : Int) := by
      rw [hg, Int.mul_one, Int.mul_one, fmod_pos_eq hb, gcd_emod]
    have hgb : gg ≤ b := by
      rw [hgcd]
      exact Int.le_of_dvd hb (Int.gcd_dvd_right ..)
    k_steps
    rename Fr _ _ _ _ => F'
    rename News _ _ _ _ => N'
    obtain ⟨r1, r2, r3⟩ := frac_norm hb hgcd
    dsimp only [InitBack]
    refine ⟨rfl, k _ _ ((a * 1).fdiv gg) ((b * 1).fdiv gg) (Ke.of F'.keep) (N' (_, instObj 237 h.objs.size) (by k_mem)).2.2 (by exact FrAt.mk (InstAt.of_news N' (by k_mem) (by k_mem))) ?_ ?_ ?_⟩
    · rw [Int.mul_one]; exact r1
    · rw [Int.mul_one, Int.mul_one]; exact r2
    · rw [Int.mul_one, Int.mul_one]; exact r3
end
/-- the object at x is a Fraction worth z / 45360 -/
def FracAt (h : Heap) (x : Addr) (z : Int) : Prop := ∃ n d, FrAt h x n d ∧ Norm n d z
/-- v is an int or a Fraction worth z / 45360 -/
def NumAt (h : Heap) (v : Value) (z : Int) : Prop := (∃ i t, v = .int i t ∧ z = 45360 * i) ∨ ∃ x, v = .ref x ∧ FracAt h x z
theorem FracAt.keep {h h' : Heap} {x : Addr} {z : Int} (F : FracAt h x z) (k : ∀ b o, h.get? b = some o → h'.get? b = some o) : FracAt h' x z := by
  obtain ⟨n, d, a, b⟩ := F
  exact ⟨n, d, a.keep k, b⟩
theorem NumAt.keep {h h' : Heap} {v : Value} {z : Int} (F : NumAt h v z) (k : ∀ b o, h.get? b = some o → h'.get? b = some o) : NumAt h' v z := by
  rcases F with ⟨i, t, e⟩ | ⟨x, e, f⟩
  · exact .inl ⟨i, t, e⟩
  · exact .inr ⟨x, e, f.keep k⟩
section
variable {prog : Program} {w : World} {A : Around} {s : Shared} {p : Program} {loose : List Str} {mg mb : Str → Option Value} {R : Result → Shared → Prop}
theorem frac_new' {a b z : Int} {t u : Tok} (X : (Mine.hd.heap_39 w.params).In s.heap) (T : TopRead p loose mg mb s.heap) (hA : Room A 8) (hb : 0 < b) (hb' : b < 1152921504606846976) (e : a * 45360 = z * b)
   (k : ∀ x s', Ke s s' → FracAt s'.heap x z → R (.ok (.ret (.ref x))) s') :
   codeAny (model prog w) A (.call (.ref 237) ⟨[.int a t, .int b u], []⟩) R s :=
  frac_new X T hA hb hb' fun x s' n d hk _ hf hd he hg => k x s' hk ⟨n, d, hf, Norm.of_frac hb e hd he hg⟩
end
end
local macro_rules | `(tactic| walk_at "my room") => `(tactic| first | assumption | (refine Room.deeper ?_; walk_at "my room") | (refine Room.make ?_; walk_at "my room") | (refine Room.in1 ?_; walk_at "my room") | exact Room.mono (by assumption) (by decide))
local macro_rules | `(tactic| k_room) => `(tactic| exact Room.lt (n := 0) (by walk_at "my room"))
local macro_rules | `(tactic| k_units) => `(tactic| exact Room.un (n := 0) (by walk_at "my room"))
local macro_rules | `(tactic| k_inst) => `(tactic| exact inst_keep (by assumption) (Fr.keep (by assumption)))
local macro_rules | `(tactic| walk_at "my enter") => `(tactic| (refine' call_top ?X ?T ?k1 ?k2 ?k3 ?k4 ?k5 ?_ ?c1 ?c2 ?c3 ?c4; (case X => assumption); (case T => assumption); (case k1 => k_is); (case k2 => k_is); (case k3 => k_room); (case k4 => (first | exact BindsTo.of_eq rfl | exact binds_K (by assumption) rfl (by k_is) rfl rfl rfl)); (case k5 => exact locs rfl); (case c1 => rfl); (case c2 => rfl); (case c3 => rfl); (case c4 => decide); intro L h₁ F N))
local macro_rules | `(tactic| walk_at "assign Tuple") => `(tactic| ((with_reducible show wpAny _ _ (assign (Expr.Tuple _ _ _) _ (Value.ref _)) _ _ _); refine unpackN_ (by assumption) (by assumption) (News.isTup (by assumption) (by k_mem)) (Room.handled (n := 0) (by walk_at "my room")) (by rfl) (by rfl) ?_; intro h' F' N'; (try k_sweep); (try dsimp only)))
local macro_rules | `(tactic| walk_at "unpackItems ref") => `(tactic| (refine unpackItemsN_ (by assumption) (by assumption) (News.isTup (by assumption) (by k_mem)) (Room.handled (n := 0) (by walk_at "my room")) (by rfl) ?_; intro h' F' N'; (try k_sweep); (try dsimp only)))
local macro_rules | `(tactic| units_room) => `(tactic| exact Room.un64 (n := 0) (by walk_at "my room"))
local macro_rules | `(tactic| walk_at "my ke") => `(tactic| (intro hk'; (have F' := fr_ke hk' kF); (have N' := news_ke hk' kN); (clear kF kN); (rw [hk'.eq]); (try dsimp only)))
local macro_rules | `(tactic| walk_at "call ref") => `(tactic| ((with_reducible show wpAny _ _ (call (Value.ref 93) [Value.int _ _]) _ _ _); (with_reducible rename Fr _ _ _ _ => kF); (with_reducible rename News _ _ _ _ => kN); refine wpAny_call (parts_int (kx kF (by assumption)) (tx kF (by assumption)) (by walk_at "my room") ?_); intro a' s' t' hk' hn' ht'; (have F' := fr_ke hk' kF); (have N' := news_new hk' kF kN hn' ht'); obtain ⟨N', n1'⟩ := N'; (simp only [AllNe, and_true] at n1'); (clear kF kN); (rw [hk'.eq]); (try dsimp only)))
local macro_rules | `(tactic| walk_at "call ref") => `(tactic| ((with_reducible show wpAny _ _ (call (Value.ref 93) [Value.ref _]) _ _ _); (with_reducible rename Fr _ _ _ _ => kF); (with_reducible rename News _ _ _ _ => kN); refine wpAny_call (parts_fr (kx kF (by assumption)) (tx kF (by assumption)) (by walk_at "my room") (FrAt.keep (by assumption) (Fr.keep kF)) ?_); intro a' s' t' u' hk' hn' ht'; (have F' := fr_ke hk' kF); (have N' := news_new hk' kF kN hn' ht'); obtain ⟨N', n1'⟩ := N'; (simp only [AllNe, and_true] at n1'); (clear kF kN); (rw [hk'.eq]); (try dsimp only)))
local macro_rules | `(tactic| walk_at "my pos") => `(tactic| first | omega | exact Int.mul_pos (by omega) (by omega))
local macro_rules | `(tactic| walk_at "my lt") => `(tactic| first | omega | exact dl_lt (by omega) (by omega) (by omega) (by omega))
local macro_rules | `(tactic| walk_at "binaryOp FloorDiv int int") => `(tactic| (refine floordiv_int (by omega) ?_ (Or.inl (noPy (by omega) (by omega)))))
section
local macro_rules | `(tactic| walk_at "call ref") => `(tactic| ((with_reducible show wpAny _ _ (call (Value.ref 237) [Value.int _ _, Value.int _ _]) _ _ _); (refine Stopped.go ?_)))
section
variable {prog : Program} {w : World} {A : Around} {s : Shared} {p : Program} {loose : List Str} {mg mb : Str → Option Value} {R : Result → Shared → Prop}
theorem frac_neg {x : Addr} {z : Int} (X : (Mine.hd.heap_39 w.params).In s.heap) (T : TopRead p loose mg mb s.heap) (hA : Room A 12) (Hx : FracAt s.heap x z)
   (k : ∀ y s', Ke s s' → FracAt s'.heap y (-z) → R (.ok (.ret (.ref y))) s') :
   codeAny (model prog w) A (.call (.ref 143) ⟨[.ref x], []⟩) R s := by
  obtain ⟨n, d, Fx, Nx⟩ := Hx
  have hd0 := Nx.pos
  have hd1 := Nx.le
  have ⟨dx, _, _, _, _, _, _, I⟩ := Fx
  walk_at "my enter"
  k_steps
  rename Fr _ _ _ _ => kF
  refine Stopped.on (wpAny_call (frac_new' (kx kF X) (tx kF T) (by walk_at "my room") (by walk_at "my pos") (by walk_at "my lt") (Nx.neg) ?_))
  exact fun y s' hk hy => k y s' (.trans (.of kF.keep) hk) hy
theorem frac_add {x : Addr} {v : Value} {z z' : Int} (X : (Mine.hd.heap_39 w.params).In s.heap) (T : TopRead p loose mg mb s.heap) (hA : Room A 12) (Hx : FracAt s.heap x z) (Hv : NumAt s.heap v z')
   (k : ∀ y s', Ke s s' → FracAt s'.heap y (z + z') → R (.ok (.ret (.ref y))) s') :
   codeAny (model prog w) A (.call (.ref 150) ⟨[.ref x, v], []⟩) R s := by
  obtain ⟨n, d, Fx, Nx⟩ := Hx
  have hd0 := Nx.pos
  have hd1 := Nx.le
  have ⟨dx, _, _, _, _, _, _, I⟩ := Fx
  rcases Hv with ⟨i, t, rfl, rfl⟩ | ⟨y, rfl, u, l, Fy, Ny⟩
  · walk_at "my enter"
    k_steps
    rename Fr _ _ _ _ => kF
    refine Stopped.on (wpAny_call (frac_new' (kx kF X) (tx kF T) (by walk_at "my room") (by walk_at "my pos") (by walk_at "my lt") (Nx.add (Norm.int i)) ?_))
    exact fun y s' hk hy => k y s' (.trans (.of kF.keep) hk) hy
  · have hl0 := Ny.pos
    have hl1 := Ny.le
    walk_at "my enter"
    k_steps
    rename Fr _ _ _ _ => kF
    refine Stopped.on (wpAny_call (frac_new' (kx kF X) (tx kF T) (by walk_at "my room") (by walk_at "my pos") (by walk_at "my lt") (Nx.add Ny) ?_))
    exact fun y s' hk hy => k y s' (.trans (.of kF.keep) hk) hy
theorem frac_mul {x : Addr} {i : Int} {t : Tok} {z : Int} (X : (Mine.hd.heap_39 w.params).In s.heap) (T : TopRead p loose mg mb s.heap) (hA : Room A 12) (Hx : FracAt s.heap x z) (hi : -1000 < i ∧ i < 1000)
   (k : ∀ y s', Ke s s' → FracAt s'.heap y (z * i) → R (.ok (.ret (.ref y))) s') :
   codeAny (model prog w) A (.call (.ref 178) ⟨[.ref x, .int i t], []⟩) R s := by
  obtain ⟨n, d, Fx, Nx⟩ := Hx
  have hd0 := Nx.pos
  have hd1 := Nx.le
  have ⟨dx, _, _, _, _, _, _, I⟩ := Fx
  walk_at "my enter"
  k_steps
  rename Fr _ _ _ _ => kF
  refine Stopped.on (wpAny_call (frac_new' (kx kF X) (tx kF T) (by walk_at "my room") (by walk_at "my pos") (by walk_at "my lt") (Nx.mul (i := i)) ?_))
  exact fun y s' hk hy => k y s' (.trans (.of kF.keep) hk) hy
theorem frac_lt {x : Addr} {v : Value} {z z' : Int} (X : (Mine.hd.heap_39 w.params).In s.heap) (T : TopRead p loose mg mb s.heap) (hA : Room A 12) (Hx : FracAt s.heap x z) (Hv : NumAt s.heap v z')
   (k : ∀ s', Ke s s' → R (.ok (.ret (.bool (decide (z < z'))))) s') :
   codeAny (model prog w) A (.call (.ref 213) ⟨[.ref x, v], []⟩) R s := by
  obtain ⟨n, d, Fx, Nx⟩ := Hx
  have hd0 := Nx.pos
  have hd1 := Nx.le
  have ⟨dx, _, _, _, _, _, _, I⟩ := Fx
  rcases Hv with ⟨i, t, rfl, rfl⟩ | ⟨y, rfl, u, l, Fy, Ny⟩
  · walk_at "my enter"
    k_steps
    rename Fr _ _ _ _ => kF
    rw [decide_eq_decide.mpr (Nx.lt_iff (Norm.int i))]
    exact k _ (.of kF.keep)
  · have hl0 := Ny.pos
    have hl1 := Ny.le
    walk_at "my enter"
    k_steps
    rename Fr _ _ _ _ => kF
    rw [decide_eq_decide.mpr (Nx.lt_iff Ny)]
    exact k _ (.of kF.keep)
theorem frac_le {x : Addr} {v : Value} {z z' : Int} (X : (Mine.hd.heap_39 w.params).In s.heap) (T : TopRead p loose mg mb s.heap) (hA : Room A 12) (Hx : FracAt s.heap x z) (Hv : NumAt s.heap v z')
   (k : ∀ s', Ke s s' → R (.ok (.ret (.bool (decide (z ≤ z'))))) s') :
   codeAny (model prog w) A (.call (.ref 220) ⟨[.ref x, v], []⟩) R s := by
  obtain ⟨n, d, Fx, Nx⟩ := Hx
  have hd0 := Nx.pos
  have hd1 := Nx.le
  have ⟨dx, _, _, _, _, _, _, I⟩ := Fx
  rcases Hv with ⟨i, t, rfl, rfl⟩ | ⟨y, rfl, u, l, Fy, Ny⟩
  · walk_at "my enter"
    k_steps
    rename Fr _ _ _ _ => kF
    rw [decide_eq_decide.mpr (Nx.le_iff (Norm.int i))]
    exact k _ (.of kF.keep)
  · have hl0 := Ny.pos
    have hl1 := Ny.le
    walk_at "my enter"
    k_steps
    rename Fr _ _ _ _ => kF
    rw [decide_eq_decide.mpr (Nx.le_iff Ny)]
    exact k _ (.of kF.keep)
end
end
local macro_rules | `(tactic| k_inst) => `(tactic| assumption)
local macro_rules | `(tactic| walk_at "my frac") => `(tactic| first | assumption | exact FracAt.keep (by assumption) (Fr.keep (by assumption)))
local macro_rules | `(tactic| walk_at "my num") => `(tactic| first | assumption | exact NumAt.keep (by assumption) (Fr.keep (by assumption)) | exact .inl ⟨_, _, rfl, rfl⟩ | exact .inr ⟨_, rfl, by walk_at "my frac"⟩)
local macro_rules | `(tactic| walk_at "my done") => `(tactic| (intro y' s' hk' hy'; (with_reducible rename Fr _ _ _ _ => kF); (with_reducible rename News _ _ _ _ => kN); (have F' := fr_ke hk' kF); (have N' := news_ke hk' kN); (have hy'' := hy'); obtain ⟨n', d', Fy', Ny'⟩ := hy''; obtain ⟨dx', a', b', c', e', f', g', I'⟩ := Fy'; (clear kF kN); (rw [hk'.eq]); (try dsimp only [PySem.W.CmpBack])))
local macro_rules | `(tactic| walk_at "my done1") => `(tactic| (intro s' hk'; (with_reducible rename Fr _ _ _ _ => kF); (with_reducible rename News _ _ _ _ => kN); (have F' := fr_ke hk' kF); (have N' := news_ke hk' kN); (clear kF kN); (rw [hk'.eq]); (try dsimp only [PySem.W.CmpBack])))
local macro_rules | `(tactic| walk_at "call ref") => `(tactic| ((with_reducible show wpAny _ _ (call (Value.ref 143) [Value.ref _]) _ _ _); (refine wpAny_call (frac_neg (kx (by assumption) (by assumption)) (tx (by assumption) (by assumption)) (by walk_at "my room") (by walk_at "my frac") ?_)); walk_at "my done"))
local macro_rules | `(tactic| walk_at "call ref") => `(tactic| ((with_reducible show wpAny _ _ (call (Value.ref 150) [Value.ref _, _]) _ _ _); (refine wpAny_call (frac_add (kx (by assumption) (by assumption)) (tx (by assumption) (by assumption)) (by walk_at "my room") (by walk_at "my frac") (by walk_at "my num") ?_)); walk_at "my done"))
local macro_rules | `(tactic| walk_at "call ref") => `(tactic| ((with_reducible show wpAny _ _ (call (Value.ref 178) [Value.ref _, _]) _ _ _); (refine wpAny_call (frac_mul (kx (by assumption) (by assumption)) (tx (by assumption) (by assumption)) (by walk_at "my room") (by walk_at "my frac") (by constructor <;> omega) ?_)); walk_at "my done"))
local macro_rules | `(tactic| walk_at "call ref") => `(tactic| ((with_reducible show wpAny _ _ (call (Value.ref 213) [Value.ref _, _]) _ _ _); (refine wpAny_call (frac_lt (kx (by assumption) (by assumption)) (tx (by assumption) (by assumption)) (by walk_at "my room") (by walk_at "my frac") (by walk_at "my num") ?_)); walk_at "my done1"))
local macro_rules | `(tactic| walk_at "call ref") => `(tactic| ((with_reducible show wpAny _ _ (call (Value.ref 220) [Value.ref _, _]) _ _ _); (refine wpAny_call (frac_le (kx (by assumption) (by assumption)) (tx (by assumption) (by assumption)) (by walk_at "my room") (by walk_at "my frac") (by walk_at "my num") ?_)); walk_at "my done1"))
section
section
variable {prog : Program} {w : World} {A : Around} {s : Shared} {p : Program} {loose : List Str} {mg mb : Str → Option Value} {R : Result → Shared → Prop}
theorem frac_radd {x : Addr} {v : Value} {z z' : Int} (X : (Mine.hd.heap_39 w.params).In s.heap) (T : TopRead p loose mg mb s.heap) (hA : Room A 16) (Hx : FracAt s.heap x z) (Hv : NumAt s.heap v z')
   (k : ∀ y s', Ke s s' → FracAt s'.heap y (z + z') → R (.ok (.ret (.ref y))) s') :
   codeAny (model prog w) A (.call (.ref 157) ⟨[.ref x, v], []⟩) R s := by
  have Hx' := Hx
  obtain ⟨n, d, Fx, Nx⟩ := Hx'
  have ⟨dx, _, _, _, _, _, _, I⟩ := Fx
  have Hv' := Hv
  rcases Hv' with ⟨i, t, rfl, _⟩ | ⟨y, rfl, u, l, Fy, Ny⟩
  · walk_at "my enter"
    k_steps
    rename Fr _ _ _ _ => kF
    rename FracAt _ _ _ => hy
    exact k _ _ (.of kF.keep) hy
  · have ⟨dy, _, _, _, _, _, _, I2⟩ := Fy
    walk_at "my enter"
    k_steps
    rename Fr _ _ _ _ => kF
    rename FracAt _ _ _ => hy
    exact k _ _ (.of kF.keep) hy
theorem frac_rmul {x : Addr} {i : Int} {t : Tok} {z : Int} (X : (Mine.hd.heap_39 w.params).In s.heap) (T : TopRead p loose mg mb s.heap) (hA : Room A 16) (Hx : FracAt s.heap x z) (hi : -1000 < i ∧ i < 1000)
   (k : ∀ y s', Ke s s' → FracAt s'.heap y (z * i) → R (.ok (.ret (.ref y))) s') :
   codeAny (model prog w) A (.call (.ref 185) ⟨[.ref x, .int i t], []⟩) R s := by
  have Hx' := Hx
  obtain ⟨n, d, Fx, Nx⟩ := Hx'
  have ⟨dx, _, _, _, _, _, _, I⟩ := Fx
  walk_at "my enter"
  k_steps
  rename Fr _ _ _ _ => kF
  rename FracAt _ _ _ => hy
  exact k _ _ (.of kF.keep) hy
theorem frac_sub {x : Addr} {v : Value} {z z' : Int} (X : (Mine.hd.heap_39 w.params).In s.heap) (T : TopRead p loose mg mb s.heap) (hA : Room A 16) (Hx : FracAt s.heap x z) (Hv : NumAt s.heap v z')
   (k : ∀ y s', Ke s s' → FracAt s'.heap y (z - z') → R (.ok (.ret (.ref y))) s') :
   codeAny (model prog w) A (.call (.ref 164) ⟨[.ref x, v], []⟩) R s := by
  have Hx' := Hx
  obtain ⟨n, d, Fx, Nx⟩ := Hx'
  have ⟨dx, _, _, _, _, _, _, I⟩ := Fx
  have Hv' := Hv
  rcases Hv' with ⟨i, t, rfl, rfl⟩ | ⟨y, rfl, u, l, Fy, Ny⟩
  · walk_at "my enter"
    k_steps
    rename Fr _ _ _ _ => kF
    rename FracAt _ _ _ => hy
    exact k _ _ (.of kF.keep) (by rw [show z - 45360 * i = z + 45360 * -i by omega]; exact hy)
  · have ⟨dy, _, _, _, _, _, _, I2⟩ := Fy
    have Hy : FracAt s.heap y z' := ⟨u, l, Fy, Ny⟩
    walk_at "my enter"
    k_steps
    rename Fr _ _ _ _ => kF
    rename FracAt _ _ _ => hy
    exact k _ _ (.of kF.keep) hy
theorem frac_rsub {x : Addr} {v : Value} {z z' : Int} (X : (Mine.hd.heap_39 w.params).In s.heap) (T : TopRead p loose mg mb s.heap) (hA : Room A 16) (Hx : FracAt s.heap x z) (Hv : NumAt s.heap v z')
   (k : ∀ y s', Ke s s' → FracAt s'.heap y (-z + z') → R (.ok (.ret (.ref y))) s') :
   codeAny (model prog w) A (.call (.ref 171) ⟨[.ref x, v], []⟩) R s := by
  have Hx' := Hx
  obtain ⟨n, d, Fx, Nx⟩ := Hx'
  have ⟨dx, _, _, _, _, _, _, I⟩ := Fx
  have Hv' := Hv
  rcases Hv' with ⟨i, t, rfl, _⟩ | ⟨y, rfl, u, l, Fy, Ny⟩
  · walk_at "my enter"
    k_steps
    rename Fr _ _ _ _ => kF
    rename FracAt _ _ _ => hy
    exact k _ _ (.of kF.keep) hy
  · have ⟨dy, _, _, _, _, _, _, I2⟩ := Fy
    walk_at "my enter"
    k_steps
    rename Fr _ _ _ _ => kF
    rename FracAt _ _ _ => hy
    exact k _ _ (.of kF.keep) hy
theorem frac_gt {x : Addr} {v : Value} {z z' : Int} (X : (Mine.hd.heap_39 w.params).In s.heap) (T : TopRead p loose mg mb s.heap) (hA : Room A 16) (Hx : FracAt s.heap x z) (Hv : NumAt s.heap v z')
   (k : ∀ s', Ke s s' → R (.ok (.ret (.bool (!decide (z ≤ z'))))) s') :
   codeAny (model prog w) A (.call (.ref 227) ⟨[.ref x, v], []⟩) R s := by
  have Hx' := Hx
  obtain ⟨n, d, Fx, Nx⟩ := Hx'
  have ⟨dx, _, _, _, _, _, _, I⟩ := Fx
  have Hv' := Hv
  rcases Hv' with ⟨i, t, rfl, _⟩ | ⟨y, rfl, u, l, Fy, Ny⟩
  · walk_at "my enter"
    k_steps
    rename Fr _ _ _ _ => kF
    exact k _ (.of kF.keep)
  · have ⟨dy, _, _, _, _, _, _, I2⟩ := Fy
    walk_at "my enter"
    k_steps
    rename Fr _ _ _ _ => kF
    exact k _ (.of kF.keep)
theorem frac_ge {x : Addr} {v : Value} {z z' : Int} (X : (Mine.hd.heap_39 w.params).In s.heap) (T : TopRead p loose mg mb s.heap) (hA : Room A 16) (Hx : FracAt s.heap x z) (Hv : NumAt s.heap v z')
   (k : ∀ s', Ke s s' → R (.ok (.ret (.bool (!decide (z < z'))))) s') :
   codeAny (model prog w) A (.call (.ref 234) ⟨[.ref x, v], []⟩) R s := by
  have Hx' := Hx
  obtain ⟨n, d, Fx, Nx⟩ := Hx'
  have ⟨dx, _, _, _, _, _, _, I⟩ := Fx
  have Hv' := Hv
  rcases Hv' with ⟨i, t, rfl, _⟩ | ⟨y, rfl, u, l, Fy, Ny⟩
  · walk_at "my enter"
    k_steps
    rename Fr _ _ _ _ => kF
    exact k _ (.of kF.keep)
  · have ⟨dy, _, _, _, _, _, _, I2⟩ := Fy
    walk_at "my enter"
    k_steps
    rename Fr _ _ _ _ => kF
    exact k _ (.of kF.keep)
end
end
section
theorem eq_beq {n d u l : Int} {z z' : Int} (h : (n = u ∧ d = l) ↔ z = z') : (n == u && d == l) = decide (z = z') := by
  rw [Bool.eq_iff_iff, Bool.and_eq_true, beq_iff_eq, beq_iff_eq, decide_eq_true_iff]
  exact h
section
variable {prog : Program} {w : World} {A : Around} {s : Shared} {p : Program} {loose : List Str} {mg mb : Str → Option Value} {R : Result → Shared → Prop}
theorem frac_eq {x : Addr} {v : Value} {z z' : Int} (X : (Mine.hd.heap_39 w.params).In s.heap) (T : TopRead p loose mg mb s.heap) (hA : Room A 16) (Hx : FracAt s.heap x z) (Hv : NumAt s.heap v z')
   (k : ∀ s', Ke s s' → R (.ok (.ret (.bool (decide (z = z'))))) s') :
   codeAny (model prog w) A (.call (.ref 206) ⟨[.ref x, v], []⟩) R s := by
  have Hx' := Hx
  obtain ⟨n, d, Fx, Nx⟩ := Hx'
  have ⟨dx, _, _, _, _, _, _, I⟩ := Fx
  have Hv' := Hv
  rcases Hv' with ⟨i, t, rfl, rfl⟩ | ⟨y, rfl, u, l, Fy, Ny⟩
  · walk_at "my enter"
    k_steps
    rename Fr _ _ _ _ => kF
    rw [eq_beq (Nx.eq_iff (Norm.int i))]
    exact k _ (.of kF.keep)
  · have ⟨dy, _, _, _, _, _, _, I2⟩ := Fy
    walk_at "my enter"
    k_steps
    rename Fr _ _ _ _ => kF
    rw [eq_beq (Nx.eq_iff Ny)]
    exact k _ (.of kF.keep)
end

section
variable {prog : Program} {w : World} {A : Around} {s : Shared} {E : Value → Shared → Prop} {nm : String} {a b ta tb : Value} {h : Heap} {g : Array GenState} {d : Drawn} {t : Nat} {os : OsState}
/-- two of one type, whose left method answers -/
theorem op1_same {Q : Option Value → Shared → Prop} (L1 : Looks (model prog w) h (typeOf a) ta) (L2 : Looks (model prog w) h (typeOf b) ta) (L3 : Looks (model prog w) h (fillsNumberSlot ta nm) true)
    (one : wpAny (model prog w) A (tryMethod a (dunder nm) b) (fun r s' => (∃ v, r = some v) ∧ Q r s') E ⟨h, g, d, t, os⟩) : wpAny (model prog w) A (binaryOp1 nm a b) Q E ⟨h, g, d, t, os⟩ := by
  unfold binaryOp1
  refine wpAny_bind (L1.at (wpAny_bind (L2.at (wpAny_bind (L3.at ?_)))))
  simp only [beq_self_eq_true, if_true]
  refine wpAny_bind (wpAny_pure ?_)
  simp only [Bool.and_false, Bool.false_and, Bool.false_eq_true, if_false, if_true]
  refine wpAny_bind (wpAny_pure ?_)
  simp only [Bool.false_eq_true, if_false]
  refine wpAny_bind (m := tryMethod a _ b) (wpAny_mono one (fun r s' hr => ?_) fun _ _ e => e)
  obtain ⟨⟨v, rfl⟩, hq⟩ := hr
  exact wpAny_pure hq
end
end
section
section
variable {prog : Program} {w : World} {A : Around} {s : Shared} {E : Value → Shared → Prop} {nm : String} {a b ta tb : Value} {h : Heap} {g : Array GenState} {d : Drawn} {t : Nat} {os : OsState}
/-- the left one's type is the text's own (its slot goes by name), the right one's is built in: the left method answers -/
theorem op1_own {Q : Option Value → Shared → Prop} {ro : Option Value} (L1 : Looks (model prog w) h (typeOf a) ta) (L2 : Looks (model prog w) h (typeOf b) tb) (L3 : Looks (model prog w) h (fillsNumberSlot ta nm) true) (hne : (ta == tb) = false)
    (L4 : Looks (model prog w) h (fillsNumberSlot tb nm) true) (L5 : Looks (model prog w) h (isSubtype tb ta) false) (L6 : Looks (model prog w) h (numberSlotInPython ta nm) true) (L7 : Looks (model prog w) h (numberSlotInPython tb nm) false)
    (L8 : Looks (model prog w) h (typeLookup tb (dunderR nm)) ro)
    (one : wpAny (model prog w) A (tryMethod a (dunder nm) b) (fun r s' => (∃ v, r = some v) ∧ Q r s') E ⟨h, g, d, t, os⟩) : wpAny (model prog w) A (binaryOp1 nm a b) Q E ⟨h, g, d, t, os⟩ := by
  unfold binaryOp1
  refine wpAny_bind (L1.at (wpAny_bind (L2.at (wpAny_bind (L3.at ?_)))))
  simp only [hne, Bool.false_eq_true, if_false]
  repeat ((fail_if_success (with_reducible show wpAny _ _ (tryMethod _ _ _) _ _ _)); lk)
  refine wpAny_mono one (fun r s' hr => ?_) fun _ _ e => e
  obtain ⟨⟨v, rfl⟩, hq⟩ := hr
  repeat lk
  exact hq
/-- the left one's type is built in and declines: the right one's reflected method answers -/
theorem op1_refl {Q : Option Value → Shared → Prop} (L1 : Looks (model prog w) h (typeOf a) ta) (L2 : Looks (model prog w) h (typeOf b) tb) (L3 : Looks (model prog w) h (fillsNumberSlot ta nm) true) (hne : (ta == tb) = false)
    (L4 : Looks (model prog w) h (fillsNumberSlot tb nm) true) (L5 : Looks (model prog w) h (isSubtype tb ta) false) (L6 : Looks (model prog w) h (numberSlotInPython ta nm) false)
    (no : wpAny (model prog w) A (tryMethod a (dunder nm) b) (fun r s' => r = none ∧ s' = ⟨h, g, d, t, os⟩) E ⟨h, g, d, t, os⟩)
    (one : wpAny (model prog w) A (tryMethod b (dunderR nm) a) (fun r s' => (∃ v, r = some v) ∧ Q r s') E ⟨h, g, d, t, os⟩) : wpAny (model prog w) A (binaryOp1 nm a b) Q E ⟨h, g, d, t, os⟩ := by
  unfold binaryOp1
  refine wpAny_bind (L1.at (wpAny_bind (L2.at (wpAny_bind (L3.at ?_)))))
  simp only [hne, Bool.false_eq_true, if_false]
  repeat ((fail_if_success (with_reducible show wpAny _ _ (tryMethod _ _ _) _ _ _)); lk)
  refine wpAny_mono no (fun r s' hr => ?_) fun _ _ e => e
  obtain ⟨rfl, rfl⟩ := hr
  repeat ((fail_if_success (with_reducible show wpAny _ _ (tryMethod _ _ _) _ _ _)); lk)
  refine wpAny_mono one (fun r s' hr => ?_) fun _ _ e => e
  obtain ⟨⟨v, rfl⟩, hq⟩ := hr
  repeat lk
  exact hq
theorem try_special {M : Model} {A : Around} {E : Value → Shared → Prop} {s : Shared} {a b f tp : Value} {name : Str} {Q : Option Value → Shared → Prop} (L1 : Looks M s.heap (specialOf a name) (some f)) (L2 : Looks M s.heap (bindSpecial f a) (f, [a]))
    (h : wpAny M A (call f [a, b]) (fun v s' => v ≠ .notImplemented ∧ Q (some v) s') E s) : wpAny M A (tryMethod a name b) (fun r s' => (∃ v, r = some v) ∧ Q r s') E s := by
  unfold tryMethod callSpecial?
  refine wpAny_bind (wpAny_bind (L1.here ?_))
  dsimp only
  refine wpAny_holding (wpAny_bind (L2.here ?_))
  refine wpAny_bind (wpAny_mono h (fun v s' hv => ?_) fun _ _ e => e)
  obtain ⟨h1, h2⟩ := hv
  refine wpAny_pure ?_
  cases v <;> first | exact (h1 rfl).elim | exact wpAny_pure ⟨⟨_, rfl⟩, h2⟩
theorem try_decline {M : Model} {A : Around} {E : Value → Shared → Prop} {s : Shared} {a b f : Value} {name : Str} (L1 : Looks M s.heap (specialOf a name) (some f)) (L2 : Looks M s.heap (bindSpecial f a) (f, [a]))
    (h : wpAny M A (call f [a, b]) (fun v s' => v = .notImplemented ∧ s' = s) E s) : wpAny M A (tryMethod a name b) (fun r s' => r = none ∧ s' = s) E s := by
  unfold tryMethod callSpecial?
  refine wpAny_bind (wpAny_bind (L1.here ?_))
  dsimp only
  refine wpAny_holding (wpAny_bind (L2.here ?_))
  refine wpAny_bind (wpAny_mono h (fun v s' hv => ?_) fun _ _ e => e)
  obtain ⟨rfl, rfl⟩ := hv
  exact wpAny_pure (wpAny_pure ⟨rfl, rfl⟩)
/-- an int's own method declines an instance -/
theorem int_declines {prog : Program} {w : World} {A : Around} {E : Value → Shared → Prop} {s : Shared} {name id : String} {f : Int → Int → Sem Fin} {r : Bool} {nm : Str} {B : Builtin} {i : Int} {t : Tok} {x C : Addr} {ox : Obj} {od : Option Obj} (S : Slot "int" nm id) (hB : entryFor table id = some B)
    (ha : argsOk id ⟨[.int i t, .ref x], []⟩) (e : B = PySem.Builtin.Int.intBinary name f r) (hs : slotArgs name 1 ⟨[.int i t, .ref x], []⟩ = pure (.int i t, [.ref x])) (I : InstAt s.heap x ox C od) (hp : ox.data = .plain) :
    wpAny (model prog w) A (call (.builtin id) [.int i t, .ref x]) (fun v s' => v = .notImplemented ∧ s' = s) E s := by
  refine wpAny_call_entry S (typeIs_int s i t) hB ?_ ha
  rw [e]
  unfold PySem.Builtin.Int.intBinary
  rw [hs]
  refine wpAny_bind (wpAny_pure (wpAny_bind (wpAny_pure ?_)))
  refine wpAny_bind ?_
  show wpAny _ _ (asInt? (.ref x)) _ _ _
  unfold asInt?
  refine wpAny_bind (wpAny_load I.at_ ?_)
  rw [hp]
  exact wpAny_pure (wpAny_bind (wpAny_rule (wpAny_pure ⟨_, rfl, rfl, rfl⟩)))
end
section
variable {prog : Program} {w : World} {A : Around} {E : Value → Shared → Prop} {s : Shared} {i : Int} {t : Tok} {x C : Addr} {ox : Obj} {od : Option Obj}
open PySem.Builtin PySem.Builtin.Int
theorem add_declines (I : InstAt s.heap x ox C od) (hp : ox.data = .plain) : wpAny (model prog w) A (call (.builtin "int.__add__") [.int i t, .ref x]) (fun v s' => v = .notImplemented ∧ s' = s) E s :=
  int_declines PySem.F.slot_int_add PySem.F.entry_int_add (PySem.F.args_int_add_2 _ _) rfl rfl I hp
theorem sub_declines (I : InstAt s.heap x ox C od) (hp : ox.data = .plain) : wpAny (model prog w) A (call (.builtin "int.__sub__") [.int i t, .ref x]) (fun v s' => v = .notImplemented ∧ s' = s) E s :=
  int_declines PySem.F.slot_int_sub PySem.F.entry_int_sub (PySem.F.args_int_sub_2 _ _) rfl rfl I hp
theorem mul_declines (I : InstAt s.heap x ox C od) (hp : ox.data = .plain) : wpAny (model prog w) A (call (.builtin "int.__mul__") [.int i t, .ref x]) (fun v s' => v = .notImplemented ∧ s' = s) E s :=
  int_declines PySem.F.slot_int_mul PySem.F.entry_int_mul (PySem.F.args_int_mul_2 _ _) rfl rfl I hp
theorem lt_declines (I : InstAt s.heap x ox C od) (hp : ox.data = .plain) : wpAny (model prog w) A (call (.builtin "int.__lt__") [.int i t, .ref x]) (fun v s' => v = .notImplemented ∧ s' = s) E s :=
  int_declines PySem.F.slot_int_lt PySem.F.entry_int_lt (PySem.F.args_int_lt_2 _ _) rfl rfl I hp
theorem le_declines (I : InstAt s.heap x ox C od) (hp : ox.data = .plain) : wpAny (model prog w) A (call (.builtin "int.__le__") [.int i t, .ref x]) (fun v s' => v = .notImplemented ∧ s' = s) E s :=
  int_declines PySem.F.slot_int_le PySem.F.entry_int_le (PySem.F.args_int_le_2 _ _) rfl rfl I hp
theorem gt_declines (I : InstAt s.heap x ox C od) (hp : ox.data = .plain) : wpAny (model prog w) A (call (.builtin "int.__gt__") [.int i t, .ref x]) (fun v s' => v = .notImplemented ∧ s' = s) E s :=
  int_declines PySem.F.slot_int_gt PySem.F.entry_int_gt (PySem.F.args_int_gt_2 _ _) rfl rfl I hp
theorem ge_declines (I : InstAt s.heap x ox C od) (hp : ox.data = .plain) : wpAny (model prog w) A (call (.builtin "int.__ge__") [.int i t, .ref x]) (fun v s' => v = .notImplemented ∧ s' = s) E s :=
  int_declines PySem.F.slot_int_ge PySem.F.entry_int_ge (PySem.F.args_int_ge_2 _ _) rfl rfl I hp
theorem ne_declines (I : InstAt s.heap x ox C od) (hp : ox.data = .plain) : wpAny (model prog w) A (call (.builtin "int.__ne__") [.int i t, .ref x]) (fun v s' => v = .notImplemented ∧ s' = s) E s :=
  int_declines PySem.F.slot_int_ne PySem.F.entry_int_ne (PySem.F.args_int_ne_2 _ _) rfl rfl I hp
end
end
section
theorem int_special {M : Model} {h : Heap} {nm : Str} {id : String} {i : Int} {t : Tok} (S : Slot "int" nm id) : Looks M h (specialOf (.int i t) nm) (some (.builtin id)) := Looks.of_pure S.lookup
theorem int_bind {M : Model} {h : Heap} {nm : Str} {id : String} {v : Value} (S : Slot "int" nm id) : Looks M h (bindSpecial (.builtin id) v) (.builtin id, [v]) := Looks.of_pure (S.bind v)
theorem ne_of_int {i : Int} {t : Tok} : Value.int i t ≠ .notImplemented := fun e => nomatch e
theorem ne_of_ref {x : Addr} : Value.ref x ≠ .notImplemented := fun e => nomatch e
theorem ne_of_bool {x : Bool} : Value.bool x ≠ .notImplemented := fun e => nomatch e
theorem frac_special {K : Frag} {M : Model} {h : Heap} {x f : Addr} {dx : Addr} {od : Option Obj} {name : Str} (X : K.In h) (I : InstAt h x (instObj 237 dx) 237 od) (e : findIn K (.ref 237) name = some (some (.ref f))) : Looks M h (specialOf (.ref x) name) (some (.ref f)) :=
  I.type.andThen (looks_findIn X e)
theorem type_int {M : Model} {h : Heap} {i : Int} {t : Tok} : Looks M h (typeOf (.int i t)) (.type "int") := Looks.of_pure rfl
section
variable {prog : Program} {w : World} {A : Around} {s : Shared} {E : Value → Shared → Prop} {a b : Value} {z z' : Int} {K : Frag} {nm idI : String} {fL fR : Addr} {ro : Option Value}
/-- an operation upon two numbers, the road of the operators -/
theorem num_op1 {Q : Option Value → Shared → Prop} (X : K.In s.heap) (hs : findIn K (.ref 237) (PySem.dunder nm) = some (some (.ref fL))) (hr : findIn K (.ref 237) (dunderR nm) = some (some (.ref fR)))
    (tL : typeIn K (.ref fL) = some (.type "function")) (tR : typeIn K (.ref fR) = some (.type "function")) (S : Slot "int" (PySem.dunder nm) idI) (fills : fillsNumberSlot (.type "int") nm = pure true)
    (hR : findIn K (.type "int") (dunderR nm) = some ro) (hc : selfFirst K 237 = true) (h1 : subIn K (.ref 237) (.type "int") = some false) (h2 : subIn K (.type "int") (.ref 237) = some false)
    (dec : ∀ i t x ox C od, InstAt s.heap x ox C od → ox.data = .plain → wpAny (model prog w) A (call (.builtin idI) [.int i t, .ref x]) (fun v s' => v = .notImplemented ∧ s' = s) E s)
    (Ha : NumAt s.heap a z) (Hb : NumAt s.heap b z')
    (ii : ∀ i t j u, a = .int i t → b = .int j u → z = 45360 * i → z' = 45360 * j → wpAny (model prog w) A (call (.builtin idI) [.int i t, .int j u]) (fun v s' => v ≠ .notImplemented ∧ Q (some v) s') E s)
    (ll : ∀ x, a = .ref x → FracAt s.heap x z → wpAny (model prog w) A (call (.ref fL) [.ref x, b]) (fun v s' => v ≠ .notImplemented ∧ Q (some v) s') E s)
    (rr : ∀ i t y, a = .int i t → b = .ref y → z = 45360 * i → FracAt s.heap y z' → wpAny (model prog w) A (call (.ref fR) [.ref y, .int i t]) (fun v s' => v ≠ .notImplemented ∧ Q (some v) s') E s) :
    wpAny (model prog w) A (binaryOp1 nm a b) Q E s := by
  obtain ⟨h, g, d, tk, os⟩ := s
  obtain ⟨cd, rest, hcd, hm⟩ := ksp_first hc
  have LF : Looks (model prog w) h (fillsNumberSlot (.ref 237) nm) true := fills_K X hcd hm hs
  have LI : Looks (model prog w) h (fillsNumberSlot (.type "int") nm) true := Looks.of_pure fills
  have LP : Looks (model prog w) h (numberSlotInPython (.type "int") nm) false := Looks.of_pure rfl
  have Ha' := Ha
  have Hb' := Hb
  rcases Ha' with ⟨i, t, rfl, rfl⟩ | ⟨x, rfl, Fx⟩
  · rcases Hb' with ⟨j, u, rfl, rfl⟩ | ⟨y, rfl, Fy⟩
    · exact op1_same type_int type_int LI (try_special (tp := .none) (int_special S) (int_bind S) (ii i t j u rfl rfl rfl rfl))
    · have ⟨n, dd, ⟨dy, _, _, _, _, _, _, I⟩, Ny⟩ := Fy
      exact op1_refl type_int I.type LI rfl LF (looks_subIn X h1) LP (try_decline (int_special S) (int_bind S) (dec _ _ _ _ _ _ I rfl))
        (try_special (tp := .none) (frac_special X I hr) (bind_fn X _ tR) (rr i t y rfl rfl rfl Fy))
  · have ⟨n, dd, ⟨dx, _, _, _, _, _, _, I⟩, Nx⟩ := Fx
    have one := try_special (tp := .none) (frac_special X I hs) (bind_fn X _ tL) (ll x rfl Fx)
    rcases Hb' with ⟨j, u, rfl, rfl⟩ | ⟨y, rfl, Fy⟩
    · exact op1_own I.type type_int LF rfl LI (looks_subIn X h2) (ksp_inPy X hs hr (.inr ⟨_, rfl⟩)) LP (looks_findIn X hR) one
    · have ⟨_, _, ⟨dy, _, _, _, _, _, _, I2⟩, _⟩ := Fy
      exact op1_same I.type I2.type LF one
end
end
section
section
variable {M : Model} {A : Around} {E : Value → Shared → Prop} {s : Shared} {a b f : Value} {name : Str}
theorem ifBound {args : List Value} {Q : Option Value → Shared → Prop} (L1 : Looks M s.heap (specialOf a name) (some f)) (L2 : Looks M s.heap (bindSpecial f a) (f, [a])) (h : wpAny M A (call f (a :: args)) (fun v => Q (some v)) E s) : wpAny M A (callSpecialIfBound? a name args) Q E s := by
  simp only [callSpecialIfBound?, bindSpecialIfBound?]
  refine wpAny_holding (wpAny_bind (wpAny_bind (L1.here ?_)))
  refine wpAny_bind (wpAny_askSetting (wpAny_ite ?_))
  have fin : wpAny M A (call f ([a] ++ args) >>= fun v => pure (some v)) Q E s := wpAny_bind (wpAny_mono h (fun v s' h' => wpAny_pure h') fun _ _ h' => h')
  split
  · exact wpAny_bind (L2.here (wpAny_pure (by exact fin)))
  · exact wpAny_tryCatch (wpAny_bind (L2.here (wpAny_pure (by exact fin))))
theorem cmp_special {Q : Option Value → Shared → Prop} (L1 : Looks M s.heap (specialOf a name) (some f)) (L2 : Looks M s.heap (bindSpecial f a) (f, [a]))
    (h : wpAny M A (call f [a, b]) (fun v s' => v ≠ .notImplemented ∧ Q (some v) s') E s) : wpAny M A (tryCompare a name b) (fun r s' => (∃ v, r = some v) ∧ Q r s') E s := by
  unfold tryCompare
  refine wpAny_bind (ifBound L1 L2 (wpAny_mono h (fun v s' hv => ?_) fun _ _ e => e))
  obtain ⟨h1, h2⟩ := hv
  cases v <;> first | exact (h1 rfl).elim | exact wpAny_pure ⟨⟨_, rfl⟩, h2⟩
theorem cmp_decline (L1 : Looks M s.heap (specialOf a name) (some f)) (L2 : Looks M s.heap (bindSpecial f a) (f, [a]))
    (h : wpAny M A (call f [a, b]) (fun v s' => v = .notImplemented ∧ s' = s) E s) : wpAny M A (tryCompare a name b) (fun r s' => r = none ∧ s' = s) E s := by
  unfold tryCompare
  refine wpAny_bind (ifBound L1 L2 (wpAny_mono h (fun v s' hv => ?_) fun _ _ e => e))
  obtain ⟨rfl, rfl⟩ := hv
  exact wpAny_pure ⟨rfl, rfl⟩
theorem rich_left {op : CmpOp} {sym : String} {fn rn : Str} {ta tb : Value} {Q : Value → Shared → Prop} (hi : cmpInfo op = (sym, fn, rn)) (h1 : oneThing? op a b = none) (hu : A.units < cLine) (L1 : Looks M s.heap (typeOf a) ta) (L2 : Looks M s.heap (typeOf b) tb)
    (hn : ta = tb ∨ Looks M s.heap (isSubtype tb ta) false) (one : wpAny M A (tryCompare a fn b) (fun r s' => (∃ v, r = some v) ∧ ∀ v, r = some v → Q v s') E s) : wpAny M A (richCompare op a b) Q E s := by
  unfold richCompare
  refine wpAny_holding (wpAny_bind (wpAny_cRoomFor hu ?_))
  rw [h1]
  simp only [hi]
  refine wpAny_bind (L1.here (wpAny_bind (L2.here ?_)))
  by_cases q : (ta != tb) = true
  · rw [if_pos q]
    rcases hn with e | L
    · rw [e] at q; simp at q
    refine wpAny_bind (L.here ?_)
    simp only [Bool.false_eq_true, if_false]
    refine wpAny_bind (wpAny_mono one (fun r s' hr => ?_) fun _ _ e => e)
    obtain ⟨⟨v, rfl⟩, hq⟩ := hr
    exact wpAny_pure (hq v rfl)
  · rw [if_neg q]
    refine wpAny_bind (wpAny_pure ?_)
    simp only [Bool.false_eq_true, if_false]
    refine wpAny_bind (wpAny_mono one (fun r s' hr => ?_) fun _ _ e => e)
    obtain ⟨⟨v, rfl⟩, hq⟩ := hr
    exact wpAny_pure (hq v rfl)
theorem rich_right {op : CmpOp} {sym : String} {fn rn : Str} {ta tb : Value} {Q : Value → Shared → Prop} (hi : cmpInfo op = (sym, fn, rn)) (h1 : oneThing? op a b = none) (hu : A.units < cLine) (L1 : Looks M s.heap (typeOf a) ta) (L2 : Looks M s.heap (typeOf b) tb)
    (hne : (ta != tb) = true) (L : Looks M s.heap (isSubtype tb ta) false) (no : wpAny M A (tryCompare a fn b) (fun r s' => r = none ∧ s' = s) E s)
    (one : wpAny M A (tryCompare b rn a) (fun r s' => (∃ v, r = some v) ∧ ∀ v, r = some v → Q v s') E s) : wpAny M A (richCompare op a b) Q E s := by
  unfold richCompare
  refine wpAny_holding (wpAny_bind (wpAny_cRoomFor hu ?_))
  rw [h1]
  simp only [hi]
  refine wpAny_bind (L1.here (wpAny_bind (L2.here ?_)))
  rw [if_pos hne]
  refine wpAny_bind (L.here ?_)
  simp only [Bool.false_eq_true, if_false]
  refine wpAny_bind (wpAny_mono no (fun r s' hr => ?_) fun _ _ e => e)
  obtain ⟨rfl, rfl⟩ := hr
  simp only [Bool.not_false, if_true]
  refine wpAny_bind (wpAny_mono one (fun r s' hr => ?_) fun _ _ e => e)
  obtain ⟨⟨v, rfl⟩, hq⟩ := hr
  exact wpAny_pure (hq v rfl)
end
section
variable {prog : Program} {w : World} {A : Around} {s : Shared} {E : Value → Shared → Prop} {a b : Value} {z z' : Int} {K : Frag} {sym idI : String} {fn rn : Str} {fL fR : Addr}
/-- a comparison of two numbers, the road of the comparisons -/
theorem num_rich {op : CmpOp} {Q : Value → Shared → Prop} (hi : cmpInfo op = (sym, fn, rn)) (hu : A.units < cLine) (X : K.In s.heap) (hs : findIn K (.ref 237) fn = some (some (.ref fL))) (hr : findIn K (.ref 237) rn = some (some (.ref fR)))
    (tL : typeIn K (.ref fL) = some (.type "function")) (tR : typeIn K (.ref fR) = some (.type "function")) (S : Slot "int" fn idI) (h1 : subIn K (.ref 237) (.type "int") = some false) (h2 : subIn K (.type "int") (.ref 237) = some false)
    (dec : ∀ i t x ox C od, InstAt s.heap x ox C od → ox.data = .plain → wpAny (model prog w) A (call (.builtin idI) [.int i t, .ref x]) (fun v s' => v = .notImplemented ∧ s' = s) E s)
    (Ha : NumAt s.heap a z) (Hb : NumAt s.heap b z')
    (ii : ∀ i t j u, a = .int i t → b = .int j u → z = 45360 * i → z' = 45360 * j → wpAny (model prog w) A (call (.builtin idI) [.int i t, .int j u]) (fun v s' => v ≠ .notImplemented ∧ Q v s') E s)
    (ll : ∀ x, a = .ref x → FracAt s.heap x z → wpAny (model prog w) A (call (.ref fL) [.ref x, b]) (fun v s' => v ≠ .notImplemented ∧ Q v s') E s)
    (rr : ∀ i t y, a = .int i t → b = .ref y → z = 45360 * i → FracAt s.heap y z' → wpAny (model prog w) A (call (.ref fR) [.ref y, .int i t]) (fun v s' => v ≠ .notImplemented ∧ Q v s') E s) :
    wpAny (model prog w) A (richCompare op a b) Q E s := by
  have up : ∀ {t : Sem Value}, wpAny (model prog w) A t (fun v s' => v ≠ .notImplemented ∧ Q v s') E s → wpAny (model prog w) A t (fun v s' => v ≠ .notImplemented ∧ ∀ v', some v = some v' → Q v' s') E s :=
    fun h => wpAny_mono h (fun v s' hv => ⟨hv.1, fun v' e => by cases e; exact hv.2⟩) fun _ _ e => e
  have Ha' := Ha
  have Hb' := Hb
  rcases Ha' with ⟨i, t, rfl, rfl⟩ | ⟨x, rfl, Fx⟩
  · rcases Hb' with ⟨j, u, rfl, rfl⟩ | ⟨y, rfl, Fy⟩
    · exact rich_left hi rfl hu type_int type_int (.inl rfl) (cmp_special (int_special S) (int_bind S) (up (ii i t j u rfl rfl rfl rfl)))
    · have ⟨n, dd, ⟨dy, _, _, _, _, _, _, I⟩, Ny⟩ := Fy
      exact rich_right hi rfl hu type_int I.type rfl (looks_subIn X h1) (cmp_decline (int_special S) (int_bind S) (dec _ _ _ _ _ _ I rfl))
        (cmp_special (frac_special X I hr) (bind_fn X _ tR) (up (rr i t y rfl rfl rfl Fy)))
  · have ⟨n, dd, ⟨dx, _, _, _, _, _, _, I⟩, Nx⟩ := Fx
    have one := cmp_special (Q := fun r s' => ∀ v, r = some v → Q v s') (frac_special X I hs) (bind_fn X _ tL) (up (ll x rfl Fx))
    rcases Hb' with ⟨j, u, rfl, rfl⟩ | ⟨y, rfl, Fy⟩
    · exact rich_left hi rfl hu I.type type_int (.inr (looks_subIn X h2)) one
    · have ⟨_, _, ⟨dy, _, _, _, _, _, _, I2⟩, _⟩ := Fy
      exact rich_left hi rfl hu I.type I2.type (.inl rfl) one
end
end
section
theorem slot_obj_ne : Slot "object" "__ne__" "object.__ne__" :=
  Slot.of (T := "object") (name := "__ne__") (owner := "object") (n := "__ne__") (by rw [typeLookup_type, builtinLookup_eq_fast]; kernel_rfl) (by decide +kernel) (by decide +kernel) (by decide +kernel) (.inl (by decide +kernel)) (by rw [isSubtype_type]; kernel_rfl)
theorem entry_obj_ne : entryFor table "object.__ne__" = some Builtin.«object.__ne__» := entryFor_of_tree (by kernel_rfl)
theorem kind_obj_ne : builtinKind "object.__ne__" = some .slot := by decide +kernel
theorem split_obj_ne : splitId "object.__ne__" = some ("object", "__ne__") := by decide +kernel
theorem args_obj_ne (a b : Value) : argsOk "object.__ne__" ⟨[a, b], []⟩ := by unfold argsOk; kernel_rfl
section
variable {prog : Program} {w : World} {A : Around} {s : Shared} {E : Value → Shared → Prop} {b : Value} {z z' : Int} {K : Frag} {x : Addr} {p : Program} {loose : List Str} {mg mb : Str → Option Value}
theorem frac_ne (hK : K = Mine.hd.heap_39 w.params) (X : K.In s.heap) (T : TopRead p loose mg mb s.heap) (hA : Room A 20) (Hx : FracAt s.heap x z) (Hb : NumAt s.heap b z')
    (he : findIn K (.ref 237) "__eq__" = some (some (.ref 206))) (te : typeIn K (.ref 206) = some (.type "function")) (ho : subIn K (.ref 237) (.type "object") = some true) {Q : Value → Shared → Prop}
    (k : ∀ s', Ke s s' → Q (.bool (!decide (z = z'))) s') : wpAny (model prog w) A (call (.builtin "object.__ne__") [.ref x, b]) Q E s := by
  have ⟨n, dd, ⟨dx, _, _, _, _, _, _, I⟩, Nx⟩ := Hx
  have hi : Looks (model prog w) s.heap (isInstance (.ref x) (.type "object")) true := I.type.andThen (looks_subIn X ho)
  refine wpAny_call (codeAny_call_builtin slot_obj_ne.plain entry_obj_ne (@check_slot (model prog w) _ _ s "object.__ne__" "object" "__ne__" (.ref x) [b] [] _ kind_obj_ne split_obj_ne hi (args_obj_ne _ _) ?_))
  unfold Builtin.«object.__ne__»
  refine wpAny_bind (wpAny_pure ?_)
  dsimp only
  refine wpAny_bind (wpAny_cRoomFor (Room.un (n := 0) (by walk_at "my room")) ?_)
  refine wpAny_bind (ifBound (frac_special X I he) (bind_fn X _ te) (wpAny_call ?_))
  subst hK
  refine frac_eq X T (by walk_at "my room") Hx Hb fun s' hk => ?_
  dsimp only
  refine wpAny_bind (wpAny_truthy_bool (wpAny_pure ?_))
  exact k s' hk
end
end
section
section
variable {prog : Program} {w : World} {A : Around} {s : Shared} {E : Value → Shared → Prop} {a b : Value} {z z' : Int} {p : Program} {loose : List Str} {mg mb : Str → Option Value}
theorem bin_of_op1 {op : Operator} {sym nm : String} (hi : op.info = (sym, nm)) {Q : Value → Shared → Prop} (h : wpAny (model prog w) A (binaryOp1 nm a b) (fun r s' => ∃ v, r = some v ∧ Q v s') E s) : wpAny (model prog w) A (binaryOp op a b) Q E s := by
  unfold binaryOp
  refine wpAny_holding ?_
  rw [hi]
  refine wpAny_bind (wpAny_mono h (fun r s' hr => ?_) fun _ _ e => e)
  obtain ⟨v, rfl, hq⟩ := hr
  exact wpAny_pure hq
theorem inp_of_op1 {op : Operator} {sym nm : String} {ta : Value} (hi : op.info = (sym, nm)) {Q : Value → Shared → Prop} (L1 : Looks (model prog w) s.heap (typeOf a) ta) (L2 : Looks (model prog w) s.heap (fillsInplaceSlot ta nm (op == .Add)) false)
    (h : wpAny (model prog w) A (binaryOp1 nm a b) (fun r s' => ∃ v, r = some v ∧ Q v s') E s) : wpAny (model prog w) A (inplaceOp op a b) Q E s := by
  unfold inplaceOp
  refine wpAny_holding ?_
  rw [hi]
  refine wpAny_bind (L1.here ?_)
  refine wpAny_bind (L2.here ?_)
  simp only [Bool.false_eq_true, if_false]
  refine wpAny_bind (wpAny_mono h (fun r s' hr => ?_) fun _ _ e => e)
  obtain ⟨v, rfl, hq⟩ := hr
  exact wpAny_pure hq
theorem num_add1 {Q : Option Value → Shared → Prop} (X : (Mine.hd.heap_39 w.params).In s.heap) (T : TopRead p loose mg mb s.heap) (hA : Room A 20) (Ha : NumAt s.heap a z) (Hb : NumAt s.heap b z')
    (k : ∀ v s', Ke s s' → NumAt s'.heap v (z + z') → Q (some v) s') : wpAny (model prog w) A (binaryOp1 "add" a b) Q E s := by
  refine num_op1 (fL := 150) (fR := 157) X (by k_is) (by k_is) (by k_is) (by k_is) PySem.F.slot_int_add PySem.F.fills_int_add (by k_is) (by k_is) (by k_is) (by k_is) (fun i t x ox C od I hp => add_declines I hp) Ha Hb ?_ ?_ ?_
  · intro i t j u _ _ e1 e2
    refine wpAny_call_int_add ⟨ne_of_int, k _ _ (.of fun _ _ e => e) (.inl ⟨_, _, rfl, ?_⟩)⟩
    omega
  · intro x _ Fx
    exact wpAny_call (frac_add X T (by walk_at "my room") Fx Hb fun y s' hk hy => ⟨ne_of_ref, k _ _ hk (.inr ⟨_, rfl, hy⟩)⟩)
  · intro i t y _ _ e1 Fy
    exact wpAny_call (frac_radd X T (by walk_at "my room") Fy (.inl ⟨_, _, rfl, e1⟩) fun y s' hk hy => ⟨ne_of_ref, k _ _ hk (.inr ⟨_, rfl, by rw [Int.add_comm]; exact hy⟩)⟩)
theorem num_add {Q : Value → Shared → Prop} (X : (Mine.hd.heap_39 w.params).In s.heap) (T : TopRead p loose mg mb s.heap) (hA : Room A 20) (Ha : NumAt s.heap a z) (Hb : NumAt s.heap b z')
    (k : ∀ v s', Ke s s' → NumAt s'.heap v (z + z') → Q v s') : wpAny (model prog w) A (binaryOp .Add a b) Q E s :=
  bin_of_op1 (sym := "+") (nm := "add") rfl (num_add1 X T hA Ha Hb fun v s' hk hv => ⟨v, rfl, k v s' hk hv⟩)
theorem num_iadd {Q : Value → Shared → Prop} (X : (Mine.hd.heap_39 w.params).In s.heap) (T : TopRead p loose mg mb s.heap) (hA : Room A 20) (Ha : NumAt s.heap a z) (Hb : NumAt s.heap b z')
    (k : ∀ v s', Ke s s' → NumAt s'.heap v (z + z') → Q v s') : wpAny (model prog w) A (inplaceOp .Add a b) Q E s := by
  have main := num_add1 (prog := prog) (Q := fun r s' => ∃ v, r = some v ∧ Q v s') (E := E) X T hA Ha Hb fun v s' hk hv => ⟨v, rfl, k v s' hk hv⟩
  have Ha' := Ha
  rcases Ha' with ⟨i, t, rfl, rfl⟩ | ⟨x, rfl, Fx⟩
  · refine inp_of_op1 (sym := "+") (nm := "add") rfl type_int ?_ main
    intro A Q E s k q
    refine wpAny_bind (m := typeLookup (.type "int") (dunderI "add")) ?_
    rw [PySem.F.noI_int_add]
    exact wpAny_pure (wpAny_pure q)
  · have ⟨n, dd, ⟨dx, _, _, _, _, _, _, I⟩, Nx⟩ := Fx
    refine inp_of_op1 (sym := "+") (nm := "add") rfl I.type ?_ main
    obtain ⟨cd, hcd, hm⟩ : ∃ cd, clsIn (Mine.hd.heap_39 w.params) 237 = some cd ∧ cd.mro = [.ref 237, .type "object"] := ⟨_, by k_is, rfl⟩
    have Lm : Looks (model prog w) s.heap (mroOf (.ref 237)) cd.mro := (looks_clsIn X hcd).andThen (f := fun cd => pure cd.mro) .now
    have L1 : Looks (model prog w) s.heap (typeLookup (.ref 237) (dunderI "add")) none := looks_findIn X (by k_is)
    have L2 : Looks (model prog w) s.heap (typeLookup (.type "object") (dunderI "add")) none := looks_findIn X (by k_is)
    clear main k
    intro A Q E s k q
    unfold fillsInplaceSlot
    refine wpAny_bind (Lm.keeps k A _ E s (fun _ _ e => e) ?_)
    rw [hm, List.anyM_cons]
    refine wpAny_bind (wpAny_bind (L1.keeps k A _ E s (fun _ _ e => e) ?_))
    refine wpAny_pure ?_
    rw [List.anyM_cons]
    refine wpAny_bind (wpAny_bind (L2.keeps k A _ E s (fun _ _ e => e) ?_))
    exact wpAny_pure (wpAny_pure q)
end
end
section
section
variable {prog : Program} {w : World} {A : Around} {s : Shared} {E : Value → Shared → Prop} {a b : Value} {z z' : Int} {p : Program} {loose : List Str} {mg mb : Str → Option Value}
theorem num_sub {Q : Value → Shared → Prop} (X : (Mine.hd.heap_39 w.params).In s.heap) (T : TopRead p loose mg mb s.heap) (hA : Room A 20) (Ha : NumAt s.heap a z) (Hb : NumAt s.heap b z')
    (k : ∀ v s', Ke s s' → NumAt s'.heap v (z - z') → Q v s') : wpAny (model prog w) A (binaryOp .Sub a b) Q E s := by
  refine bin_of_op1 (sym := "-") (nm := "sub") rfl ?_
  refine num_op1 (fL := 164) (fR := 171) X (by k_is) (by k_is) (by k_is) (by k_is) PySem.F.slot_int_sub PySem.F.fills_int_sub (by k_is) (by k_is) (by k_is) (by k_is) (fun i t x ox C od I hp => sub_declines I hp) Ha Hb ?_ ?_ ?_
  · intro i t j u _ _ e1 e2
    refine wpAny_call_entry PySem.F.slot_int_sub (typeIs_int s i t) PySem.F.entry_int_sub (show wpAny _ _ (do ret (← mkInt (i - j))) _ _ s from wpAny_ret_mkInt ⟨ne_of_int, _, rfl, ?_⟩) (PySem.F.args_int_sub_2 _ _)
    refine k _ _ (.of fun _ _ e => e) (.inl ⟨_, _, rfl, ?_⟩)
    omega
  · intro x _ Fx
    exact wpAny_call (frac_sub X T (by walk_at "my room") Fx Hb fun y s' hk hy => ⟨ne_of_ref, _, rfl, k _ _ hk (.inr ⟨_, rfl, hy⟩)⟩)
  · intro i t y _ _ e1 Fy
    exact wpAny_call (frac_rsub X T (by walk_at "my room") Fy (.inl ⟨_, _, rfl, e1⟩) fun y s' hk hy => ⟨ne_of_ref, _, rfl, k _ _ hk (.inr ⟨_, rfl, by rw [show z - z' = -z' + z by omega]; exact hy⟩)⟩)
theorem int_mul_num {i : Int} {t : Tok} {Q : Value → Shared → Prop} (X : (Mine.hd.heap_39 w.params).In s.heap) (T : TopRead p loose mg mb s.heap) (hA : Room A 20) (hi : -1000 < i ∧ i < 1000) (Hb : NumAt s.heap b z')
    (k : ∀ v s', Ke s s' → NumAt s'.heap v (z' * i) → Q v s') : wpAny (model prog w) A (binaryOp .Mult (.int i t) b) Q E s := by
  refine bin_of_op1 (sym := "*") (nm := "mul") rfl ?_
  refine num_op1 (z := 45360 * i) (fL := 178) (fR := 185) X (by k_is) (by k_is) (by k_is) (by k_is) PySem.F.slot_int_mul PySem.F.fills_int_mul (by k_is) (by k_is) (by k_is) (by k_is) (fun i t x ox C od I hp => mul_declines I hp) (.inl ⟨_, _, rfl, rfl⟩) Hb ?_ ?_ ?_
  · intro i' t' j u e _ _ e2
    cases e
    refine call_int_mul ⟨_, rfl, k _ _ (.of fun _ _ e => e) (.inl ⟨_, _, rfl, ?_⟩)⟩ (.of_left (intBits_le_64 (by omega) (by omega)))
    rw [e2, Int.mul_comm i j, Int.mul_assoc]
  · intro x e _
    cases e
  · intro i' t' y e _ _ Fy
    cases e
    exact wpAny_call (frac_rmul X T (by walk_at "my room") Fy hi fun y s' hk hy => ⟨ne_of_ref, _, rfl, k _ _ hk (.inr ⟨_, rfl, hy⟩)⟩)
end
section
variable {prog : Program} {w : World} {A : Around} {s : Shared} {E : Value → Shared → Prop} {a b : Value} {z z' : Int} {p : Program} {loose : List Str} {mg mb : Str → Option Value}
theorem num_lt {Q : Value → Shared → Prop} (X : (Mine.hd.heap_39 w.params).In s.heap) (T : TopRead p loose mg mb s.heap) (hA : Room A 20) (Ha : NumAt s.heap a z) (Hb : NumAt s.heap b z')
    (k : ∀ s', Ke s s' → Q (.bool (decide (z < z'))) s') : wpAny (model prog w) A (compareOp .Lt a b) Q E s := by
  refine cmp_ofLt (num_rich (op := .Lt) (fL := 213) (fR := 227) rfl (Room.un (n := 0) (by walk_at "my room")) X (by k_is) (by k_is) (by k_is) (by k_is) PySem.F.slot_int_lt (by k_is) (by k_is) (fun i t x ox C od I hp => lt_declines I hp) Ha Hb ?_ ?_ ?_)
  · intro i t j u _ _ e1 e2
    refine wpAny_call_entry PySem.F.slot_int_lt (typeIs_int s i t) PySem.F.entry_int_lt (show wpAny _ _ (ret (.bool (decide (i < j)))) _ _ s from wpAny_pure ⟨_, rfl, ne_of_bool, ?_⟩) (PySem.F.args_int_lt_2 _ _)
    rw [show decide (i < j) = decide (z < z') from decide_eq_decide.mpr (by omega)]
    exact k _ (.refl s)
  · intro x _ Fx
    exact wpAny_call (frac_lt X T (by walk_at "my room") Fx Hb fun s' hk => ⟨ne_of_bool, k _ hk⟩)
  · intro i t y _ _ e1 Fy
    refine wpAny_call (frac_gt X T (by walk_at "my room") Fy (.inl ⟨_, _, rfl, e1⟩) fun s' hk => ⟨ne_of_bool, ?_⟩)
    have := k _ hk
    rwa [show decide (z < z') = !decide (z' ≤ z) by rw [← decide_not]; exact decide_eq_decide.mpr (by omega)] at this
theorem num_le {Q : Value → Shared → Prop} (X : (Mine.hd.heap_39 w.params).In s.heap) (T : TopRead p loose mg mb s.heap) (hA : Room A 20) (Ha : NumAt s.heap a z) (Hb : NumAt s.heap b z')
    (k : ∀ s', Ke s s' → Q (.bool (decide (z ≤ z'))) s') : wpAny (model prog w) A (compareOp .LtE a b) Q E s := by
  refine cmp_ofLtE (num_rich (op := .LtE) (fL := 220) (fR := 234) rfl (Room.un (n := 0) (by walk_at "my room")) X (by k_is) (by k_is) (by k_is) (by k_is) PySem.F.slot_int_le (by k_is) (by k_is) (fun i t x ox C od I hp => le_declines I hp) Ha Hb ?_ ?_ ?_)
  · intro i t j u _ _ e1 e2
    refine wpAny_call_entry PySem.F.slot_int_le (typeIs_int s i t) PySem.F.entry_int_le (show wpAny _ _ (ret (.bool (decide (i ≤ j)))) _ _ s from wpAny_pure ⟨_, rfl, ne_of_bool, ?_⟩) (PySem.F.args_int_le_2 _ _)
    rw [show decide (i ≤ j) = decide (z ≤ z') from decide_eq_decide.mpr (by omega)]
    exact k _ (.refl s)
  · intro x _ Fx
    exact wpAny_call (frac_le X T (by walk_at "my room") Fx Hb fun s' hk => ⟨ne_of_bool, k _ hk⟩)
  · intro i t y _ _ e1 Fy
    refine wpAny_call (frac_ge X T (by walk_at "my room") Fy (.inl ⟨_, _, rfl, e1⟩) fun s' hk => ⟨ne_of_bool, ?_⟩)
    have := k _ hk
    rwa [show decide (z ≤ z') = !decide (z' < z) by rw [← decide_not]; exact decide_eq_decide.mpr (by omega)] at this
theorem num_gt {Q : Value → Shared → Prop} (X : (Mine.hd.heap_39 w.params).In s.heap) (T : TopRead p loose mg mb s.heap) (hA : Room A 20) (Ha : NumAt s.heap a z) (Hb : NumAt s.heap b z')
    (k : ∀ s', Ke s s' → Q (.bool (decide (z > z'))) s') : wpAny (model prog w) A (compareOp .Gt a b) Q E s := by
  refine cmp_ofGt (num_rich (op := .Gt) (fL := 227) (fR := 213) rfl (Room.un (n := 0) (by walk_at "my room")) X (by k_is) (by k_is) (by k_is) (by k_is) PySem.F.slot_int_gt (by k_is) (by k_is) (fun i t x ox C od I hp => gt_declines I hp) Ha Hb ?_ ?_ ?_)
  · intro i t j u _ _ e1 e2
    refine wpAny_call_entry PySem.F.slot_int_gt (typeIs_int s i t) PySem.F.entry_int_gt (show wpAny _ _ (ret (.bool (decide (i > j)))) _ _ s from wpAny_pure ⟨_, rfl, ne_of_bool, ?_⟩) (PySem.F.args_int_gt_2 _ _)
    rw [show decide (i > j) = decide (z > z') from decide_eq_decide.mpr (by omega)]
    exact k _ (.refl s)
  · intro x _ Fx
    refine wpAny_call (frac_gt X T (by walk_at "my room") Fx Hb fun s' hk => ⟨ne_of_bool, ?_⟩)
    have := k _ hk
    rwa [show decide (z > z') = !decide (z ≤ z') by rw [← decide_not]; exact decide_eq_decide.mpr (by omega)] at this
  · intro i t y _ _ e1 Fy
    exact wpAny_call (frac_lt X T (by walk_at "my room") Fy (.inl ⟨_, _, rfl, e1⟩) fun s' hk => ⟨ne_of_bool, k _ hk⟩)
theorem num_ne {Q : Value → Shared → Prop} (X : (Mine.hd.heap_39 w.params).In s.heap) (T : TopRead p loose mg mb s.heap) (hA : Room A 24) (Ha : NumAt s.heap a z) (Hb : NumAt s.heap b z')
    (k : ∀ s', Ke s s' → Q (.bool (!decide (z = z'))) s') : wpAny (model prog w) A (compareOp .NotEq a b) Q E s := by
  refine cmp_ofNotEq ?_
  have hs : findIn (Mine.hd.heap_39 w.params) (.ref 237) "__ne__" = some (some (.builtin "object.__ne__")) := by k_is
  have hu : A.units < cLine := Room.un (n := 0) (by walk_at "my room")
  have ne : ∀ (x : Addr) (b : Value) (z z' : Int), FracAt s.heap x z → NumAt s.heap b z' → (∀ s', Ke s s' → Q (.bool (!decide (z = z'))) s') →
      wpAny (model prog w) A (tryCompare (.ref x) "__ne__" b) (fun r s' => (∃ v, r = some v) ∧ ∀ v, r = some v → Q v s') E s := by
    intro x b z z' Fx Hb k
    have ⟨n, dd, ⟨dx, _, _, _, _, _, _, I⟩, Nx⟩ := Fx
    have L1 : Looks (model prog w) s.heap (specialOf (.ref x) "__ne__") (some (.builtin "object.__ne__")) := I.type.andThen (looks_findIn X hs)
    have L2 : Looks (model prog w) s.heap (bindSpecial (.builtin "object.__ne__") (.ref x)) (.builtin "object.__ne__", [.ref x]) := Looks.of_pure (slot_obj_ne.bind _)
    refine cmp_special L1 L2 (frac_ne rfl X T (by walk_at "my room") Fx Hb (by k_is) (by k_is) (by k_is) fun s' hk => ⟨ne_of_bool, fun v e => ?_⟩)
    cases e
    exact k s' hk
  have Ha' := Ha
  have Hb' := Hb
  rcases Ha' with ⟨i, t, rfl, rfl⟩ | ⟨x, rfl, Fx⟩
  · rcases Hb' with ⟨j, u, rfl, rfl⟩ | ⟨y, rfl, Fy⟩
    · refine rich_left (op := .NotEq) (sym := "!=") (fn := "__ne__") (rn := "__ne__") (ta := .type "int") (tb := .type "int") rfl rfl hu type_int type_int (.inl rfl) (cmp_special (f := .builtin "int.__ne__") ?_ ?_ ?_)
      · exact int_special PySem.F.slot_int_ne
      · with_reducible exact int_bind PySem.F.slot_int_ne
      · refine wpAny_call_entry PySem.F.slot_int_ne (typeIs_int s i t) PySem.F.entry_int_ne (show wpAny _ _ (ret (.bool (i != j))) _ _ s from wpAny_pure ⟨_, rfl, ne_of_bool, fun v e => ?_⟩) (PySem.F.args_int_ne_2 _ _)
        cases e
        rw [show (i != j) = !decide (45360 * i = 45360 * j) by rw [bne, Bool.beq_eq_decide_eq, decide_eq_decide.mpr (show i = j ↔ 45360 * i = 45360 * j by omega)]]
        exact k _ (.refl s)
    · have ⟨n, dd, ⟨dy, _, _, _, _, _, _, I⟩, Ny⟩ := Fy
      refine rich_right (op := .NotEq) (sym := "!=") (fn := "__ne__") (rn := "__ne__") (ta := .type "int") (tb := .ref 237) rfl rfl hu type_int I.type rfl (looks_subIn X (by k_is)) (cmp_decline (f := .builtin "int.__ne__") ?_ ?_ (ne_declines I rfl)) (ne y _ z' _ Fy Ha fun s' hk => ?_)
      · exact int_special PySem.F.slot_int_ne
      · with_reducible exact int_bind PySem.F.slot_int_ne
      · have := k s' hk
        rwa [decide_eq_decide.mpr (show 45360 * i = z' ↔ z' = 45360 * i from eq_comm)] at this
  · have ⟨n, dd, ⟨dx, _, _, _, _, _, _, I⟩, Nx⟩ := Fx
    have one := ne x b z z' Fx Hb k
    rcases Hb' with ⟨j, u, rfl, rfl⟩ | ⟨y, rfl, Fy⟩
    · have H := rich_left (op := .NotEq) (sym := "!=") (fn := "__ne__") (rn := "__ne__") (ta := .ref 237) (tb := .type "int") rfl rfl hu I.type type_int (.inr (looks_subIn X (by k_is))) one
      exact H
    · have ⟨_, _, ⟨dy, _, _, _, _, _, _, I2⟩, _⟩ := Fy
      have H := rich_left (op := .NotEq) (sym := "!=") (fn := "__ne__") (rn := "__ne__") (ta := .ref 237) (tb := .ref 237) rfl rfl hu I.type I2.type (.inl rfl) one
      exact H
end
end
section
/-- the sets that occur: parts of {0, 1, 2, 3}, rising -/
def subs : List (List Nat) := [[], [0], [1], [2], [3], [0, 1], [0, 2], [0, 3], [1, 2], [1, 3], [2, 3], [0, 1, 2], [0, 1, 3], [0, 2, 3], [1, 2, 3], [0, 1, 2, 3]]
def ins (c : Nat) (A : List Nat) : List Nat := [0, 1, 2, 3].filter fun x => x == c || A.contains x
theorem subs_cases {P : List Nat → Prop} (h : ∀ A ∈ subs, P A) {A : List Nat} (hA : A ∈ subs) : P A := h A hA
theorem ins_sub (c : Nat) (A : List Nat) : ins c A ∈ subs := by
  unfold ins
  simp only [List.filter_cons, List.filter_nil]
  generalize (0 == c || A.contains 0) = p0
  generalize (1 == c || A.contains 1) = p1
  generalize (2 == c || A.contains 2) = p2
  generalize (3 == c || A.contains 3) = p3
  cases p0 <;> cases p1 <;> cases p2 <;> cases p3 <;> decide
theorem mem_ins {c x : Nat} {A : List Nat} : x ∈ ins c A ↔ x < 4 ∧ (x = c ∨ x ∈ A) := by
  unfold ins
  rw [List.mem_filter, Bool.or_eq_true, beq_iff_eq, List.contains_iff_mem]
  constructor
  · rintro ⟨h, h'⟩
    refine ⟨?_, h'⟩
    simp at h; omega
  · rintro ⟨h, h'⟩
    refine ⟨?_, h'⟩
    simp; omega
theorem sub_lt {A : List Nat} (h : A ∈ subs) {x : Nat} (hx : x ∈ A) : x < 4 := by
  have : ∀ A ∈ subs, ∀ x ∈ A, x < 4 := by decide
  exact this A h x hx
theorem sub_nodup {A : List Nat} (h : A ∈ subs) : A.Nodup := by
  have : ∀ A ∈ subs, A.Nodup := by decide
  exact this A h
theorem sub_len {A : List Nat} (h : A ∈ subs) : A.length ≤ 4 := by
  have : ∀ A ∈ subs, A.length ≤ 4 := by decide
  exact this A h
/-- the parts are told apart by what is in them -/
theorem sub_ext {A B : List Nat} (hA : A ∈ subs) (hB : B ∈ subs) (h : ∀ x, x ∈ A ↔ x ∈ B) : A = B := by
  have : ∀ A ∈ subs, ∀ B ∈ subs, (∀ x ∈ [0, 1, 2, 3], x ∈ A ↔ x ∈ B) → A = B := by decide
  exact this A hA B hB fun x _ => h x
theorem ins_mem {c : Nat} {A : List Nat} (hA : A ∈ subs) (hc : c ∈ A) : ins c A = A :=
  sub_ext (ins_sub c A) hA fun x => by rw [mem_ins]; exact ⟨fun h => h.2.elim (fun e => e ▸ hc) id, fun h => ⟨sub_lt hA h, .inr h⟩⟩

def tab (b : Bool) (m mv : Nat) (A : List Nat) : SetTable := ⟨m, A.toArray, #[], 0, !b, mv, true⟩
def ents (A : List Nat) (T : Nat → Tok) : Array (Int × Value) := (A.map fun (c : Nat) => ((c : Int), Value.int (c : Int) (T c))).toArray
/-- the three sizes of table that occur -/
def MM (m mv : Nat) : Prop := (m = 7 ∧ mv = 0) ∨ (m = 15 ∧ mv = 1) ∨ (m = 31 ∧ mv = 1)
def upT (T : Nat → Tok) (c : Nat) (t : Tok) : Nat → Tok := fun x => if x = c then t else T x
theorem tab_fits {b : Bool} {m mv : Nat} {A : List Nat} {T : Nat → Tok} (hA : A ∈ subs) (hm : MM m mv) : (tab b m mv A).fits (ents A T).size = true := by
  have := sub_len hA
  simp [SetTable.fits, tab, ents, SetTable.fill]
  rcases hm with ⟨rfl, _⟩ | ⟨rfl, _⟩ | ⟨rfl, _⟩ <;> omega
theorem free_slot {b : Bool} {m mv c : Nat} {A : List Nat} (hA : A ∈ subs) (hm : MM m mv) (hc : c < 4) (hn : c ∉ A) : (tab b m mv A).freeSlot c = some (c, false) := by
  have : ∀ A ∈ subs, ∀ c ∈ [0, 1, 2, 3], c ∉ A → ∀ b ∈ [true, false], (tab b 7 0 A).freeSlot c = some (c, false) ∧ (tab b 15 1 A).freeSlot c = some (c, false) ∧ (tab b 31 1 A).freeSlot c = some (c, false) := by decide +kernel
  have h := this A hA c (by simp; omega) hn b (by cases b <;> simp)
  rcases hm with ⟨rfl, rfl⟩ | ⟨rfl, rfl⟩ | ⟨rfl, rfl⟩
  · exact h.1
  · exact h.2.1
  · exact h.2.2
theorem put_slot {b : Bool} {m mv c : Nat} {A : List Nat} (hA : A ∈ subs) (hc : c < 4) (hn : c ∉ A) : (tab b m mv A).put c = (tab b m mv (ins c A), (ins c A).idxOf c) := by
  have : ∀ A ∈ subs, ∀ c ∈ [0, 1, 2, 3], c ∉ A → SetTable.below A.toArray c = (ins c A).idxOf c ∧ SetTable.insertAt A.toArray (SetTable.below A.toArray c) c = (ins c A).toArray := by decide +kernel
  have h := this A hA c (by simp; omega) hn
  unfold SetTable.put tab
  dsimp only
  rw [h.2, h.1]
  rfl
theorem insert_ents {c : Nat} {A : List Nat} {T : Nat → Tok} {t : Tok} (hA : A ∈ subs) (hc : c < 4) (hn : c ∉ A) : SetTable.insertAt (ents A T) ((ins c A).idxOf c) ((c : Int), Value.int (c : Int) t) = ents (ins c A) (upT T c t) := by
  have key : ∀ A ∈ subs, ∀ c ∈ [0, 1, 2, 3], c ∉ A → (ins c A) = A.take ((ins c A).idxOf c) ++ c :: A.drop ((ins c A).idxOf c) := by decide +kernel
  have h := key A hA c (by simp; omega) hn
  generalize (ins c A).idxOf c = i at h ⊢
  rw [h]
  have e1 : ∀ x ∈ A, upT T c t x = T x := fun x hx => if_neg (fun (e : x = c) => hn (by rw [← e]; exact hx))
  unfold SetTable.insertAt ents
  apply Array.ext'
  simp only [List.map_append, List.map_cons, List.extract_toArray, Array.toList_append, Array.toList_push, List.size_toArray, List.length_map]
  simp only [List.extract_eq_take_drop, List.drop_zero, Nat.sub_zero]
  rw [show upT T c t c = t from if_pos rfl]
  have m1 : ∀ l : List Nat, (∀ x ∈ l, x ∈ A) → l.map (fun (c : Nat) => ((c : Int), Value.int (c : Int) (T c))) = l.map (fun (x : Nat) => ((x : Int), Value.int (x : Int) (upT T c t x))) := fun l hl => List.map_congr_left fun x hx => by rw [e1 x (hl x hx)]
  rw [← m1 _ (fun x hx => List.mem_of_mem_take hx), ← m1 _ (fun x hx => List.mem_of_mem_drop hx)]
  rw [List.map_take, List.map_drop]
  rw [List.take_of_length_le (l := List.drop i _) (by simp)]
  simp

theorem lay_new {b : Bool} {m mv c : Nat} {A : List Nat} {T : Nat → Tok} {t : Tok} (hA : A ∈ subs) (hm : MM m mv) (hc : c < 4) (hn : c ∉ A) :
    layNew (tab b m mv A) (ents A T) c (.int c t) = (ents (ins c A) (upT T c t), tab b m mv (ins c A), false, false) := by
  unfold layNew
  rw [free_slot hA hm hc hn]
  dsimp only
  rw [put_slot hA hc hn]
  dsimp only
  rw [insert_ents hA hc hn]
  have hf : (tab b m mv (ins c A)).fits (ents (ins c A) (upT T c t)).size = true := tab_fits (ins_sub c A) hm
  rw [SetTable.orStandIn, hf]
  rfl
theorem not_full {b : Bool} {m mv : Nat} {A : List Nat} (hA : A ∈ subs) (hm : MM m mv) : (tab b m mv A).tooFull = false := by
  have := sub_len hA
  simp [SetTable.tooFull, tab, SetTable.fill]
  rcases hm with ⟨rfl, _⟩ | ⟨rfl, _⟩ | ⟨rfl, _⟩ <;> omega
theorem red_hash {c : Nat} (hc : c < 4) : hashInt (c : Int) = c := by
  have : ∀ c ∈ [0, 1, 2, 3], hashInt ((c : Nat) : Int) = c := by decide +kernel
  exact this c (by simp; omega)
theorem ents_elems {prog : Program} {w : World} {A : List Nat} {T : Nat → Tok} (hA : A ∈ subs) : ElemsOf (intKind prog w) (ents A T).toList := by
  intro e he
  simp only [ents, List.mem_map] at he
  obtain ⟨c, hc, rfl⟩ := he
  have h1 : (intKind prog w).is (c : Int) (Value.int (c : Int) (T c)) = true := intKind_is _ _ _ _
  have h2 : (c : Int) = (intKind prog w).hash (c : Int) := (red_hash (sub_lt hA hc)).symm
  exact ⟨⟨(c : Int), h1, h2⟩, rfl⟩
theorem ents_find {prog : Program} {w : World} {A : List Nat} {T : Nat → Tok} {c : Nat} : (ents A T).toList.findIdx? (fun e => (intKind prog w).is (c : Int) e.2) = A.findIdx? (· == c) := by
  simp only [ents, List.findIdx?_map]
  congr 1
  funext x
  show (intKind prog w).is (c : Int) (Value.int (x : Int) (T x)) = (x == c)
  rw [KeyKind.is_eq_decide (intKind_is prog w (x : Int) (T x))]
  by_cases h : x = c
  · subst h; simp
  · have h' : ¬ (c : Int) = x := by omega
    simp [h, h']
end
section
/-- the order flag of the world -/
abbrev byText (w : World) : Bool := w.params.followText "set-order"
section
variable {prog : Program} {w : World} {A₀ : Around} {s : Shared} {E : Value → Shared → Prop} {a : Addr} {o : Obj} {A : List Nat} {T : Nat → Tok} {ep m mv : Nat} {b : Bool}
/-- the object's data is the set A -/
structure SetD (b : Bool) (A : List Nat) (d : Data) : Prop where
  sub : A ∈ subs
  data : ∃ T ep m mv, MM m mv ∧ d = .set (ents A T) ep (tab b m mv A)
theorem set_scan {c : Nat} {t : Tok} {adding : Bool} {Q : ScanMet → Shared → Prop} (hA : A ∈ subs) (hm : MM m mv) (hc : c < 4) (ho : s.heap.get? a = some o) (hd : o.data = .set (ents A T) ep (tab b m mv A))
    (h : Q (match A.findIdx? (· == c) with | some j => .found (0 + j) | none => .absent) s) : wpAny (model prog w) A₀ (setScan a (.int c t) (c : Int) adding (ents A T)) Q E s := by
  have hk : (intKind prog w).is (c : Int) (.int c t) = true := intKind_is _ _ _ _
  have hel := ents_elems (prog := prog) (w := w) (T := T) hA
  have hh : (intKind prog w).hash (c : Int) = (c : Int) := red_hash hc
  have scan := wpAny_setScan_of (A := A₀) (E := E) (s := s) (adding := adding) (knd := intKind prog w) (k := (c : Int)) (x := .int c t) (Q := Q) hk ho hd (tab_fits hA hm) hel
  rw [hh, ents_find] at scan
  exact scan h
theorem set_find {c : Nat} {t : Tok} {Q : Option Nat → Shared → Prop} (hA : A ∈ subs) (hm : MM m mv) (hc : c < 4) (ho : s.heap.get? a = some o) (hd : o.data = .set (ents A T) ep (tab b m mv A))
    (h : ∀ r : Option Nat, r.isSome = A.contains c → Q r s) : wpAny (model prog w) A₀ (setFind a (.int c t) (c : Int)) Q E s := by
  have hf := tab_fits (b := b) (T := T) hA hm
  have hk : (intKind prog w).is (c : Int) (.int c t) = true := intKind_is _ _ _ _
  have hel := ents_elems (prog := prog) (w := w) (T := T) hA
  unfold setFind setFindIn
  refine wpAny_bind (wpAny_setState_of ho hd hf ?_)
  dsimp only
  have hb : (ents A T).size < scanBound := by
    have := sub_len hA
    simp only [ents, List.size_toArray, List.length_map]
    unfold scanBound; omega
  rw [byScan_of rfl hb hel]
  simp only [↓reduceIte]
  refine wpAny_bind (wpAny_rule ?_)
  refine wpAny_bind (set_scan hA hm hc ho hd ?_)
  cases hr : A.findIdx? (· == c) with
  | none =>
    refine wpAny_pure (h none ?_)
    rw [List.findIdx?_eq_none_iff] at hr
    symm
    rw [Option.isSome_none, ← Bool.not_eq_true, List.contains_iff_mem]
    intro hm
    have := hr c hm
    simp at this
  | some j =>
    refine wpAny_pure (h _ ?_)
    obtain ⟨hj, hp, _⟩ := List.findIdx?_eq_some_iff_getElem.mp hr
    symm
    rw [Option.isSome_some, List.contains_iff_mem]
    rw [← beq_iff_eq.mp hp]
    exact List.getElem_mem hj
theorem set_add {c : Nat} {t : Tok} {Q : Bool → Shared → Prop} (hA : A ∈ subs) (hm : MM m mv) (hc : c < 4) (ho : s.heap.get? a = some o) (hd : o.data = .set (ents A T) ep (tab b m mv A))
    (h : ∀ h' T' ep', Heap.SameBut a s.heap h' → h'.get? a = some { o with data := .set (ents (ins c A) T') ep' (tab b m mv (ins c A)) } → Q (!A.contains c) { s with heap := h' }) :
    wpAny (model prog w) A₀ (setAddHashed a (.int c t) (c : Int)) Q E s := by
  have hf := tab_fits (b := b) (T := T) hA hm
  have hk : (intKind prog w).is (c : Int) (.int c t) = true := intKind_is _ _ _ _
  have hel := ents_elems (prog := prog) (w := w) (T := T) hA
  have hb : (ents A T).size < scanBound := by
    have := sub_len hA
    simp only [ents, List.size_toArray, List.length_map]
    unfold scanBound; omega
  have hh : (intKind prog w).hash (c : Int) = (c : Int) := red_hash hc
  unfold setAddHashed setAddHashedIn
  refine wpAny_holding (wpAny_bind (wpAny_setState_of ho hd hf ?_))
  dsimp only
  rw [byScan_of rfl hb hel]
  simp only [↓reduceIte]
  unfold setAddByScan
  refine wpAny_bind ?_
  refine wpAny_bind (wpAny_rule ?_)
  refine wpAny_bind (set_scan hA hm hc ho hd ?_)
  cases hr : A.findIdx? (· == c) with
  | some j =>
    obtain ⟨hj, hp, _⟩ := List.findIdx?_eq_some_iff_getElem.mp hr
    have hmem : c ∈ A := by rw [← beq_iff_eq.mp hp]; exact List.getElem_mem hj
    refine wpAny_pure (wpAny_pure ?_)
    have := h s.heap T ep (Heap.SameBut.refl a s.heap) (by rw [ins_mem hA hmem, ← hd]; exact ho)
    rw [show (!A.contains c) = false by rw [List.contains_iff_mem.mpr hmem]; rfl] at this
    exact this
  | none =>
    have hmem : c ∉ A := by
      intro hm'
      have := List.findIdx?_eq_none_iff.mp hr c hm'
      simp at this
    have hL := lay_new (b := b) (T := T) (t := t) hA hm hc hmem
    dsimp only
    rw [hL]
    dsimp only
    refine wpAny_bind (wpAny_pure ?_)
    have hp : (tab b m mv (ins c A)).plain = true := rfl
    rw [hp]
    simp only [if_true]
    rw [hashByValue_scannable 8 (x := .int c t) rfl]
    refine wpAny_bind (wpAny_pure ?_)
    simp only [plainKind, if_true]
    have hz : (ents (ins c A) (upT T c t)).size ≤ sizeLine := by
      have := sub_len (ins_sub c A)
      simp only [ents, List.size_toArray, List.length_map]
      rw [sizeLine_eq]; omega
    refine wpAny_bind (wpAny_storeSet_of ho hd ?_ hz)
    rw [not_full (ins_sub c A) hm]
    simp only [Bool.not_false, Bool.and_false, Bool.false_eq_true, if_false]
    refine wpAny_pure (wpAny_pure ?_)
    have e := putSet_of (ents (ins c A) (upT T c t)) (tab b m mv (ins c A)) hd
    have := h (s.heap.update a (Obj.putSet (ents (ins c A) (upT T c t)) (tab b m mv (ins c A)))) (upT T c t) (ep + 1) (Heap.SameBut.update ..)
      (by rw [Heap.get?_update_self _ ho (by rw [e]; rfl), e])
    rw [show (!A.contains c) = true by rw [show A.contains c = false from Bool.eq_false_iff.mpr fun q => hmem (List.contains_iff_mem.mp q)]; rfl] at this
    exact this
end
end
section
theorem slot_setit_next : Slot "set_iterator" "__next__" "set_iterator.__next__" :=
  Slot.of (T := "set_iterator") (name := "__next__") (owner := "set_iterator") (n := "__next__") (by rw [typeLookup_type, builtinLookup_eq_fast]; kernel_rfl) (by decide +kernel) (by decide +kernel) (by decide +kernel) (.inl (by decide +kernel)) (by rw [isSubtype_type]; kernel_rfl)
theorem entry_setit_next : entryFor table "set_iterator.__next__" = some Builtin.«set_iterator.__next__» := entryFor_of_tree (by kernel_rfl)
theorem args_setit_next (a : Value) : argsOk "set_iterator.__next__" ⟨[a], []⟩ := by unfold argsOk; kernel_rfl
theorem slot_setit_iter : Slot "set_iterator" "__iter__" "set_iterator.__iter__" :=
  Slot.of (T := "set_iterator") (name := "__iter__") (owner := "set_iterator") (n := "__iter__") (by rw [typeLookup_type, builtinLookup_eq_fast]; kernel_rfl) (by decide +kernel) (by decide +kernel) (by decide +kernel) (.inl (by decide +kernel)) (by rw [isSubtype_type]; kernel_rfl)
theorem entry_setit_iter : entryFor table "set_iterator.__iter__" = some Builtin.«dict_keyiterator.__iter__» := entryFor_alias (id' := "dict_keyiterator.__iter__") ((fastTable_eq_tree _).trans (by kernel_rfl)) rfl (by decide +kernel) ((fastTable_eq_tree _).trans (by kernel_rfl))
theorem args_setit_iter (a : Value) : argsOk "set_iterator.__iter__" ⟨[a], []⟩ := by unfold argsOk; kernel_rfl

/-- the values in the order in which the world hands them out -/
def ordOf (w : World) (a ep : Nat) (A : List Nat) (T : Nat → Tok) : List Value :=
  if byText w then (pickOrder (w.params.setOrder a ep) (ents A T)).toList.map (·.2) else A.map fun (c : Nat) => Value.int (c : Int) (T c)
def slotOf (b : Bool) (A : List Nat) (i : Nat) : Nat := if b then 0 else if i = 0 then 0 else A.getD (i - 1) 0 + 1
theorem below_slot {A : List Nat} (hA : A ∈ subs) {i : Nat} (hi : i ≤ A.length) : SetTable.below A.toArray (slotOf false A i) = i := by
  have : ∀ A ∈ subs, ∀ i ∈ [0, 1, 2, 3, 4], i ≤ A.length → SetTable.below A.toArray (slotOf false A i) = i := by decide +kernel
  exact this A hA i (by have := sub_len hA; simp; omega) hi
theorem eraseIdx_perm {α : Type} : ∀ (l : List α) (i : Nat) (h : i < l.length), (l[i] :: l.eraseIdx i).Perm l
  | [], _, h => absurd h (Nat.not_lt_zero _)
  | _ :: _, 0, _ => .refl _
  | x :: xs, i + 1, h => (List.Perm.swap ..).trans (.cons _ (eraseIdx_perm xs i (Nat.lt_of_succ_lt_succ h)))
theorem pick_go {α : Type} (next : Nat → Nat) : ∀ (fuel k : Nat) (left : List α) (out : Array α), fuel = left.length → (pickOrder.go next fuel k left out).toList.Perm (out.toList ++ left)
  | 0, k, left, out, h => by
    have : left = [] := List.length_eq_zero_iff.mp h.symm
    subst this
    rw [pickOrder.go, List.append_nil]
  | fuel + 1, k, left, out, h => by
    have hpos : 0 < left.length := by omega
    have hlt : next k % left.length < left.length := Nat.mod_lt _ hpos
    rw [pickOrder.go, List.getElem?_eq_getElem hlt]
    dsimp only
    refine (pick_go next fuel (k + 1) _ _ (by rw [List.length_eraseIdx_of_lt hlt]; omega)).trans ?_
    rw [Array.toList_push, List.append_assoc]
    refine List.Perm.append_left _ ?_
    rw [List.singleton_append]
    exact eraseIdx_perm _ _ hlt
theorem pick_perm {α : Type} (next : Nat → Nat) (xs : Array α) : (pickOrder next xs).toList.Perm xs.toList := by
  unfold pickOrder
  simpa using pick_go next xs.size 0 xs.toList #[] (by simp)
theorem ord_perm (w : World) (a ep : Nat) (A : List Nat) (T : Nat → Tok) : (ordOf w a ep A T).Perm (A.map fun (c : Nat) => Value.int (c : Int) (T c)) := by
  unfold ordOf
  split
  · refine ((pick_perm _ _).map _).trans ?_
    simp only [ents, List.map_map]
    exact .refl _
  · exact .refl _
theorem ord_len {w : World} {a ep : Nat} {A : List Nat} {T : Nat → Tok} : (ordOf w a ep A T).length = A.length := by
  rw [(ord_perm w a ep A T).length_eq, List.length_map]

section
variable {prog : Program} {w : World} {A₀ : Around} {s : Shared} {E : Value → Shared → Prop} {a I : Addr} {o : Obj} {A : List Nat} {T : Nat → Tok} {ep m mv : Nat}
def SetItAt (h : Heap) (I a : Addr) (i sl n ep : Nat) : Prop := ∃ oi, h.get? I = some oi ∧ oi.cls = .type "set_iterator" ∧ oi.data = .fields #[.int sl 0, .int i 0, .ref a, .int n 0, .int ep 0]
theorem set_byText {Q : Bool → Shared → Prop} (h : Q (byText w) s) : wpAny (model prog w) A₀ setsByText Q E s := by
  unfold setsByText
  exact wpAny_bind (wpAny_askSetting (wpAny_pure h))
theorem set_walk {Q : Array (Int × Value) → Shared → Prop} (hA : A ∈ subs) (hm : MM m mv) (ho : s.heap.get? a = some o) (hd : o.data = .set (ents A T) ep (tab (byText w) m mv A))
    (h : ∀ es : Array (Int × Value), es.toList.map (·.2) = ordOf w a ep A T → es.toList.Perm (ents A T).toList → Q es s) : wpAny (model prog w) A₀ (setWalk a) Q E s := by
  have hf := tab_fits (b := byText w) (T := T) hA hm
  unfold setWalk
  refine wpAny_bind (wpAny_setState_of ho hd hf ?_)
  dsimp only
  refine wpAny_bind (set_byText ?_)
  have hq := h (if byText w then pickOrder (w.params.setOrder a ep) (ents A T) else ents A T) (by
    unfold ordOf
    split
    · rfl
    · simp [ents]) (by
    split
    · exact pick_perm _ _
    · exact .refl _)
  clear h hd
  cases hb : byText w with
  | true =>
    rw [hb] at hq
    simp only [if_true] at hq ⊢
    exact wpAny_bind (wpAny_askSetting (wpAny_pure hq))
  | false =>
    rw [hb] at hq
    simp only [Bool.false_eq_true, if_false] at hq ⊢
    refine wpAny_bind (m := pure ()) (wpAny_pure ?_)
    exact wpAny_pure hq
theorem set_setNext {i : Nat} {v : Value} {Q : Option (Value × Nat) → Shared → Prop} (hA : A ∈ subs) (hm : MM m mv) (ho : s.heap.get? a = some o) (hd : o.data = .set (ents A T) ep (tab (byText w) m mv A))
    (hi : (ordOf w a ep A T)[i]? = some v) (h : Q (some (v, slotOf (byText w) A (i + 1))) s) : wpAny (model prog w) A₀ (setNext a (slotOf (byText w) A i) i ep) Q E s := by
  have hf := tab_fits (b := byText w) (T := T) hA hm
  have hlt : i < A.length := by
    have := (List.getElem?_eq_some_iff.mp hi).1
    rwa [ord_len] at this
  unfold setNext
  refine wpAny_bind (wpAny_setState_of ho hd hf ?_)
  dsimp only
  refine wpAny_bind (set_byText ?_)
  cases hb : byText w with
  | true =>
    simp only [if_true]
    rw [show (ep != ep) = false from by simp]
    simp only [Bool.false_eq_true, if_false]
    refine wpAny_bind (set_walk hA hm ho hd fun es he _ => wpAny_pure ?_)
    rw [hb] at h
    have : es[i]?.map (·.2) = some v := by
      rw [← he, List.getElem?_map, Array.getElem?_toList] at hi
      exact hi
    obtain ⟨e, h1, h2⟩ := Option.map_eq_some_iff.mp this
    rw [h1]
    show Q (some (e.2, slotOf true A i)) s
    rw [h2]
    exact h
  | false =>
    simp only [Bool.false_eq_true, if_false]
    refine wpAny_bind (m := pure ()) (wpAny_pure ?_)
    have e1 : SetTable.below (tab false m mv A).place (slotOf false A i) = i := below_slot hA (Nat.le_of_lt hlt)
    rw [hb] at h
    unfold ordOf at hi
    rw [hb] at hi
    simp only [Bool.false_eq_true, if_false, List.getElem?_map] at hi
    obtain ⟨c, h1, rfl⟩ := Option.map_eq_some_iff.mp hi
    rw [e1]
    have e2 : (ents A T)[i]? = some ((c : Int), Value.int (c : Int) (T c)) := by simp [ents, h1]
    have e3 : (tab false m mv A).place[i]? = some c := by simp [tab, h1]
    rw [e2, e3]
    have e4 : slotOf false A (i + 1) = c + 1 := by simp [slotOf, List.getD, h1]
    rw [e4] at h
    exact wpAny_pure h
theorem set_setNext_end {i : Nat} {Q : Option (Value × Nat) → Shared → Prop} (hA : A ∈ subs) (hm : MM m mv) (ho : s.heap.get? a = some o) (hd : o.data = .set (ents A T) ep (tab (byText w) m mv A))
    (hi : i = A.length) (h : Q none s) : wpAny (model prog w) A₀ (setNext a (slotOf (byText w) A i) i ep) Q E s := by
  have hf := tab_fits (b := byText w) (T := T) hA hm
  unfold setNext
  refine wpAny_bind (wpAny_setState_of ho hd hf ?_)
  dsimp only
  refine wpAny_bind (set_byText ?_)
  cases hb : byText w with
  | true =>
    simp only [if_true]
    rw [show (ep != ep) = false from by simp]
    simp only [Bool.false_eq_true, if_false]
    refine wpAny_bind (set_walk hA hm ho hd fun es he _ => wpAny_pure ?_)
    have : es[i]? = none := by
      have hl := congrArg List.length he
      rw [ord_len, List.length_map, Array.length_toList] at hl
      exact Array.getElem?_eq_none (by omega)
    rw [this]
    exact h
  | false =>
    simp only [Bool.false_eq_true, if_false]
    refine wpAny_bind (m := pure ()) (wpAny_pure ?_)
    have e1 : SetTable.below (tab false m mv A).place (slotOf false A i) = i := below_slot hA (Nat.le_of_eq hi)
    rw [e1]
    have e2 : (ents A T)[i]? = none := by simp [ents, hi]
    rw [e2]
    exact wpAny_pure h
theorem set_next {i : Nat} {v : Value} {Q : Option Value → Shared → Prop} (hA : A ∈ subs) (hm : MM m mv) (ho : s.heap.get? a = some o) (hd : o.data = .set (ents A T) ep (tab (byText w) m mv A)) (hI : a ≠ I)
    (hit : SetItAt s.heap I a i (slotOf (byText w) A i) A.length ep) (hi : (ordOf w a ep A T)[i]? = some v)
    (hQ : ∀ h', SetItAt h' I a (i + 1) (slotOf (byText w) A (i + 1)) A.length ep → Heap.SameBut I s.heap h' → Q (some v) { s with heap := h' }) : wpAny (model prog w) A₀ (pyNext (.ref I)) Q E s := by
  obtain ⟨oi, hoi, hc, hdi⟩ := hit
  have hf := tab_fits (b := byText w) (T := T) hA hm
  have hlt : i < A.length := by
    have := (List.getElem?_eq_some_iff.mp hi).1
    rwa [ord_len] at this
  have hsz : (ents A T).size = A.length := by simp [ents]
  unfold pyNext
  refine wpAny_bind (wpAny_attempt (wpAny_callSpecial?_slot (name := Str.ofString "__next__") ⟨oi, hoi, hc⟩ slot_setit_next (wpAny_call_entry slot_setit_next ⟨oi, hoi, hc⟩ entry_setit_next ?_ (args_setit_next _))))
  unfold Builtin.«set_iterator.__next__»
  refine wpAny_bind (wpAny_pure ?_)
  dsimp only
  refine wpAny_bind (wpAny_bind (wpAny_load hoi ?_))
  rw [hdi]
  refine wpAny_pure ?_
  dsimp only
  refine wpAny_bind (wpAny_bind (wpAny_setState_of ho hd hf (wpAny_pure ?_)))
  rw [hsz, show ((A.length : Int) != (A.length : Int)) = false from by simp]
  simp only [Bool.false_eq_true, if_false]
  refine wpAny_bind (set_setNext hA hm ho hd hi ?_)
  dsimp only
  refine wpAny_bind (wpAny_setField hoi hdi (by simp) ?_)
  have g1 := Heap.get?_update_self (h := s.heap) (Obj.mapFields fun x => x.setIfInBounds 0 (rawInt (slotOf (byText w) A (i + 1)))) hoi (Obj.isFreed_of_fields (Obj.data_mapFields hdi _))
  have d1 := Obj.data_mapFields hdi fun x => x.setIfInBounds 0 (rawInt (slotOf (byText w) A (i + 1)))
  refine wpAny_bind (wpAny_setField g1 d1 (by simp) (wpAny_pure ⟨v, rfl, wpAny_pure (hQ _ ?_ ((Heap.SameBut.update ..).trans (Heap.SameBut.update ..)))⟩))
  refine ⟨_, Heap.get?_update_self _ g1 (Obj.isFreed_of_fields (Obj.data_mapFields d1 _)), (Obj.cls_mapFields ..).trans ((Obj.cls_mapFields ..).trans hc), ?_⟩
  rw [Obj.data_mapFields d1]
  simp [rawInt]
theorem set_end {Q : Option Value → Shared → Prop} (hh : A₀.handled = none) (hA : A ∈ subs) (hm : MM m mv) (ho : s.heap.get? a = some o) (hd : o.data = .set (ents A T) ep (tab (byText w) m mv A))
    (hit : SetItAt s.heap I a A.length (slotOf (byText w) A A.length) A.length ep)
    (hQ : ∀ h', Heap.ExtBut I s.heap h' → Q none { s with heap := h' }) : wpAny (model prog w) A₀ (pyNext (.ref I)) Q E s := by
  obtain ⟨oi, hoi, hc, hdi⟩ := hit
  have hf := tab_fits (b := byText w) (T := T) hA hm
  have hsz : (ents A T).size = A.length := by simp [ents]
  unfold pyNext
  refine wpAny_bind (wpAny_attempt (wpAny_callSpecial?_slot (name := Str.ofString "__next__") ⟨oi, hoi, hc⟩ slot_setit_next (wpAny_call_entry slot_setit_next ⟨oi, hoi, hc⟩ entry_setit_next ?_ (args_setit_next _))))
  unfold Builtin.«set_iterator.__next__»
  refine wpAny_bind (wpAny_pure ?_)
  dsimp only
  refine wpAny_bind (wpAny_bind (wpAny_load hoi ?_))
  rw [hdi]
  refine wpAny_pure ?_
  dsimp only
  refine wpAny_bind (wpAny_bind (wpAny_setState_of ho hd hf (wpAny_pure ?_)))
  rw [hsz, show ((A.length : Int) != (A.length : Int)) = false from by simp]
  simp only [Bool.false_eq_true, if_false]
  refine wpAny_bind (set_setNext_end (i := A.length) hA hm ho hd rfl ?_)
  dsimp only
  refine wpAny_bind (wpAny_setField hoi hdi (by simp) ?_)
  show wpAny _ _ (newExc (.type "StopIteration") [] >>= _) _ _ _
  refine wpAny_bind ?_
  simp only [newExc, newTuple]
  refine wpAny_bind (wpAny_newObj_type ?_ (by size_fits))
  refine wpAny_bind (m := firstArgMember _ _) (wpAny_of_eq (a := Value.none) (by first | rfl | (simp only [firstArgMember]; rfl)) ?_)
  refine wpAny_newObj_type ?_ (by size_fits)
  simp only [raiseNew]
  refine wpAny_bind (wpAny_handled ?_)
  rw [show A₀.in1.handled = none from hh]
  refine wpAny_bind (wpAny_pure (wpAny_throw ?_))
  refine wpAny_bind (wpAny_isInstance (T := "StopIteration") (b := true) ⟨_, Heap.get?_push_size _ rfl, rfl⟩ isSubtype_stop ?_)
  exact wpAny_pure (hQ _ (((Heap.SameBut.update ..).extBut.push _).push _))
/-- a walk over a set of small ints -/
theorem walks_set (hh : A₀.handled = none) (hA : A ∈ subs) (hm : MM m mv) (hd : o.data = .set (ents A T) ep (tab (byText w) m mv A)) (hI : a ≠ I) :
    Walks prog w A₀ I [I, a] [I] A.length (fun i v => (ordOf w a ep A T)[i]? = some v) (fun i h => SetItAt h I a i (slotOf (byText w) A i) A.length ep ∧ h.get? a = some o) where
  sub := fun b hb => by simp at hb; simp [hb]
  frame := fun i h h' st hk => by
    obtain ⟨⟨oi, h1, h2⟩, h3⟩ := st
    exact ⟨⟨oi, hk I (by simp) _ h1, h2⟩, hk a (by simp) _ h3⟩
  item := fun i s Q E hi st hQ => by
    have hl : i < (ordOf w a ep A T).length := by rw [ord_len]; exact hi
    refine set_next hA hm st.2 hd hI st.1 (List.getElem?_eq_getElem hl) fun h' hit hs => ?_
    exact hQ _ h' s.toks (List.getElem?_eq_getElem hl) ⟨hit, (hs.2 a hI).trans st.2⟩ fun b o' hb e => hs.extBut b o' (fun q => hb (by simp [q])) e
  done := fun s Q E st hQ => set_end hh hA hm st.2 hd st.1 fun h' he => hQ h' s.toks fun b o' hb e => he b o' (fun q => hb (by simp [q])) e
  self := fun i s Q E st hQ => by
    obtain ⟨⟨oi, h1, h2, _⟩, _⟩ := st
    have hT : s.TypeIs (.ref I) "set_iterator" := ⟨oi, h1, h2⟩
    refine wpAny_pyIter_slot hT slot_setit_iter (wpAny_call_entry slot_setit_iter hT entry_setit_iter ?_ (args_setit_iter _))
    show wpAny _ _ (ret (.ref I)) _ _ s
    exact wpAny_pure ⟨_, rfl, "set_iterator", _, hT, slot_setit_next.lookup, hQ⟩
end
end
section
theorem entry_set_iter : entryFor table "set.__iter__" = some Builtin.«frozenset.__iter__» := entryFor_alias (id' := "frozenset.__iter__") ((fastTable_eq_tree _).trans (by kernel_rfl)) rfl (by decide +kernel) ((fastTable_eq_tree _).trans (by kernel_rfl))
theorem kind_set_iter : builtinKind "set.__iter__" = some .slot := by decide +kernel
theorem split_set_iter : splitId "set.__iter__" = some ("set", "__iter__") := by decide +kernel
section
variable {prog : Program} {w : World} {A₀ : Around} {s : Shared} {E : Value → Shared → Prop} {a : Addr} {o : Obj} {A : List Nat} {T : Nat → Tok} {ep m mv : Nat} {C : Value}
/-- a is a set, plain or of the text's own class -/
structure IsSet (M : Model) (h : Heap) (a : Addr) : Prop where
  iter : Looks M h (specialOf (.ref a) "__iter__") (some (.builtin "set.__iter__"))
  len : Looks M h (specialOf (.ref a) "__len__") (some (.builtin "set.__len__"))
  inst : Looks M h (isInstance (.ref a) (.type "set")) true
theorem IsSet.keep {M : Model} {h h' : Heap} (S : IsSet M h a) (k : ∀ b o, h.get? b = some o → h'.get? b = some o) : IsSet M h' a := ⟨S.iter.keeps k, S.len.keeps k, S.inst.keeps k⟩
theorem isSet_plain {M : Model} {h : Heap} (ho : h.get? a = some o) (hc : o.cls = .type "set") : IsSet M h a := by
  have L : Looks M h (typeOf (.ref a)) (.type "set") := hc ▸ (Looks.ld ho).andThen .now
  refine ⟨L.andThen (Looks.of_pure PySem.F.slot_set_iter.lookup), L.andThen (Looks.of_pure PySem.F.slot_set_len.lookup), L.andThen (Looks.of_pure sub_set_self)⟩
theorem isSet_own {M : Model} {h : Heap} {K : Frag} (X : K.In h) (ho : h.get? a = some o) (hc : o.cls = .ref 75) (h1 : findIn K (.ref 75) "__iter__" = some (some (.builtin "set.__iter__"))) (h2 : findIn K (.ref 75) "__len__" = some (some (.builtin "set.__len__")))
    (h3 : subIn K (.ref 75) (.type "set") = some true) : IsSet M h a := by
  have L : Looks M h (typeOf (.ref a)) (.ref 75) := hc ▸ (Looks.ld ho).andThen .now
  exact ⟨L.andThen (looks_findIn X h1), L.andThen (looks_findIn X h2), L.andThen (looks_subIn X h3)⟩
theorem bind_builtin {id : String} {v : Value} {T : String} {nm : Str} (S : Slot T nm id) {M : Model} {h : Heap} : Looks M h (bindSpecial (.builtin id) v) (.builtin id, [v]) := Looks.of_pure (S.bind v)
theorem iter_set {Q : Value → Shared → Prop} (S : IsSet (model prog w) s.heap a) (hA : A ∈ subs) (hm : MM m mv) (ho : s.heap.get? a = some o) (hd : o.data = .set (ents A T) ep (tab (byText w) m mv A))
    (h : Q (.ref s.heap.objs.size) { s with heap := s.heap.push { cls := .type "set_iterator", data := .fields #[.int 0 0, .int 0 0, .ref a, .int A.length 0, .int ep 0] } }) : wpAny (model prog w) A₀ (pyIter (.ref a)) Q E s := by
  have hf := tab_fits (b := byText w) (T := T) hA hm
  have hsz : (ents A T).size = A.length := by simp [ents]
  unfold pyIter
  refine wpAny_bind (S.iter.here ?_)
  dsimp only
  unfold callSpecialIfBoundUnlessNone?
  refine wpAny_bind (wpAny_holding (wpAny_bind ?_))
  unfold bindSpecialIfBound?
  refine wpAny_bind (S.iter.here ?_)
  have call : wpAny (model prog w) A₀ (call (.builtin "set.__iter__") [.ref a]) (fun it s' => it = .ref s.heap.objs.size ∧ s' = { s with heap := s.heap.push { cls := .type "set_iterator", data := .fields #[.int 0 0, .int 0 0, .ref a, .int A.length 0, .int ep 0] } }) E s := by
    refine wpAny_call (codeAny_call_builtin PySem.F.slot_set_iter.plain entry_set_iter (@check_slot (model prog w) _ _ s "set.__iter__" "set" "__iter__" (.ref a) [] [] _ kind_set_iter split_set_iter S.inst (PySem.F.args_set_iter_1 _) ?_))
    unfold Builtin.«frozenset.__iter__»
    refine wpAny_bind (wpAny_pure ?_)
    refine wpAny_bind (wpAny_bind (wpAny_bind (wpAny_setState_of ho hd hf (wpAny_pure (wpAny_pure ?_)))))
    refine wpAny_bind (wpAny_bind (wpAny_setState_of ho hd hf ?_))
    dsimp only
    refine wpAny_bind (set_byText (wpAny_pure ?_))
    split
    · rename_i q
      obtain ⟨_, q⟩ := (Bool.and_eq_true_iff).mp q
      exact absurd (show false = true from q) Bool.false_ne_true
    refine wpAny_bind (wpAny_pure ?_)
    refine wpAny_bind (wpAny_setEpoch_of ho hd hf ?_)
    rw [hsz]
    refine wpAny_bind (wpAny_newObj_type (wpAny_pure ⟨rfl, rfl⟩))
  have L2 : Looks (model prog w) s.heap (bindSpecial (.builtin "set.__iter__") (.ref a)) (.builtin "set.__iter__", [.ref a]) := Looks.of_pure (PySem.F.slot_set_iter.bind _)
  dsimp only
  refine wpAny_bind (wpAny_askSetting (wpAny_ite ?_))
  have fin : ∀ Q' : Option Value → Shared → Prop, Q' (some (.ref s.heap.objs.size)) { s with heap := s.heap.push { cls := .type "set_iterator", data := .fields #[.int 0 0, .int 0 0, .ref a, .int A.length 0, .int ep 0] } } →
      wpAny (model prog w) A₀ (PySem.call (.builtin "set.__iter__") [.ref a] >>= fun v => pure (some v)) Q' E s := by
    intro Q' hq
    refine wpAny_bind (wpAny_mono call (fun v s' hv => ?_) fun _ _ e => e)
    obtain ⟨rfl, rfl⟩ := hv
    exact wpAny_pure hq
  have last : wpAny (model prog w) A₀ (specialOf (.ref s.heap.objs.size) "__next__") (fun r s' => (∃ x, r = some x) ∧ s' = { s with heap := s.heap.push { cls := .type "set_iterator", data := .fields #[.int 0 0, .int 0 0, .ref a, .int A.length 0, .int ep 0] } }) E
      { s with heap := s.heap.push { cls := .type "set_iterator", data := .fields #[.int 0 0, .int 0 0, .ref a, .int A.length 0, .int ep 0] } } :=
    wpAny_specialOf (T := "set_iterator") ⟨_, Heap.get?_push_size _ rfl, rfl⟩ slot_setit_next.lookup ⟨⟨_, rfl⟩, rfl⟩
  split
  · refine wpAny_bind (L2.here (wpAny_pure ?_))
    dsimp only
    rw [if_neg (by decide)]
    refine fin _ ?_
    dsimp only
    refine wpAny_bind (wpAny_mono last (fun r s' hr => ?_) fun _ _ e => e)
    obtain ⟨⟨x, rfl⟩, rfl⟩ := hr
    exact wpAny_pure h
  · refine wpAny_tryCatch (wpAny_bind (L2.here (wpAny_pure ?_)))
    dsimp only
    rw [if_neg (by decide)]
    refine fin _ ?_
    dsimp only
    refine wpAny_bind (wpAny_mono last (fun r s' hr => ?_) fun _ _ e => e)
    obtain ⟨⟨x, rfl⟩, rfl⟩ := hr
    exact wpAny_pure h
end
end
section
def insAll (cs : List Nat) (A : List Nat) : List Nat := cs.foldl (fun A c => ins c A) A
theorem insAll_sub {cs A : List Nat} (hA : A ∈ subs) : insAll cs A ∈ subs := by
  unfold insAll
  induction cs generalizing A with
  | nil => exact hA
  | cons c r ih => exact ih (ins_sub c A)
theorem mem_insAll {cs A : List Nat} (hcs : ∀ c ∈ cs, c < 4) {x : Nat} : x ∈ insAll cs A ↔ x ∈ cs ∨ (x ∈ A ∧ (cs ≠ [] → x < 4)) := by
  unfold insAll
  induction cs generalizing A with
  | nil => simp
  | cons c r ih =>
    rw [List.foldl_cons, ih fun y hy => hcs y (.tail _ hy)]
    rw [mem_ins]
    have hc := hcs c (.head _)
    constructor
    · rintro (h | ⟨⟨h1, h2⟩, h3⟩)
      · exact .inl (.tail _ h)
      · rcases h2 with rfl | h2
        · exact .inl (.head _)
        · exact .inr ⟨h2, fun _ => h1⟩
    · rintro (h | ⟨h1, h2⟩)
      · rcases List.mem_cons.mp h with rfl | h
        · exact .inr ⟨⟨hc, .inl rfl⟩, fun _ => hc⟩
        · exact .inl h
      · have := h2 (by simp)
        exact .inr ⟨⟨this, .inr h1⟩, fun _ => this⟩
section
variable {prog : Program} {w : World} {A₀ : Around} {E : Value → Shared → Prop} {S I : Addr} {fp wr : List Addr} {n m mv : Nat} {P : Nat → Value → Prop} {St : Nat → Heap → Prop} {b : Bool} {R : Result → Shared → Prop}
/-- the object o with its data the set A -/
def HasSet (b : Bool) (m mv : Nat) (o : Obj) (h : Heap) (S : Addr) (A : List Nat) : Prop := ∃ T ep, h.get? S = some { o with data := .set (ents A T) ep (tab b m mv A) }
theorem set_setAdd {s : Shared} {o : Obj} {A : List Nat} {c : Nat} {t : Tok} {Q : Bool → Shared → Prop} (hA : A ∈ subs) (hm : MM m mv) (hc : c < 4) (hS : HasSet b m mv o s.heap S A)
    (h : ∀ h' tk, Heap.SameBut S s.heap h' → HasSet b m mv o h' S (ins c A) → Q (!A.contains c) { s with heap := h', toks := tk }) : wpAny (model prog w) A₀ (setAdd S (.int c t)) Q E s := by
  obtain ⟨T, ep, ho⟩ := hS
  unfold setAdd
  refine wpAny_holding (wpAny_bind (wpAny_pyHash_int ?_))
  rw [red_hash hc]
  refine set_add (s := { s with toks := s.toks + 1 }) hA hm hc ho rfl fun h' T' ep' hs hg => ?_
  exact h h' _ hs ⟨T', ep', hg⟩
theorem update_loop (hm : MM m mv) (o : Obj) (cs : List Nat) (hcs : ∀ c ∈ cs, c < 4) (W : Walks prog w A₀.in1 I fp wr cs.length P St) (hSf : S ∉ fp) (hP : ∀ i v, P i v → ∃ t, v = .int (cs.getD i 0 : Nat) t) :
    ∀ (k i : Nat) (s : Shared) (A : List Nat), cs.length - i = k → i ≤ cs.length → A ∈ subs → St i s.heap → HasSet b m mv o s.heap S A →
      (∀ h' tk, (∀ a x, a ≠ S → a ∉ wr → s.heap.get? a = some x → h'.get? a = some x) → HasSet b m mv o h' S (insAll (cs.drop i) A) → R (.ok (.ret .none)) { s with heap := h', toks := tk }) →
      codeAny (model prog w) A₀ (.builtin "set.update.loop" ⟨[.ref S, .ref I], []⟩) R s := by
  have hSw : S ∉ wr := fun h => hSf (W.sub _ h)
  intro k
  induction k with
  | zero =>
    intro i s A hk hi hA hst hS hR
    have hin : i = cs.length := by omega
    subst hin
    refine codeAny_builtin PyProof.Rows.F.entry_set_update_loop ?_
    rw [Around.under_plainId PyProof.Rows.F.plain_set_update_loop _]
    show wpAny _ A₀.in1 (pyNext (.ref I) >>= _) _ _ s
    refine wpAny_bind (W.done s _ _ hst fun h' tk hk' => ?_)
    show wpAny _ A₀.in1 (ret Value.none) _ _ _
    refine wpAny_pure (hR h' tk (fun a x _ hw e => hk' a x hw e) ?_)
    rw [List.drop_length]
    obtain ⟨T, ep, ho⟩ := hS
    exact ⟨T, ep, hk' _ _ hSw ho⟩
  | succ k ih =>
    intro i s A hk hi hA hst hS hR
    have hlt : i < cs.length := by omega
    refine codeAny_builtin PyProof.Rows.F.entry_set_update_loop ?_
    rw [Around.under_plainId PyProof.Rows.F.plain_set_update_loop _]
    show wpAny _ A₀.in1 (pyNext (.ref I) >>= _) _ _ s
    refine wpAny_bind (W.item i s _ _ hlt hst fun v h₁ tk₁ hPv hst₁ hk₁ => ?_)
    obtain ⟨t, rfl⟩ := hP i v hPv
    have hc : cs.getD i 0 < 4 := hcs _ (by rw [List.getD_eq_getElem?_getD, List.getElem?_eq_getElem hlt]; exact List.getElem_mem hlt)
    have hS₁ : HasSet b m mv o h₁ S A := by
      obtain ⟨T, ep, ho⟩ := hS
      exact ⟨T, ep, hk₁ _ _ hSw ho⟩
    show wpAny _ A₀.in1 (holding [Value.int (cs.getD i 0 : Nat) t] (setAdd S (.int (cs.getD i 0 : Nat) t)) >>= _) _ _ _
    refine wpAny_bind (wpAny_holding (set_setAdd (s := { s with heap := h₁, toks := tk₁ }) hA hm hc hS₁ fun h₂ tk₂ hs₂ hS₂ => ?_))
    refine wpAny_pure ⟨plainId_quiet PyProof.Rows.F.plain_set_update_loop _, ih (i + 1) _ _ (by omega) hlt (ins_sub _ _) (W.frame _ _ _ hst₁ fun a ha x e => ?_) hS₂ fun h₃ tk₃ hk₃ hS₃ => ?_⟩
    · rw [hs₂.2 a (fun h : a = S => hSf (h ▸ ha))]; exact e
    · refine hR h₃ tk₃ (fun a x ha hw e => hk₃ a x ha hw ?_) ?_
      · rw [hs₂.2 a ha]; exact hk₁ a x hw e
      · have e : cs.drop i = cs.getD i 0 :: cs.drop (i + 1) := by
          rw [List.drop_eq_getElem_cons hlt]
          congr 1
          simp [List.getD, hlt]
        rw [e]
        exact hS₃
end
end
section
section
variable {prog : Program} {w : World} {A₀ : Around} {s : Shared} {E : Value → Shared → Prop} {S : Addr} {b : Bool} {o : Obj}
/-- what the reads of the class's name come to -/
structure Named (M : Model) (h : Heap) (S : Addr) : Prop where
  inst : Looks M h (isInstance (.ref S) (.type "set")) true
  tp : ∃ tp, Looks M h (typeOf (.ref S)) tp ∧ ∃ x, Looks M h (typeNameWhole tp) x
  cut : ∃ x, Looks M h (typeNameOfCut 200 (.ref S)) x
theorem check_set_init {it : Value} {Q : Unit → Shared → Prop} (N : Named (model prog w) s.heap S) (hQ : Q () s) : wpAny (model prog w) A₀ (checkBuiltinCall "set.__init__" ⟨[.ref S, it], []⟩) Q E s := by
  obtain ⟨hi, ⟨tp, L1, x, L2⟩, _⟩ := N
  simp only [checkBuiltinCall, PySem.kind_set_init, PySem.split_set_init, PySem.sig_set_init]
  refine wpAny_bind (hi.here ?_)
  simp only [Bool.not_true, Bool.false_eq_true, if_false]
  unfold Bind.checkArgs
  dsimp only
  refine wpAny_bind (m := Bind.printed "set" true _ _) (printed_name (by decide) ?_)
  refine wpAny_bind (m := Bind.printed "*" false _ _) ?_
  unfold Bind.printed Bind.receiverType
  rw [if_neg (by decide)]
  refine wpAny_bind (m := (if (Manifest.Receiver.self == Manifest.Receiver.cls) = true then pure (Value.ref S) else typeOf (Value.ref S))) ?_
  rw [if_neg (by decide)]
  refine L1.here (wpAny_bind (L2.here (wpAny_pure ?_)))
  have hrn : (Manifest.Receiver.self == Manifest.Receiver.none) = false := by decide
  have hn : (if (Manifest.Receiver.self == Manifest.Receiver.none) = true then [Value.ref S, it].length else [Value.ref S, it].length - 1) = 1 := by simp [hrn]
  rw [hn]
  simp only [List.map_nil]
  have hk1 : (Manifest.ParamKind.posOnly == Manifest.ParamKind.posOnly) = true := by decide
  have hk2 : (Manifest.ParamKind.posOnly == Manifest.ParamKind.posOrKw) = false := by decide
  have hk3 : (Manifest.ParamKind.posOnly == Manifest.ParamKind.varPos) = false := by decide
  have hc : ∀ short, Bind.check ⟨.positional, "set", "*", .self, [⟨"iterable", .posOnly, false⟩]⟩ "set" short 1 [] = pure () := by
    intro short
    simp [Bind.check, Bind.checkCount, Bind.isPositional, hk1, hk2, hk3]
  rw [hc]
  exact wpAny_pure hQ
end
section
variable {prog : Program} {w : World} {A₀ : Around} {s : Shared} {E : Value → Shared → Prop} {S : Addr} {o : Obj}
theorem set_notUsed {m mv : Nat} {b : Bool} {Q : Bool → Shared → Prop} (hm : MM m mv) (hS : HasSet b m mv o s.heap S []) (h : Q false s) : wpAny (model prog w) A₀ (setUsed S) Q E s := by
  obtain ⟨T, ep, ho⟩ := hS
  unfold setUsed
  exact wpAny_bind (wpAny_setState_of ho rfl (tab_fits (by decide) hm) (wpAny_pure h))
/-- set.__init__ upon a list of small ints -/
theorem init_list_code {l : Addr} {items : Array Value} {cs : List Nat} {R : Result → Shared → Prop} (N : Named (model prog w) s.heap S) (hA : Room A₀ 4) (hl : s.heap.IsList l items) (hi : IntsAre items.toList (cs.map fun (c : Nat) => (c : Int))) (hcs : ∀ c ∈ cs, c < 4)
    (hS : HasSet (byText w) 7 0 o s.heap S [])
    (h : ∀ h' tk, (∀ a x, a ≠ S → s.heap.get? a = some x → h'.get? a = some x) → HasSet (byText w) 7 0 o h' S (insAll cs []) → R (.ok (.ret .none)) { s with heap := h', toks := tk }) :
    codeAny (model prog w) A₀ (.builtin "set.__init__" ⟨[.ref S, .ref l], []⟩) R s := by
  refine codeAny_builtin PySem.F.entry_set_init ?_
  rw [Around.under_plainId PySem.F.called_set.init.plain _]
  obtain ⟨_, _, x, Lc⟩ := N
  unfold Builtin.«set.__init__»
  refine wpAny_bind (wpAny_pure ?_)
  dsimp only
  refine wpAny_bind (Lc.here (wpAny_bind (wpAny_pure (wpAny_bind (wpAny_pure ?_)))))
  refine wpAny_bind (set_notUsed (.inl ⟨rfl, rfl⟩) hS ?_)
  simp only [Bool.false_eq_true, if_false]
  refine wpAny_bind ?_
  unfold Builtin.Frozenset.updateFrom Builtin.Frozenset.isAnySet
  have L1 : Looks (model prog w) s.heap (isInstance (.ref l) (.type "set")) false := by
    obtain ⟨ol, hol, hc, _⟩ := hl
    exact (hc ▸ (Looks.ld hol).andThen .now : Looks (model prog w) s.heap (typeOf (.ref l)) (.type "list")).andThen (Looks.of_pure PySem.F.sub_list_set)
  have L2 : Looks (model prog w) s.heap (isInstance (.ref l) (.type "frozenset")) false := by
    obtain ⟨ol, hol, hc, _⟩ := hl
    exact (hc ▸ (Looks.ld hol).andThen .now : Looks (model prog w) s.heap (typeOf (.ref l)) (.type "list")).andThen (Looks.of_pure PySem.F.sub_list_frozenset)
  have L3 : Looks (model prog w) s.heap (typeOf (.ref l)) (.type "list") := by
    obtain ⟨ol, hol, hc, _⟩ := hl
    exact (hc ▸ (Looks.ld hol).andThen .now : Looks (model prog w) s.heap (typeOf (.ref l)) (.type "list"))
  refine wpAny_bind (wpAny_bind (m := isInstance (.ref l) (.type "set")) (L1.here ?_))
  simp only [Bool.false_eq_true, if_false]
  refine L2.here ?_
  simp only [Bool.false_eq_true, if_false]
  refine wpAny_bind (L3.here ?_)
  rw [if_neg (by decide)]
  refine wpAny_bind (wpAny_pyIter_list hl ?_)
  refine wpAny_bind (wpAny_runValue ?_)
  obtain ⟨T, ep, ho⟩ := hS
  have hlS : l ≠ S := by
    rintro rfl
    obtain ⟨ol, hol, _, n, hd⟩ := hl
    rw [ho] at hol
    cases hol
    cases hd
  have hls : l < s.heap.objs.size := by obtain ⟨ol, hol, _⟩ := hl; exact Heap.lt_size hol
  have hSs : S < s.heap.objs.size := Heap.lt_size ho
  have hlen : items.size = cs.length := by
    have := hi.length
    simpa using this
  have W := Walks.list (prog := prog) (w := w) (A := A₀.in1.in1) (Room.handled (n := 0) (by walk_at "my room")) s.heap.objs.size l (Nat.ne_of_lt hls) items
  rw [hlen] at W
  refine update_loop (A₀ := A₀.in1) (.inl ⟨rfl, rfl⟩) o cs hcs W ?_ ?_ cs.length 0 _ [] (by omega) (Nat.zero_le _) (by decide) ⟨⟨_, Heap.get?_push_size _ rfl, rfl, rfl⟩, hl.push _⟩ ⟨T, ep, Heap.get?_push_of_some _ ho⟩ ?_
  · simp only [List.mem_cons, List.not_mem_nil, or_false, not_or]
    exact ⟨Nat.ne_of_lt hSs, Ne.symm hlS⟩
  · intro i v hv
    have hv' : items.toList[i]? = some v := by rw [Array.getElem?_toList]; exact hv
    obtain ⟨t, e⟩ := IntsAre.int_at hi i v hv'
    refine ⟨t, ?_⟩
    rw [e]
    congr 1
    simp only [List.getD_eq_getElem?_getD, List.getElem?_map]
    cases cs[i]? <;> rfl
  · intro h' tk hk hS'
    dsimp only
    refine wpAny_pure (wpAny_pure ?_)
    exact h h' tk (fun a x ha e => hk a x ha (by simp only [List.mem_singleton]; exact Nat.ne_of_lt (Heap.lt_size e)) (Heap.get?_push_of_some _ e)) hS'
theorem init_list {l : Addr} {items : Array Value} {cs : List Nat} {Q : Value → Shared → Prop} (N : Named (model prog w) s.heap S) (hA : Room A₀ 4) (hl : s.heap.IsList l items) (hi : IntsAre items.toList (cs.map fun (c : Nat) => (c : Int))) (hcs : ∀ c ∈ cs, c < 4)
    (hS : HasSet (byText w) 7 0 o s.heap S [])
    (h : ∀ h' tk, (∀ a x, a ≠ S → s.heap.get? a = some x → h'.get? a = some x) → HasSet (byText w) 7 0 o h' S (insAll cs []) → Q .none { s with heap := h', toks := tk }) :
    wpAny (model prog w) A₀ (call (.builtin "set.__init__") [.ref S, .ref l]) Q E s :=
  wpAny_call (codeAny_call_builtin_code (plainId_quiet PySem.F.called_set.init.plain _) (check_set_init N (init_list_code N hA hl hi hcs hS h)))
end
end
section
section
variable {prog : Program} {w : World} {A₀ : Around} {s : Shared} {E : Value → Shared → Prop} {S O : Addr} {o oo : Obj}
theorem small_room {A : List Nat} (hA : A ∈ subs) (b : Bool) : (tab b 7 0 []).roomFor (ents A (fun _ => 0)).size = none := by
  have : ∀ A ∈ subs, ∀ b ∈ [true, false], (tab b 7 0 []).roomFor A.length = none := by decide
  have h := this A hA b (by cases b <;> simp)
  simpa [ents] using h
/-- set.__init__ upon a set of small ints -/
theorem init_set_code {A : List Nat} {R : Result → Shared → Prop} (N : Named (model prog w) s.heap S) (hO : Looks (model prog w) s.heap (isInstance (.ref O) (.type "set")) true) (hA : A ∈ subs) (hSO : S ≠ O) (hOs : HasSet (byText w) 7 0 oo s.heap O A)
    (hS : HasSet (byText w) 7 0 o s.heap S [])
    (h : ∀ h', Heap.SameBut S s.heap h' → HasSet (byText w) 7 0 o h' S A → R (.ok (.ret .none)) { s with heap := h' }) :
    codeAny (model prog w) A₀ (.builtin "set.__init__" ⟨[.ref S, .ref O], []⟩) R s := by
  refine codeAny_builtin PySem.F.entry_set_init ?_
  rw [Around.under_plainId PySem.F.called_set.init.plain _]
  obtain ⟨_, _, x, Lc⟩ := N
  unfold Builtin.«set.__init__»
  refine wpAny_bind (wpAny_pure ?_)
  dsimp only
  refine wpAny_bind (Lc.here (wpAny_bind (wpAny_pure (wpAny_bind (wpAny_pure ?_)))))
  refine wpAny_bind (set_notUsed (.inl ⟨rfl, rfl⟩) hS ?_)
  simp only [Bool.false_eq_true, if_false]
  refine wpAny_bind ?_
  unfold Builtin.Frozenset.updateFrom Builtin.Frozenset.isAnySet
  refine wpAny_bind (wpAny_bind (m := isInstance (.ref O) (.type "set")) (hO.here ?_))
  simp only [if_true]
  refine wpAny_pure ?_
  simp only [if_true]
  refine wpAny_bind (wpAny_pure ?_)
  unfold Builtin.Frozenset.merge
  obtain ⟨TO, epO, hoO⟩ := hOs
  obtain ⟨T, ep, ho⟩ := hS
  have hfO := tab_fits (b := byText w) (T := TO) hA (.inl ⟨rfl, rfl⟩ : MM 7 0)
  have hfS := tab_fits (b := byText w) (A := []) (T := T) (by decide) (.inl ⟨rfl, rfl⟩ : MM 7 0)
  refine wpAny_bind (wpAny_setEpoch_of hoO rfl hfO ?_)
  unfold setMerge
  rw [show (S == O) = false from by simpa using hSO]
  simp only [Bool.false_eq_true, if_false]
  refine wpAny_bind (wpAny_setState_of hoO rfl hfO ?_)
  dsimp only
  by_cases hn : A = []
  · subst hn
    rw [if_pos (by rfl)]
    refine wpAny_pure (wpAny_pure ?_)
    exact h s.heap (Heap.SameBut.refl ..) ⟨T, ep, ho⟩
  · rw [if_neg (by
      cases A with
      | nil => exact absurd rfl hn
      | cons c r => simp [ents, Array.isEmpty])]
    have hr := small_room hA (byText w)
    have hz : (ents A TO).size = (ents A (fun _ => 0)).size := by simp [ents]
    unfold setRoomFor
    refine wpAny_bind (wpAny_bind (wpAny_setState_of ho rfl hfS ?_))
    dsimp only
    rw [hz, hr]
    refine wpAny_pure ?_
    refine wpAny_bind (wpAny_setState_of ho rfl hfS ?_)
    dsimp only
    rw [show (tab (byText w) 7 0 []).road (tab (byText w) 7 0 A) = .slotForSlot from rfl]
    dsimp only
    have hs : (ents A TO).size ≤ sizeLine := by
      have := sub_len hA
      simp only [ents, List.size_toArray, List.length_map]
      rw [sizeLine_eq]; omega
    refine wpAny_storeSet_of ho rfl ?_ hs
    refine wpAny_pure ?_
    have e := putSet_of (o := { o with data := Data.set (ents [] T) ep (tab (byText w) 7 0 []) }) (ents A TO) (tab (byText w) 7 0 A) rfl
    refine h _ (Heap.SameBut.update ..) ⟨TO, ep + 1, ?_⟩
    rw [Heap.get?_update_self _ ho rfl]
    show some (Obj.putSet (ents A TO) ⟨7, A.toArray, #[], 0, (!byText w && !byText w), 0, true⟩ _) = _
    rw [Bool.and_self]
    exact congrArg some e
end
end
section
section
variable {prog : Program} {w : World} {A₀ : Around} {s : Shared} {E : Value → Shared → Prop} {a : Addr} {o : Obj} {A : List Nat} {m mv : Nat}
theorem kind_set_len : builtinKind "set.__len__" = some .slot := by decide +kernel
theorem split_set_len : splitId "set.__len__" = some ("set", "__len__") := by decide +kernel
theorem len_set {Q : Value → Shared → Prop} (S : IsSet (model prog w) s.heap a) (hA : A ∈ subs) (hm : MM m mv) (hS : HasSet (byText w) m mv o s.heap a A)
    (h : ∀ t t', Q (.int A.length t) { s with toks := t' }) : wpAny (model prog w) A₀ (call (.builtin "len") [.ref a]) Q E s := by
  obtain ⟨T, ep, ho⟩ := hS
  have hf := tab_fits (b := byText w) (T := T) hA hm
  have hsz : (ents A T).size = A.length := by simp [ents]
  have h4 := sub_len hA
  have L2 : Looks (model prog w) s.heap (bindSpecial (.builtin "set.__len__") (.ref a)) (.builtin "set.__len__", [.ref a]) := Looks.of_pure (PySem.F.slot_set_len.bind _)
  refine Calls.call_function_entry kind_len plain_len entry_len (args_len1 _) ?_
  unfold Builtin.«len»
  refine wpAny_bind (m := oneArg "len" _) (wpAny_pure ?_)
  refine wpAny_bind (m := callSpecial? (.ref a) (Str.ofString "__len__")) ?_
  unfold callSpecial?
  refine wpAny_bind (S.len.here ?_)
  dsimp only
  refine wpAny_holding (wpAny_bind (L2.here (wpAny_bind ?_)))
  refine wpAny_call (codeAny_call_builtin PySem.F.slot_set_len.plain entry_set_len (@check_slot (model prog w) _ _ s "set.__len__" "set" "__len__" (.ref a) [] [] _ kind_set_len split_set_len S.inst (PySem.F.args_set_len_1 _) ?_))
  unfold Builtin.«frozenset.__len__»
  refine wpAny_bind (wpAny_pure ?_)
  refine wpAny_bind (wpAny_bind (wpAny_bind (wpAny_setState_of ho rfl hf (wpAny_pure (wpAny_pure ?_)))))
  rw [hsz]
  refine wpAny_bind (wpAny_mkInt (wpAny_pure ?_))
  refine wpAny_pure ?_
  dsimp only
  refine wpAny_bind (wpAny_holding (wpAny_pure ?_))
  refine wpAny_bind (wpAny_letGo ?_)
  show wpAny _ _ (if ((A.length : Nat) : Int) < 0 then _ else _) _ _ _
  rw [if_neg (by omega)]
  show wpAny _ _ (if ((A.length : Nat) : Int) ≥ 2 ^ 63 then _ else _) _ _ _
  rw [if_neg (by omega)]
  exact wpAny_bind (wpAny_mkInt (wpAny_pure ⟨_, rfl, h _ _⟩))
end
end
section
section
variable {prog : Program} {w : World} {A₀ : Around} {s : Shared} {E : Value → Shared → Prop} {a O : Addr} {oa oo : Obj} {A B : List Nat} {m mv m' mv' : Nat}
/-- the object that newSet makes -/
abbrev plainSet (d : Data) : Obj := { cls := .type "set", data := d }
abbrev plainO : Obj := { cls := .type "set", data := .plain }
theorem new_set {Q : Value → Shared → Prop} (h : Q (.ref s.heap.objs.size) { s with heap := s.heap.push { plainO with data := .set (ents [] fun _ => 0) 0 (tab (byText w) 7 0 []) } }) : wpAny (model prog w) A₀ (newSet (.type "set")) Q E s := by
  unfold newSet
  refine wpAny_bind (set_byText ?_)
  dsimp only
  exact wpAny_newObj_type h
theorem base_of {Q : Value → Shared → Prop} (S : IsSet (model prog w) s.heap a) (h : Q (.type "set") s) : wpAny (model prog w) A₀ (Builtin.Frozenset.baseOf a) Q E s := by
  unfold Builtin.Frozenset.baseOf
  refine wpAny_bind (S.inst.here ?_)
  exact wpAny_pure h
theorem walk_unseen {b : Bool} {T : Nat → Tok} {ep : Nat} {o : Obj} {others : List Addr} {f : Option Addr} {Q : Array (Int × Value) → Shared → Prop} (hA : A ∈ subs) (hm : MM m mv) (ho : s.heap.get? a = some o) (hd : o.data = .set (ents A T) ep (tab (byText w) m mv A))
    (h : ∀ es : Array (Int × Value), es.toList.map (·.2) = ordOf w a ep A T → es.toList.Perm (ents A T).toList → Q es s) : wpAny (model prog w) A₀ (setWalkUnseen a others f) Q E s := by
  unfold setWalkUnseen
  refine wpAny_bind (wpAny_setState_of ho hd (tab_fits hA hm) ?_)
  dsimp only
  refine wpAny_bind (set_byText ?_)
  rw [if_pos (by
    show (byText w || (!byText w && true) || _) = true
    cases byText w <;> simp)]
  exact set_walk hA hm ho hd h
theorem forIn_list {α : Type} {M : Model} {A : Around} {E : Value → Shared → Prop} {f : α → PUnit → Sem (ForInStep PUnit)} {Q : PUnit → Shared → Prop} (J : List α → Shared → Prop)
    (step : ∀ x r s, J (x :: r) s → wpAny M A (f x ⟨⟩) (fun st s' => st = .yield ⟨⟩ ∧ J r s') E s) (done : ∀ s, J [] s → Q ⟨⟩ s) : ∀ (l : List α) (s : Shared), J l s → wpAny M A (forIn l PUnit.unit f) Q E s
  | [], s, h => by
    rw [List.forIn_nil]
    exact wpAny_pure (done s h)
  | x :: r, s, h => by
    rw [List.forIn_cons]
    refine wpAny_bind (wpAny_mono (step x r s h) (fun st s' hs => ?_) fun _ _ e => e)
    obtain ⟨rfl, hJ⟩ := hs
    exact forIn_list J step done r s' hJ
theorem ents_perm {A : List Nat} {T : Nat → Tok} {l : List (Int × Value)} (h : l.Perm (ents A T).toList) : ∃ cs : List Nat, cs.Perm A ∧ l = cs.map fun (c : Nat) => ((c : Int), Value.int (c : Int) (T c)) := by
  refine ⟨l.map fun e => e.1.toNat, ?_, ?_⟩
  · refine (h.map _).trans ?_
    simp only [ents, List.map_map]
    rw [show (List.map ((fun e : Int × Value => e.1.toNat) ∘ fun (c : Nat) => ((c : Int), Value.int (c : Int) (T c))) A) = A.map id from List.map_congr_left fun c _ => by simp, List.map_id]
  · rw [List.map_map]
    symm
    refine (List.map_congr_left (g := id) fun e he => ?_).trans (List.map_id _)
    have := h.mem_iff.mp he
    simp only [ents, List.mem_map] at this
    obtain ⟨c, _, rfl⟩ := this
    simp
theorem inter_loop {id : String} {asked walked r : Addr} {Aa Aw : List Nat} {ma va mw vw : Nat} {oq ow : Obj} {Tw : Nat → Tok} {epw : Nat} {cs : List Nat} {Q : PUnit → Shared → Prop} {h₁ : Heap} {f : Int × Value → PUnit → Sem (ForInStep PUnit)}
    (hf : f = fun x _ => (do
      holding [x.snd] (do
        if (← setFind asked x.snd x.fst).isSome = true then
          let _ ← setAddHashed r x.snd x.fst)
      Builtin.Frozenset.unchanged id walked epw
      pure (ForInStep.yield PUnit.unit)))
    (hA : Aa ∈ subs) (hW : Aw ∈ subs) (hma : MM ma va) (hmw : MM mw vw) (hra : r ≠ asked) (hrw : r ≠ walked) (hn : ∀ b o, h₁.get? b = some o → b ≠ r)
    (ha : HasSet (byText w) ma va oq h₁ asked Aa) (hw : h₁.get? walked = some { ow with data := .set (ents Aw Tw) epw (tab (byText w) mw vw Aw) }) (hcs : ∀ c ∈ cs, c < 4)
    (k0 : ∀ b o, h₁.get? b = some o → s.heap.get? b = some o) (hr : HasSet (byText w) 7 0 plainO s.heap r [])
    (h : ∀ h' C, (∀ b o, h₁.get? b = some o → h'.get? b = some o) → HasSet (byText w) 7 0 plainO h' r C → C ∈ subs → (∀ x, x ∈ C ↔ x ∈ Aa ∧ x ∈ cs) → Q ⟨⟩ { s with heap := h' }) :
    wpAny (model prog w) A₀ (forIn (cs.map fun (c : Nat) => ((c : Int), Value.int (c : Int) (Tw c))) PUnit.unit f) Q E s := by
  subst hf
  refine forIn_list (fun rem s' => ∃ cr C h', rem = cr.map (fun (c : Nat) => ((c : Int), Value.int (c : Int) (Tw c))) ∧ s' = { s with heap := h' } ∧ (∀ b o, h₁.get? b = some o → h'.get? b = some o) ∧ HasSet (byText w) 7 0 plainO h' r C ∧ C ∈ subs ∧ (∀ c ∈ cr, c < 4) ∧ ∀ x, (x ∈ C ∨ (x ∈ Aa ∧ x ∈ cr)) ↔ x ∈ Aa ∧ x ∈ cs) ?_ ?_ _ s
    ⟨cs, [], s.heap, rfl, rfl, k0, hr, by decide, hcs, fun x => by simp⟩
  · rintro x rem s' ⟨cr, C, h', e, rfl, k, ⟨T, ep, hC⟩, hCs, hcr, hx⟩
    cases cr with
    | nil => cases e
    | cons c cr =>
      rw [List.map_cons, List.cons.injEq] at e
      obtain ⟨rfl, rfl⟩ := e
      have hc := hcr c (.head _)
      obtain ⟨Ta, epa, hoa⟩ := ha
      have un : ∀ h'' , h''.get? walked = some { ow with data := .set (ents Aw Tw) epw (tab (byText w) mw vw Aw) } → ∀ Q' : ForInStep PUnit → Shared → Prop, Q' (.yield ⟨⟩) { s with heap := h'' } →
          wpAny (model prog w) A₀ (do Builtin.Frozenset.unchanged id walked epw; pure (ForInStep.yield PUnit.unit)) Q' E { s with heap := h'' } := by
        intro h'' hw'' Q' hq
        refine wpAny_bind ?_
        unfold Builtin.Frozenset.unchanged
        refine wpAny_bind (wpAny_setEpoch_of hw'' rfl (tab_fits hW hmw) ?_)
        rw [show (epw != epw) = false from by simp]
        simp only [Bool.false_eq_true, if_false]
        exact wpAny_pure (wpAny_pure hq)
      refine wpAny_bind (wpAny_holding (wpAny_bind (set_find (s := { s with heap := h' }) hA hma hc (k _ _ hoa) rfl fun rr hrr => ?_)))
      cases hin : Aa.contains c with
      | false =>
        rw [hin] at hrr
        rw [hrr]
        simp only [Bool.false_eq_true, if_false]
        refine wpAny_pure (un h' (k _ _ hw) _ ⟨rfl, cr, C, h', rfl, rfl, k, ⟨T, ep, hC⟩, hCs, fun y hy => hcr y (.tail _ hy), fun x => ?_⟩)
        rw [← hx x]
        have hni : c ∉ Aa := fun q => by rw [List.contains_iff_mem.mpr q] at hin; cases hin
        constructor
        · rintro (h1 | ⟨h1, h2⟩)
          · exact .inl h1
          · exact .inr ⟨h1, .tail _ h2⟩
        · rintro (h1 | ⟨h1, h2⟩)
          · exact .inl h1
          · rcases List.mem_cons.mp h2 with rfl | h2
            · exact absurd h1 hni
            · exact .inr ⟨h1, h2⟩
      | true =>
        rw [hin] at hrr
        rw [hrr]
        simp only [if_true]
        have hci : c ∈ Aa := List.contains_iff_mem.mp hin
        refine wpAny_bind (set_add (s := { s with heap := h' }) hCs (.inl ⟨rfl, rfl⟩) hc hC rfl fun h'' T' ep' hs hg => wpAny_pure ?_)
        have k2 : ∀ b o, h₁.get? b = some o → h''.get? b = some o := fun b o e => (hs.2 b (hn b o e)).trans (k b o e)
        refine un h'' (k2 _ _ hw) _ ⟨rfl, cr, ins c C, h'', rfl, rfl, k2, ⟨T', ep', hg⟩, ins_sub _ _, fun y hy => hcr y (.tail _ hy), fun x => ?_⟩
        rw [← hx x, mem_ins]
        constructor
        · rintro (⟨h0, h1⟩ | ⟨h1, h2⟩)
          · rcases h1 with rfl | h1
            · exact .inr ⟨hci, .head _⟩
            · exact .inl h1
          · exact .inr ⟨h1, .tail _ h2⟩
        · rintro (h1 | ⟨h1, h2⟩)
          · exact .inl ⟨sub_lt hCs h1, .inr h1⟩
          · rcases List.mem_cons.mp h2 with rfl | h2
            · exact .inl ⟨hc, .inl rfl⟩
            · exact .inr ⟨h1, h2⟩
  · rintro s' ⟨cr, C, h', e, rfl, k, hC, hCs, hcr, hx⟩
    cases cr with
    | cons c cr => cases e
    | nil => exact h h' C k hC hCs fun x => by rw [← hx x]; simp
theorem inter_set {id : String} {Q : Value → Shared → Prop} (Sa : IsSet (model prog w) s.heap a) (SO : IsSet (model prog w) s.heap O) (hA : A ∈ subs) (hB : B ∈ subs) (hm : MM m mv) (hm' : MM m' mv') (hne : O ≠ a)
    (ha : HasSet (byText w) m mv oa s.heap a A) (hO : HasSet (byText w) m' mv' oo s.heap O B)
    (h : ∀ r h' C, (∀ b o, s.heap.get? b = some o → h'.get? b = some o) → s.heap.get? r = none → HasSet (byText w) 7 0 plainO h' r C → C ∈ subs → (∀ x, x ∈ C ↔ x ∈ A ∧ x ∈ B) → Q (.ref r) { s with heap := h' }) :
    wpAny (model prog w) A₀ (Builtin.Frozenset.intersection id a (.ref O)) Q E s := by
  obtain ⟨TA, epA, hoa⟩ := ha
  obtain ⟨TB, epB, hoO⟩ := hO
  have hfa := tab_fits (b := byText w) (T := TA) hA hm
  have hfO := tab_fits (b := byText w) (T := TB) hB hm'
  unfold Builtin.Frozenset.intersection
  rw [show (Value.ref O == Value.ref a) = false from by simpa using hne]
  simp only [Bool.false_eq_true, if_false]
  refine wpAny_bind (base_of Sa (wpAny_bind (new_set ?_)))
  refine wpAny_bind (wpAny_pure ?_)
  have k1 : ∀ b o, s.heap.get? b = some o → (s.heap.push { plainO with data := .set (ents [] fun _ => 0) 0 (tab (byText w) 7 0 []) }).get? b = some o := fun b o e => Heap.get?_push_of_some _ e
  have hr : (s.heap.push { plainO with data := .set (ents [] fun _ => 0) 0 (tab (byText w) 7 0 []) }).get? s.heap.objs.size = some { plainO with data := .set (ents [] fun _ => 0) 0 (tab (byText w) 7 0 []) } := Heap.get?_push_size _ rfl
  refine wpAny_bind (wpAny_holding ?_)
  unfold Builtin.Frozenset.isAnySet
  refine wpAny_bind (wpAny_bind (m := isInstance (.ref O) (.type "set")) ((SO.inst.keeps k1).here ?_))
  simp only [if_true]
  refine wpAny_pure ?_
  simp only [if_true]
  refine wpAny_bind (wpAny_pure ?_)
  unfold Builtin.Frozenset.sizeOf
  refine wpAny_bind (wpAny_bind (wpAny_bind (wpAny_setState_of (k1 _ _ hoO) rfl hfO (wpAny_pure (wpAny_pure ?_)))))
  refine wpAny_bind (wpAny_bind (wpAny_bind (wpAny_setState_of (k1 _ _ hoa) rfl hfa (wpAny_pure (wpAny_pure ?_)))))
  have hra : s.heap.objs.size ≠ a := Ne.symm (Nat.ne_of_lt (Heap.lt_size hoa))
  have hrO : s.heap.objs.size ≠ O := Ne.symm (Nat.ne_of_lt (Heap.lt_size hoO))
  have hnone : s.heap.get? s.heap.objs.size = none := by
    cases q : s.heap.get? s.heap.objs.size with
    | none => rfl
    | some o => exact absurd (Heap.lt_size q) (Nat.lt_irrefl _)
  dsimp only
  by_cases q : (ents B TB).size > (ents A TA).size
  · rw [if_pos q]
    dsimp only
    refine wpAny_bind (wpAny_setEpoch_of (k1 _ _ hoa) rfl hfa ?_)
    refine wpAny_bind (walk_unseen (b := byText w) hA hm (k1 _ _ hoa) rfl fun es h1 h2 => ?_)
    rw [← Array.forIn_toList]
    obtain ⟨cs, p, he⟩ := ents_perm h2
    rw [he]
    refine wpAny_bind (inter_loop (h₁ := s.heap) rfl hB hA hm' hm hrO hra (fun b o e => Nat.ne_of_lt (Heap.lt_size e)) ⟨TB, epB, hoO⟩ hoa (fun c hc => sub_lt hA (p.mem_iff.mp hc)) k1 ⟨_, _, hr⟩ fun h' C k hC hCs hx => wpAny_pure (wpAny_pure ?_))
    exact h _ h' C k hnone hC hCs fun x => by rw [hx x, p.mem_iff]; exact And.comm
  · rw [if_neg q]
    dsimp only
    refine wpAny_bind (wpAny_setEpoch_of (k1 _ _ hoO) rfl hfO ?_)
    refine wpAny_bind (walk_unseen (b := byText w) hB hm' (k1 _ _ hoO) rfl fun es h1 h2 => ?_)
    rw [← Array.forIn_toList]
    obtain ⟨cs, p, he⟩ := ents_perm h2
    rw [he]
    refine wpAny_bind (inter_loop (h₁ := s.heap) rfl hA hB hm hm' hra hrO (fun b o e => Nat.ne_of_lt (Heap.lt_size e)) ⟨TA, epA, hoa⟩ hoO (fun c hc => sub_lt hB (p.mem_iff.mp hc)) k1 ⟨_, _, hr⟩ fun h' C k hC hCs hx => wpAny_pure (wpAny_pure ?_))
    exact h _ h' C k hnone hC hCs fun x => by rw [hx x, p.mem_iff]
end
end
section
section
variable {prog : Program} {w : World} {A₀ : Around} {s : Shared} {E : Value → Shared → Prop} {nm : String} {a b ta tb r : Value} {h : Heap} {g : Array GenState} {d : Drawn} {t : Nat} {os : OsState}
theorem op1_sub {Q : Option Value → Shared → Prop} (L1 : Looks (model prog w) h (typeOf a) ta) (L2 : Looks (model prog w) h (typeOf b) tb) (L3 : Looks (model prog w) h (fillsNumberSlot ta nm) true) (hne : (ta == tb) = false)
    (L4 : Looks (model prog w) h (fillsNumberSlot tb nm) true) (L5 : Looks (model prog w) h (isSubtype tb ta) true) (L6 : Looks (model prog w) h (numberSlotInPython ta nm) false)
    (L7 : Looks (model prog w) h (typeLookup tb (dunderR nm)) (some r)) (L8 : Looks (model prog w) h (typeLookup ta (dunderR nm)) (some r)) (hr : (some r != some r) = false)
    (one : wpAny (model prog w) A₀ (tryMethod a (PySem.dunder nm) b) (fun r s' => (∃ v, r = some v) ∧ Q r s') E ⟨h, g, d, t, os⟩) : wpAny (model prog w) A₀ (binaryOp1 nm a b) Q E ⟨h, g, d, t, os⟩ := by
  have L9 : Looks (model prog w) h (reflectedDiffers ta tb nm) false := by
    unfold reflectedDiffers
    refine L6.andThen ?_
    simp only [Bool.not_false, if_true]
    refine L7.andThen (L8.andThen ?_)
    rw [hr, Bool.and_false]
    exact .now
  unfold binaryOp1
  refine wpAny_bind (L1.at (wpAny_bind (L2.at (wpAny_bind (L3.at ?_)))))
  simp only [hne, Bool.false_eq_true, if_false]
  repeat ((fail_if_success (with_reducible show wpAny _ _ (tryMethod _ _ _) _ _ _)); lk)
  refine wpAny_mono one (fun r s' hr => ?_) fun _ _ e => e
  obtain ⟨⟨v, rfl⟩, hq⟩ := hr
  repeat lk
  exact hq
end
section
variable {prog : Program} {w : World} {A₀ : Around} {s : Shared} {E : Value → Shared → Prop} {a O : Addr} {oa oo : Obj} {A B : List Nat} {m mv m' mv' : Nat} {K : Frag}
theorem entry_set_and : entryFor table "set.__and__" = some Builtin.«frozenset.__and__» := entryFor_alias (id' := "frozenset.__and__") ((fastTable_eq_tree _).trans (by kernel_rfl)) rfl (by decide +kernel) ((fastTable_eq_tree _).trans (by kernel_rfl))
theorem kind_set_and : builtinKind "set.__and__" = some .slot := by decide +kernel
theorem split_set_and : splitId "set.__and__" = some ("set", "__and__") := by decide +kernel
theorem type_at {M : Model} {h : Heap} {a : Addr} {o : Obj} {c : Value} (ho : h.get? a = some o) (hc : o.cls = c) : Looks M h (typeOf (.ref a)) c := hc ▸ (Looks.ld ho).andThen .now
/-- the own class of sets, as the text lays it -/
structure OwnSet (K : Frag) : Prop where
  iter : findIn K (.ref 75) "__iter__" = some (some (.builtin "set.__iter__"))
  len : findIn K (.ref 75) "__len__" = some (some (.builtin "set.__len__"))
  sub : subIn K (.ref 75) (.type "set") = some true
  and_ : findIn K (.ref 75) (PySem.dunder "and") = some (some (.builtin "set.__and__"))
  rand : findIn K (.ref 75) (dunderR "and") = some (some (.builtin "set.__rand__"))
  mro : ∃ cd, clsIn K 75 = some cd ∧ cd.mro = [.ref 75, .type "set", .type "object"]
theorem fills_own {M : Model} {h : Heap} (X : K.In h) (W : OwnSet K) : Looks M h (fillsNumberSlot (.ref 75) "and") true := by
  obtain ⟨cd, hcd, hm⟩ := W.mro
  have Lm : Looks M h (mroOf (.ref 75)) cd.mro := (looks_clsIn X hcd).andThen (f := fun cd => pure cd.mro) .now
  have L1 : Looks M h (typeLookup (.ref 75) (PySem.dunder "and")) (some (.builtin "set.__and__")) := looks_findIn X W.and_
  have L2 : Looks M h (inheritsSeqSlot (.ref 75) (PySem.dunder "and")) false := by
    unfold inheritsSeqSlot
    refine Lm.andThen ?_
    rw [hm]
    have L3 : Looks M h (typeLookup (.type "set") (PySem.dunder "and")) (some (.builtin "set.__and__")) := Looks.of_pure PySem.F.slot_set_and.lookup
    have L4 : Looks M h (typeLookup (.type "object") (PySem.dunder "and")) none := looks_findIn X (show findIn K (.type "object") (PySem.dunder "and") = some none from (by decide +kernel : fastLookup "object" (PySem.dunder "and") = some none))
    intro A Q E s k q
    rw [List.anyM_cons]
    refine wpAny_bind (wpAny_pure ?_)
    simp only [Bool.false_eq_true, if_false]
    rw [List.anyM_cons]
    refine wpAny_bind (wpAny_bind (L3.keeps k A _ E s (fun _ _ e => e) (wpAny_pure ?_)))
    rw [if_neg (by decide +kernel)]
    rw [List.anyM_cons]
    refine wpAny_bind (wpAny_bind (L4.keeps k A _ E s (fun _ _ e => e) (wpAny_pure ?_)))
    exact wpAny_pure q
  intro A Q E s k q
  unfold fillsNumberSlot
  refine wpAny_bind (Lm.keeps k A _ E s (fun _ _ e => e) ?_)
  rw [hm, List.anyM_cons]
  refine wpAny_bind ?_
  dsimp only
  rw [List.anyM_cons]
  refine wpAny_bind (wpAny_bind (L1.keeps k A _ E s (fun _ _ e => e) ?_))
  dsimp only
  rw [if_neg (by decide +kernel)]
  refine wpAny_bind (L2.keeps k A _ E s (fun _ _ e => e) (wpAny_pure ?_))
  exact wpAny_pure (wpAny_pure q)
theorem set_and {Q : Value → Shared → Prop} (X : K.In s.heap) (W : OwnSet K) (hA : A ∈ subs) (hB : B ∈ subs) (hm : MM m mv) (hm' : MM m' mv') (hca : oa.cls = .type "set") (hcO : oo.cls = .ref 75)
    (ha : HasSet (byText w) m mv oa s.heap a A) (hO : HasSet (byText w) m' mv' oo s.heap O B)
    (h : ∀ r h' C, (∀ b o, s.heap.get? b = some o → h'.get? b = some o) → s.heap.get? r = none → HasSet (byText w) 7 0 plainO h' r C → C ∈ subs → (∀ x, x ∈ C ↔ x ∈ A ∧ x ∈ B) → Q (.ref r) { s with heap := h' }) :
    wpAny (model prog w) A₀ (binaryOp .BitAnd (.ref a) (.ref O)) Q E s := by
  obtain ⟨hh, g, d, t, os⟩ := s
  have ha' := ha
  have hO' := hO
  obtain ⟨TA, epA, hoa⟩ := ha'
  obtain ⟨TB, epB, hoO⟩ := hO'
  have Sa : IsSet (model prog w) hh a := isSet_plain hoa hca
  have SO : IsSet (model prog w) hh O := isSet_own X hoO hcO W.iter W.len W.sub
  have La : Looks (model prog w) hh (typeOf (.ref a)) (.type "set") := type_at hoa hca
  have LO : Looks (model prog w) hh (typeOf (.ref O)) (.ref 75) := type_at hoO hcO
  have hne : O ≠ a := by
    rintro rfl
    rw [hoa] at hoO
    have := congrArg Obj.cls (Option.some.inj hoO)
    rw [show ({ oa with data := Data.set (ents A TA) epA (tab (byText w) m mv A) } : Obj).cls = .type "set" from hca, show ({ oo with data := Data.set (ents B TB) epB (tab (byText w) m' mv' B) } : Obj).cls = .ref 75 from hcO] at this
    cases this
  have L3 : Looks (model prog w) hh (fillsNumberSlot (.type "set") "and") true := Looks.of_pure PySem.F.fills_set_and
  have L6 : Looks (model prog w) hh (numberSlotInPython (.type "set") "and") false := Looks.of_pure rfl
  have L7 : Looks (model prog w) hh (typeLookup (.ref 75) (dunderR "and")) (some (.builtin "set.__rand__")) := looks_findIn X W.rand
  have L8 : Looks (model prog w) hh (typeLookup (.type "set") (dunderR "and")) (some (.builtin "set.__rand__")) := looks_findIn X (show findIn K (.type "set") (dunderR "and") = some (some (.builtin "set.__rand__")) from (by decide +kernel : fastLookup "set" (dunderR "and") = some (some (.builtin "set.__rand__"))))
  have LS : Looks (model prog w) hh (specialOf (.ref a) (PySem.dunder "and")) (some (.builtin "set.__and__")) := La.andThen (Looks.of_pure PySem.F.slot_set_and.lookup)
  have LB : Looks (model prog w) hh (bindSpecial (.builtin "set.__and__") (.ref a)) (.builtin "set.__and__", [.ref a]) := Looks.of_pure (PySem.F.slot_set_and.bind _)
  have body : wpAny (model prog w) A₀ (call (.builtin "set.__and__") [.ref a, .ref O]) (fun v s' => v ≠ .notImplemented ∧ ∃ v', some v = some v' ∧ Q v' s') E ⟨hh, g, d, t, os⟩ := by
    refine wpAny_call (codeAny_call_builtin PySem.F.slot_set_and.plain entry_set_and (@check_slot (model prog w) _ _ ⟨hh, g, d, t, os⟩ "set.__and__" "set" "__and__" (.ref a) [.ref O] [] _ kind_set_and split_set_and Sa.inst (PySem.F.args_set_and_2 _ _) ?_))
    unfold Builtin.«frozenset.__and__»
    k_delta "binary"
    dsimp only
    refine wpAny_bind (wpAny_pure ?_)
    dsimp only
    simp only [Bool.false_eq_true, if_false]
    unfold Builtin.Frozenset.isAnySet
    refine wpAny_bind (wpAny_bind (wpAny_bind (m := isInstance (.ref a) (.type "set")) (Sa.inst.here (wpAny_pure ?_))))
    refine wpAny_bind (m := isInstance (.ref O) (.type "set")) (SO.inst.here (wpAny_pure ?_))
    simp only [Bool.not_true, Bool.false_eq_true, if_false]
    refine wpAny_bind (wpAny_pure (wpAny_bind ?_))
    refine inter_set (s := ⟨hh, g, d, t, os⟩) Sa SO hA hB hm hm' hne ha hO fun r h' C k hn hC hCs hx => wpAny_pure ?_
    exact ⟨ne_of_ref, _, rfl, h r h' C k hn hC hCs hx⟩
  have one := try_special (Q := fun r s' => ∃ v', r = some v' ∧ Q v' s') (tp := .none) LS LB body
  refine bin_of_op1 (sym := "&") (nm := "and") rfl ?_
  exact op1_sub La LO L3 rfl (fills_own X W) (looks_subIn X W.sub) L6 L7 L8 (by decide) one
end
end
section
theorem entry_inter_loop : entryFor table "frozenset.intersection.loop" = some Builtin.«frozenset.intersection.loop» := entryFor_of_tree (by kernel_rfl)
theorem plain_inter_loop : plainId "frozenset.intersection.loop" = true := by decide +kernel
theorem entry_inter : entryFor table "set.intersection" = some Builtin.«frozenset.intersection» := entryFor_alias (id' := "frozenset.intersection") ((fastTable_eq_tree _).trans (by kernel_rfl)) rfl (by decide +kernel) ((fastTable_eq_tree _).trans (by kernel_rfl))
theorem sub_size {A C : List Nat} (hA : A ∈ subs) (hC : C ∈ subs) (h : ∀ x ∈ C, x ∈ A) (hl : A.length ≤ C.length) : C = A := by
  have : ∀ A ∈ subs, ∀ C ∈ subs, (∀ x ∈ C, x ∈ A) → A.length ≤ C.length → C = A := by decide
  exact this A hA C hC h hl
section
variable {prog : Program} {w : World} {A₀ : Around} {s : Shared} {E : Value → Shared → Prop} {a l I r : Addr} {oa : Obj} {A : List Nat} {m mv : Nat} {K : Frag} {fp wr : List Addr} {P : Nat → Value → Prop} {St : Nat → Heap → Prop} {R : Result → Shared → Prop}
theorem inter_list_loop (hA : A ∈ subs) (hm : MM m mv) (cs : List Nat) (hcs : ∀ c ∈ cs, c < 4) (W : Walks prog w A₀.in1 I fp wr cs.length P St) (hrf : r ∉ fp) (haf : a ∉ fp) (hra : r ≠ a) (hP : ∀ i v, P i v → ∃ t, v = .int (cs.getD i 0 : Nat) t) :
    ∀ (k i : Nat) (s : Shared) (C : List Nat), cs.length - i = k → i ≤ cs.length → C ∈ subs → (∀ x ∈ C, x ∈ A ∧ x ∈ cs) → (∀ x ∈ cs.take i, x ∈ A → x ∈ C) → St i s.heap → HasSet (byText w) m mv oa s.heap a A → HasSet (byText w) 7 0 plainO s.heap r C →
      (∀ h' tk C', (∀ b x, b ≠ r → b ∉ wr → s.heap.get? b = some x → h'.get? b = some x) → HasSet (byText w) 7 0 plainO h' r C' → C' ∈ subs → (∀ x, x ∈ C' ↔ x ∈ A ∧ x ∈ cs) → R (.ok (.ret .none)) { s with heap := h', toks := tk }) →
      codeAny (model prog w) A₀ (.builtin "frozenset.intersection.loop" ⟨[.ref a, .ref I, .ref r], []⟩) R s := by
  have hrw : r ∉ wr := fun h => hrf (W.sub _ h)
  have haw : a ∉ wr := fun h => haf (W.sub _ h)
  intro k
  induction k with
  | zero =>
    intro i s C hk hi hC hCA hCi hst ha hr hR
    have hin : i = cs.length := by omega
    subst hin
    refine codeAny_builtin entry_inter_loop ?_
    rw [Around.under_plainId plain_inter_loop _]
    show wpAny _ A₀.in1 (pyNext (.ref I) >>= _) _ _ s
    refine wpAny_bind (W.done s _ _ hst fun h' tk hk' => ?_)
    show wpAny _ A₀.in1 (ret Value.none) _ _ _
    obtain ⟨T, ep, ho⟩ := hr
    rw [List.take_length] at hCi
    exact wpAny_pure (hR h' tk C (fun b x _ hw e => hk' b x hw e) ⟨T, ep, hk' _ _ hrw ho⟩ hC fun x => ⟨hCA x, fun hx => hCi x hx.2 hx.1⟩)
  | succ k ih =>
    intro i s C hk hi hC hCA hCi hst ha hr hR
    have hlt : i < cs.length := by omega
    refine codeAny_builtin entry_inter_loop ?_
    rw [Around.under_plainId plain_inter_loop _]
    show wpAny _ A₀.in1 (pyNext (.ref I) >>= _) _ _ s
    refine wpAny_bind (W.item i s _ _ hlt hst fun v h₁ tk₁ hPv hst₁ hk₁ => ?_)
    obtain ⟨t, rfl⟩ := hP i v hPv
    have hc : cs.getD i 0 < 4 := hcs _ (by rw [List.getD_eq_getElem?_getD, List.getElem?_eq_getElem hlt]; exact List.getElem_mem hlt)
    have hci : cs.getD i 0 ∈ cs := by rw [List.getD_eq_getElem?_getD, List.getElem?_eq_getElem hlt]; exact List.getElem_mem hlt
    have htk : cs.take (i + 1) = cs.take i ++ [cs.getD i 0] := by
      rw [List.take_add_one, List.getElem?_eq_getElem hlt]
      simp [List.getD, hlt]
    generalize cs.getD i 0 = c at hc hci htk
    obtain ⟨TA, epA, hoa⟩ := ha
    obtain ⟨T, ep, ho⟩ := hr
    have hoa₁ := hk₁ _ _ haw hoa
    have ho₁ := hk₁ _ _ hrw ho
    show wpAny _ A₀.in1 (holding [Value.int (c : Nat) t] (pyHash (.int (c : Nat) t)) >>= _) _ _ _
    refine wpAny_bind (wpAny_holding (wpAny_pyHash_int ?_))
    rw [red_hash hc]
    refine wpAny_bind (wpAny_holding (set_find (s := { s with heap := h₁, toks := tk₁ + 1 }) hA hm hc hoa₁ rfl fun rr hrr => ?_))
    have again : ∀ (h₂ : Heap) (tk₂ : Nat) (C₂ : List Nat), (∀ b x, b ≠ r → b ∉ wr → s.heap.get? b = some x → h₂.get? b = some x) → St (i + 1) h₂ → h₂.get? a = some { oa with data := .set (ents A TA) epA (tab (byText w) m mv A) } →
        HasSet (byText w) 7 0 plainO h₂ r C₂ → C₂ ∈ subs → (∀ x ∈ C₂, x ∈ A ∧ x ∈ cs) → (∀ x ∈ cs.take (i + 1), x ∈ A → x ∈ C₂) →
        codeAny (model prog w) A₀ (.builtin "frozenset.intersection.loop" ⟨[.ref a, .ref I, .ref r], []⟩) R { s with heap := h₂, toks := tk₂ } := by
      intro h₂ tk₂ C₂ k2 st2 ha2 hr2 hC2 hx2 hi2
      exact ih (i + 1) _ C₂ (by omega) hlt hC2 hx2 hi2 st2 ⟨TA, epA, ha2⟩ hr2 fun h₃ tk₃ C' k3 hr3 hC' hx3 => hR h₃ tk₃ C' (fun b x h1 h2 e => k3 b x h1 h2 (k2 b x h1 h2 e)) hr3 hC' hx3
    cases hin : A.contains c with
    | false =>
      rw [hin] at hrr
      rw [hrr]
      simp only [Bool.false_eq_true, if_false]
      have hni : c ∉ A := fun q => by rw [List.contains_iff_mem.mpr q] at hin; cases hin
      refine wpAny_pure ⟨plainId_quiet plain_inter_loop _, again h₁ (tk₁ + 1) C (fun b x _ h2 e => hk₁ b x h2 e) hst₁ hoa₁ ⟨T, ep, ho₁⟩ hC hCA fun x hx hxA => ?_⟩
      rw [htk, List.mem_append, List.mem_singleton] at hx
      rcases hx with hx | rfl
      · exact hCi x hx hxA
      · exact absurd hxA hni
    | true =>
      rw [hin] at hrr
      rw [hrr]
      simp only [if_true]
      have hciA : c ∈ A := List.contains_iff_mem.mp hin
      refine wpAny_bind (wpAny_holding (set_add (s := { s with heap := h₁, toks := tk₁ + 1 }) hC (.inl ⟨rfl, rfl⟩) hc ho₁ rfl fun h₂ T' ep' hs hg => ?_))
      have k2 : ∀ b x, b ≠ r → b ∉ wr → s.heap.get? b = some x → h₂.get? b = some x := fun b x h1 h2 e => (hs.2 b h1).trans (hk₁ b x h2 e)
      have ha2 := (hs.2 a (Ne.symm hra)).trans hoa₁
      have hC2 := ins_sub c C
      have hx2 : ∀ x ∈ ins c C, x ∈ A ∧ x ∈ cs := fun x hx => by
        rcases (mem_ins.mp hx).2 with rfl | hx
        · exact ⟨hciA, hci⟩
        · exact hCA x hx
      have hi2 : ∀ x ∈ cs.take (i + 1), x ∈ A → x ∈ ins c C := fun x hx hxA => by
        rw [htk, List.mem_append, List.mem_singleton] at hx
        rw [mem_ins]
        rcases hx with hx | rfl
        · exact ⟨sub_lt hA hxA, .inr (hCi x hx hxA)⟩
        · exact ⟨hc, .inl rfl⟩
      unfold Builtin.Frozenset.sizeOf
      refine wpAny_bind (wpAny_bind (wpAny_bind (wpAny_setState_of hg rfl (tab_fits hC2 (.inl ⟨rfl, rfl⟩)) (wpAny_pure (wpAny_pure ?_)))))
      refine wpAny_bind (wpAny_bind (wpAny_bind (wpAny_setState_of ha2 rfl (tab_fits hA hm) (wpAny_pure (wpAny_pure ?_)))))
      dsimp only
      by_cases q : (ents (ins c C) T').size ≥ (ents A TA).size
      · rw [if_pos q]
        refine wpAny_bind (wpAny_rule (wpAny_bind (wpAny_pure ?_)))
        have e : ins c C = A := sub_size hA hC2 (fun x hx => (hx2 x hx).1) (by simpa [ents] using q)
        exact wpAny_pure (hR h₂ _ (ins c C) k2 ⟨T', ep', hg⟩ hC2 fun x => ⟨hx2 x, fun hx => by rw [e]; exact hx.1⟩)
      · rw [if_neg q]
        refine wpAny_pure ⟨plainId_quiet plain_inter_loop _, again h₂ _ (ins c C) k2 (W.frame _ _ _ hst₁ fun b hb x e => (hs.2 b fun q => hrf (q ▸ hb)).trans e) ha2 ⟨T', ep', hg⟩ hC2 hx2 hi2⟩
end
end
section
theorem kind_set_inter : builtinKind "set.intersection" = some .method := by decide +kernel
theorem split_set_inter : splitId "set.intersection" = some ("set", "intersection") := by decide +kernel
section
variable {prog : Program} {w : World} {A₀ : Around} {s : Shared} {E : Value → Shared → Prop} {a l : Addr} {oa : Obj} {A : List Nat} {m mv : Nat} {K : Frag}
theorem inter_list {items : Array Value} {cs : List Nat} {Q : Value → Shared → Prop} (Sa : IsSet (model prog w) s.heap a) (hA : A ∈ subs) (hm : MM m mv) (hR : Room A₀ 4) (hl : s.heap.IsList l items) (hi : IntsAre items.toList (cs.map fun (c : Nat) => (c : Int))) (hcs : ∀ c ∈ cs, c < 4)
    (ha : HasSet (byText w) m mv oa s.heap a A)
    (h : ∀ r h' tk C, (∀ b o, s.heap.get? b = some o → h'.get? b = some o) → s.heap.get? r = none → HasSet (byText w) 7 0 plainO h' r C → C ∈ subs → (∀ x, x ∈ C ↔ x ∈ A ∧ x ∈ cs) → Q (.ref r) { s with heap := h', toks := tk }) :
    wpAny (model prog w) A₀ (call (.builtin "set.intersection") [.ref a, .ref l]) Q E s := by
  refine wpAny_call (codeAny_call_builtin PySem.F.slot_set_intersection.plain entry_inter (@kfo_check (model prog w) _ _ s "set.intersection" "set" "intersection" (.ref a) [.ref l] [] _ kind_set_inter split_set_inter Sa.inst (PySem.F.args_set_intersection_2 _ _) ?_))
  unfold Builtin.«frozenset.intersection»
  refine wpAny_bind (wpAny_pure ?_)
  dsimp only
  simp only [List.isEmpty_cons, Bool.false_eq_true, if_false]
  refine wpAny_bind ?_
  have hlt := hl
  obtain ⟨ol, hol, hcl, nl, hdl⟩ := hlt
  have hla : l ≠ a := by
    rintro rfl
    obtain ⟨T, ep, ho⟩ := ha
    rw [ho] at hol
    cases hol
    cases hdl
  have Ll : Looks (model prog w) s.heap (typeOf (.ref l)) (.type "list") := type_at hol hcl
  have key : wpAny (model prog w) A₀.in1 (Builtin.Frozenset.intersection "frozenset.intersection" a (.ref l)) Q E s := by
    unfold Builtin.Frozenset.intersection
    rw [show (Value.ref l == Value.ref a) = false from by simpa using hla]
    simp only [Bool.false_eq_true, if_false]
    refine wpAny_bind (base_of Sa (wpAny_bind (new_set ?_)))
    refine wpAny_bind (wpAny_pure ?_)
    have k1 : ∀ b o, s.heap.get? b = some o → (s.heap.push { plainO with data := .set (ents [] fun _ => 0) 0 (tab (byText w) 7 0 []) }).get? b = some o := fun b o e => Heap.get?_push_of_some _ e
    have hr : (s.heap.push { plainO with data := .set (ents [] fun _ => 0) 0 (tab (byText w) 7 0 []) }).get? s.heap.objs.size = some { plainO with data := .set (ents [] fun _ => 0) 0 (tab (byText w) 7 0 []) } := Heap.get?_push_size _ rfl
    have hnone : s.heap.get? s.heap.objs.size = none := by
      cases q : s.heap.get? s.heap.objs.size with
      | none => rfl
      | some o => exact absurd (Heap.lt_size q) (Nat.lt_irrefl _)
    obtain ⟨T, ep, hoa⟩ := ha
    have hra : s.heap.objs.size ≠ a := Ne.symm (Nat.ne_of_lt (Heap.lt_size hoa))
    have hrl : s.heap.objs.size ≠ l := Ne.symm (Nat.ne_of_lt (Heap.lt_size hol))
    refine wpAny_bind (wpAny_holding ?_)
    unfold Builtin.Frozenset.isAnySet
    refine wpAny_bind (wpAny_bind (m := isInstance (.ref l) (.type "set")) (((Ll.andThen (Looks.of_pure PySem.F.sub_list_set) : Looks (model prog w) s.heap (isInstance (.ref l) (.type "set")) false).keeps k1).here ?_))
    simp only [Bool.false_eq_true, if_false]
    refine ((Ll.andThen (Looks.of_pure PySem.F.sub_list_frozenset) : Looks (model prog w) s.heap (isInstance (.ref l) (.type "frozenset")) false).keeps k1).here ?_
    simp only [Bool.false_eq_true, if_false]
    generalize hh1 : s.heap.push { plainO with data := .set (ents [] fun _ => 0) 0 (tab (byText w) 7 0 []) } = h1 at k1 hr
    have hl1 : h1.IsList l items := ⟨ol, k1 _ _ hol, hcl, nl, hdl⟩
    refine wpAny_bind (wpAny_pyIter_list hl1 ?_)
    refine wpAny_bind (wpAny_runValue ?_)
    have hlen : items.size = cs.length := by
      have := hi.length
      simpa using this
    have hl1s : l < h1.objs.size := Heap.lt_size (k1 _ _ hol)
    have W := Walks.list (prog := prog) (w := w) (A := A₀.in1.in1) (Room.handled (n := 0) (by walk_at "my room")) h1.objs.size l (Nat.ne_of_lt hl1s) items
    rw [hlen] at W
    refine inter_list_loop (A₀ := A₀.in1) (r := s.heap.objs.size) (oa := oa) hA hm cs hcs W ?_ ?_ hra ?_ cs.length 0 _ [] (by omega) (Nat.zero_le _) (by decide) (by simp) (by simp) ⟨⟨_, Heap.get?_push_size _ rfl, rfl, rfl⟩, hl1.push _⟩ ⟨T, ep, Heap.get?_push_of_some _ (k1 _ _ hoa)⟩ ⟨_, _, Heap.get?_push_of_some _ hr⟩ ?_
    · simp only [List.mem_cons, List.not_mem_nil, or_false, not_or]
      exact ⟨Nat.ne_of_lt (Heap.lt_size hr), hrl⟩
    · simp only [List.mem_cons, List.not_mem_nil, or_false, not_or]
      exact ⟨Nat.ne_of_lt (Heap.lt_size (k1 _ _ hoa)), Ne.symm hla⟩
    · intro i v hv
      have hv' : items.toList[i]? = some v := by rw [Array.getElem?_toList]; exact hv
      obtain ⟨t, e⟩ := IntsAre.int_at hi i v hv'
      refine ⟨t, ?_⟩
      rw [e]
      congr 1
      simp only [List.getD_eq_getElem?_getD, List.getElem?_map]
      cases cs[i]? <;> rfl
    · intro h' tk C k hC hCs hx
      dsimp only
      refine wpAny_pure (wpAny_pure (h s.heap.objs.size h' tk C (fun b x e => k b x (Nat.ne_of_lt (Heap.lt_size e)) ?_ (Heap.get?_push_of_some _ (k1 _ _ e))) hnone hC hCs hx))
      simp only [List.mem_singleton]
      exact Nat.ne_of_lt (Heap.lt_size (k1 _ _ e))
  rw [List.forIn_cons]
  refine wpAny_bind (wpAny_bind (wpAny_holding (wpAny_bind (wpAny_pure ?_))))
  refine wpAny_mono key (fun v s' hv => ?_) fun _ _ e => e
  refine wpAny_pure ?_
  dsimp only
  rw [List.forIn_nil]
  exact wpAny_pure (wpAny_pure hv)
end
end
section
section
variable {prog : Program} {w : World} {A₀ : Around} {s : Shared} {E : Value → Shared → Prop}
def newS (w : World) (h : Heap) : Heap := h.push { plainO with data := .set (ents [] fun _ => 0) 0 (tab (byText w) 7 0 []) }
theorem newS_at (w : World) (h : Heap) : (newS w h).get? h.objs.size = some { plainO with data := .set (ents [] fun _ => 0) 0 (tab (byText w) 7 0 []) } := Heap.get?_push_size _ rfl
theorem newS_has (w : World) (h : Heap) : HasSet (byText w) 7 0 plainO (newS w h) h.objs.size [] := ⟨_, _, newS_at w h⟩
theorem newS_keep (w : World) (h : Heap) : ∀ b o, h.get? b = some o → (newS w h).get? b = some o := fun _ _ e => Heap.get?_push_of_some _ e
theorem code_set_new (a : Value) {h1 : Heap} (hh : newS w s.heap = h1) {Q₁ : Value → Shared → Prop} (h : Q₁ (.ref s.heap.objs.size) { s with heap := h1 }) :
    codeAny (model prog w) A₀ (.call (.builtin "set.__new__") ⟨[.type "set", a], []⟩) (wants Q₁ E) s := by
  refine codeAny_of_tree ?_
  show wpAny _ A₀.in1 (do checkBuiltinCall "set.__new__" ⟨[.type "set", a], []⟩; again (.builtin "set.__new__" ⟨[.type "set", a], []⟩)) _ _ s
  refine wpAny_bind (wpAny_of_eq (PySem.F.newCall_set_1 a) (wpAny_pure ⟨plainId_quiet PySem.F.plain_set_new _, codeAny_builtin PySem.F.entry_set_new ?_⟩))
  rw [Around.under_plainId PySem.F.plain_set_new _]
  unfold Builtin.«set.__new__» Builtin.Frozenset.newClass
  have hsub := sub_set_self
  have key : ∀ Q' E', Q' (.ref s.heap.objs.size) { s with heap := h1 } → wpAny (model prog w) A₀.in1 (newSet (.type "set")) Q' E' s := fun Q' E' q => new_set (by rw [show (s.heap.push { plainO with data := .set (ents [] fun _ => 0) 0 (tab (byText w) 7 0 []) }) = h1 from hh]; exact q)
  repeat (first | (with_reducible refine key _ _ ?_) | wp_step)
  exact h
theorem set_mro : mroOf (.type "set") = pure [.type "set", .type "object"] := by rw [mroOf_type]; kernel_rfl
theorem call_set {arg : Value} {Q : Value → Shared → Prop} {h1 : Heap} (hh : newS w s.heap = h1) (hA : Room A₀ 6)
    (h : ∀ A', Room A' 4 → ∀ E', wpAny (model prog w) A' (call (.builtin "set.__init__") [.ref s.heap.objs.size, arg]) (fun v s' => v = .none ∧ Q (.ref s.heap.objs.size) s') E' { s with heap := h1 }) :
    wpAny (model prog w) A₀ (call (.type "set") [arg]) Q E s := by
  refine wpAny_call (codeAny_of_tree ?_)
  show wpAny _ _ (callAny (.type "set") _) _ _ _
  refine wpAny_pure ⟨Code.quiet_builtin _ (by decide +kernel), codeAny_builtin PySem.F.entry_type_call ?_⟩
  rw [Around.under_plain (weight_type_call_type "set" [arg] []) rfl]
  repeat (first | with_reducible refine wpAny_pure ?_ | with_reducible refine wpAny_bind ?_ | with_reducible refine wpAny_holding ?_ | with_reducible refine wpAny_standAt ?_ | with_reducible refine wpAny_point ?_ | with_reducible refine wpAny_typeOf (by assumption) ?_ | with_reducible refine wpAny_call ?_ | with_reducible refine wpAny_runValue ?_ | with_reducible refine wpAny_run ?_ | with_reducible refine wpAny_of_eq set_mro ?_ | with_reducible refine wpAny_of_eq PySem.F.called_set.made ?_ | with_reducible refine wpAny_of_eq PySem.F.called_set.sub ?_ | with_reducible refine wpAny_of_eq (PySem.F.typeCall_set_1 _) ?_ | with_reducible refine wpAny_ite_false PySem.F.called_set.canCreate ?_ | with_reducible refine wpAny_ite_false PySem.F.called_set.notType ?_ | wp_delta | wp_step)
  refine codeAny_mono (code_set_new arg hh (E := E) (Q₁ := fun obj s₁ => obj = .ref s.heap.objs.size ∧ s₁ = { s with heap := h1 }) ⟨rfl, rfl⟩) fun r s₁ hr => ?_
  cases r with
  | error e => exact hr
  | ok fl =>
    cases fl with
    | ret obj =>
      have hobj := hr.1
      have hs1 := hr.2
      clear hr
      subst hobj
      subst hs1
      have hS : ∃ o1, h1.get? s.heap.objs.size = some o1 ∧ o1.cls = .type "set" := ⟨_, hh ▸ newS_at w s.heap, rfl⟩
      obtain ⟨o1, hS, hc⟩ := hS
      have hT : Shared.TypeIs { s with heap := h1 } (.ref s.heap.objs.size) "set" := ⟨_, hS, hc⟩
      have hsub := PySem.F.called_set.sub
      have hli := PySem.F.called_set.init.lookup
      have hbi := PySem.F.called_set.init.bind (.ref s.heap.objs.size)
      iterate 6 (any_goals (first | assumption | (with_reducible refine wpAny_mono (h _ ?_ _) ?_ ?_) | wp_step))
      refine wpAny_bind (wpAny_specialOf hT hli ?_)
      dsimp only [List.map_nil, List.append_nil]
      refine wpAny_holding (wpAny_bind (wpAny_of_eq hbi ?_))
      dsimp only [List.cons_append, List.nil_append]
      refine wpAny_bind (wpAny_mono (h A₀.in1 (by walk_at "my room") _) (fun v s' hv => ?_) fun _ _ e => e)
      obtain ⟨rfl, hq⟩ := hv
      refine wpAny_pure ?_
      dsimp only
      rw [if_neg (by decide)]
      exact wpAny_pure hq
    | _ => exact hr.elim
end
end
section
section
variable {prog : Program} {w : World} {A₀ : Around} {s : Shared} {E : Value → Shared → Prop}
theorem shown_at {M : Model} {h : Heap} {a : Addr} {o : Obj} {c : Value} (ho : h.get? a = some o) (hc : o.cls = c) (hne : (c == .type "builtin_function_or_method") = false) : Looks M h (shownTypeOf (.ref a)) c := by
  unfold shownTypeOf
  refine (type_at ho hc).andThen ?_
  simp only [hne, Bool.false_eq_true, if_false]
  exact .now
theorem named_plain {M : Model} {h : Heap} {a : Addr} {o : Obj} (ho : h.get? a = some o) (hc : o.cls = .type "set") : Named M h a := by
  have L := type_at (M := M) ho hc
  have L2 := shown_at (M := M) ho hc (by decide)
  exact ⟨(isSet_plain ho hc).inst, ⟨_, L, _, Looks.of_pure rfl⟩, ⟨_, L2.andThen (Looks.of_pure rfl)⟩⟩
theorem named_own {K : Frag} {cd : ClassData} {M : Model} {h : Heap} {a : Addr} {o : Obj} (X : K.In h) (ho : h.get? a = some o) (hc : o.cls = .ref 75) (hcd : clsIn K 75 = some cd) (h3 : subIn K (.ref 75) (.type "set") = some true)
    (hcut : cd.name.cps.foldl (fun k c => k + (Str.utf8Of c).length) 0 ≤ 200) : Named M h a := by
  have L := type_at (M := M) ho hc
  have L2 := shown_at (M := M) ho hc (by decide)
  have Lc : Looks M h (classData 75) cd := looks_clsIn X hcd
  refine ⟨L.andThen (looks_subIn X h3), ⟨_, L, cd.name.toString, ?_⟩, cd.name.toString, ?_⟩
  · unfold typeNameWhole
    exact Lc.andThen .now
  · refine L2.andThen ?_
    unfold typeNameCut
    refine Lc.andThen ?_
    dsimp only
    rw [if_pos hcut]
    exact .now
theorem no_at (h : Heap) : h.get? h.objs.size = none := by
  cases q : h.get? h.objs.size with
  | none => rfl
  | some o => exact absurd (Heap.lt_size q) (Nat.lt_irrefl _)
theorem set_of_list {l : Addr} {items : Array Value} {cs : List Nat} {Q : Value → Shared → Prop} (hA : Room A₀ 6) (hl : s.heap.IsList l items) (hi : IntsAre items.toList (cs.map fun (c : Nat) => (c : Int))) (hcs : ∀ c ∈ cs, c < 4)
    (h : ∀ r h' tk, (∀ a x, s.heap.get? a = some x → h'.get? a = some x) → s.heap.get? r = none → HasSet (byText w) 7 0 plainO h' r (insAll cs []) → Q (.ref r) { s with heap := h', toks := tk }) :
    wpAny (model prog w) A₀ (call (.type "set") [.ref l]) Q E s := by
  refine call_set (h1 := newS w s.heap) rfl hA fun A' hA' E' => ?_
  have hS := newS_has w s.heap
  have hk := newS_keep w s.heap
  obtain ⟨ol, hol, hcl, nl, hdl⟩ := hl
  refine init_list (items := items) (named_plain (newS_at w s.heap) rfl) hA' ⟨ol, hk _ _ hol, hcl, nl, hdl⟩ hi hcs hS fun h' tk k hS' => ⟨rfl, ?_⟩
  refine h _ h' tk (fun a x e => k a x (Nat.ne_of_lt (Heap.lt_size e)) (hk a x e)) (no_at _) hS'
end
end
section
section
variable {prog : Program} {w : World} {A₀ : Around} {s : Shared} {E : Value → Shared → Prop} {a O r : Addr} {oa oo : Obj} {A B : List Nat} {m mv : Nat}
theorem relaid_sub {A : List Nat} (hA : A ∈ subs) (b : Bool) {n : Nat} (hn : n ∈ [10, 12, 14, 16]) : (tab b 7 0 A).relaid (A.toArray.map fun (c : Nat) => (c : Int)) n = some (tab b (SetTable.sizeAbove n - 1) 1 A, Array.range A.length) := by
  have : ∀ A ∈ subs, ∀ b ∈ [true, false], ∀ n ∈ [10, 12, 14, 16], (tab b 7 0 A).relaid (A.toArray.map fun (c : Nat) => (c : Int)) n = some (tab b (SetTable.sizeAbove n - 1) 1 A, Array.range A.length) := by decide +kernel
  exact this A hA b (by cases b <;> simp) n hn
theorem range_pick {α : Type} (es : Array α) : (Array.range es.size).filterMap (es[·]?) = es := by
  apply Array.ext'
  rw [Array.toList_filterMap, Array.toList_range]
  obtain ⟨l⟩ := es
  simp only [List.getElem?_toArray, List.size_toArray]
  induction l with
  | nil => rfl
  | cons x l ih =>
    rw [List.length_cons, List.range_succ_eq_map, List.filterMap_cons]
    simp only [List.getElem?_cons_zero, List.filterMap_map]
    congr 1
theorem merge_first {each : Sem Unit} {Q : Unit → Shared → Prop} (hA : A ∈ subs) (hne : r ≠ O) (hOs : HasSet (byText w) 7 0 oo s.heap O A) (hS : HasSet (byText w) 7 0 oa s.heap r [])
    (h : ∀ h', Heap.SameBut r s.heap h' → HasSet (byText w) 7 0 oa h' r A → Q () { s with heap := h' }) :
    wpAny (model prog w) A₀ (setMerge r O each) Q E s := by
  obtain ⟨TO, epO, hoO⟩ := hOs
  obtain ⟨T, ep, ho⟩ := hS
  have hfO := tab_fits (b := byText w) (T := TO) hA (.inl ⟨rfl, rfl⟩ : MM 7 0)
  have hfS := tab_fits (b := byText w) (A := []) (T := T) (by decide) (.inl ⟨rfl, rfl⟩ : MM 7 0)
  unfold setMerge
  rw [show (r == O) = false from by simpa using hne]
  simp only [Bool.false_eq_true, if_false]
  refine wpAny_bind (wpAny_setState_of hoO rfl hfO ?_)
  dsimp only
  by_cases hn : A = []
  · subst hn
    rw [if_pos (by rfl)]
    refine wpAny_pure ?_
    exact h s.heap (Heap.SameBut.refl ..) ⟨T, ep, ho⟩
  · rw [if_neg (by
      cases A with
      | nil => exact absurd rfl hn
      | cons c r => simp [ents, Array.isEmpty])]
    have hr := small_room hA (byText w)
    have hz : (ents A TO).size = (ents A (fun _ => 0)).size := by simp [ents]
    unfold setRoomFor
    refine wpAny_bind (wpAny_bind (wpAny_setState_of ho rfl hfS ?_))
    dsimp only
    rw [hz, hr]
    refine wpAny_pure ?_
    refine wpAny_bind (wpAny_setState_of ho rfl hfS ?_)
    dsimp only
    rw [show (tab (byText w) 7 0 []).road (tab (byText w) 7 0 A) = .slotForSlot from rfl]
    dsimp only
    have hs : (ents A TO).size ≤ sizeLine := by
      have := sub_len hA
      simp only [ents, List.size_toArray, List.length_map]
      rw [sizeLine_eq]; omega
    refine wpAny_storeSet_of ho rfl ?_ hs
    have e := putSet_of (o := { oa with data := Data.set (ents [] T) ep (tab (byText w) 7 0 []) }) (ents A TO) (tab (byText w) 7 0 A) rfl
    refine h _ (Heap.SameBut.update ..) ⟨TO, ep + 1, ?_⟩
    rw [Heap.get?_update_self _ ho rfl]
    show some (Obj.putSet (ents A TO) ⟨7, A.toArray, #[], 0, (!byText w && !byText w), 0, true⟩ _) = _
    rw [Bool.and_self]
    exact congrArg some e
theorem room_for (hA : A ∈ subs) (hB : B ∈ subs) {Q : Unit → Shared → Prop} (hS : HasSet (byText w) 7 0 oa s.heap r A)
    (h : ∀ h' m mv, MM m mv → (A = [] → m = 7 ∧ mv = 0) → Heap.SameBut r s.heap h' → HasSet (byText w) m mv oa h' r A → Q () { s with heap := h' }) :
    wpAny (model prog w) A₀ (setRoomFor r B.length) Q E s := by
  obtain ⟨T, ep, ho⟩ := hS
  have hf := tab_fits (b := byText w) (T := T) hA (.inl ⟨rfl, rfl⟩ : MM 7 0)
  have lA := sub_len hA
  have lB := sub_len hB
  unfold setRoomFor
  refine wpAny_bind (wpAny_setState_of ho rfl hf ?_)
  dsimp only
  have hroom : (tab (byText w) 7 0 A).roomFor B.length = if (A.length + B.length) * 5 ≥ 21 then some ((A.length + B.length) * 2) else none := rfl
  rw [hroom]
  by_cases q : (A.length + B.length) * 5 ≥ 21
  · rw [if_pos q]
    dsimp only
    have hn : (A.length + B.length) * 2 ∈ [10, 12, 14, 16] := by simp; omega
    unfold setRelay
    refine wpAny_bind (wpAny_setState_of ho rfl hf ?_)
    dsimp only
    have hw : ∀ n ∈ [10, 12, 14, 16], ¬ SetTable.sizeAbove n > sizeLine := by decide +kernel
    rw [if_neg (hw _ hn)]
    have hMM : ∀ n ∈ [10, 12, 14, 16], SetTable.sizeAbove n - 1 = 15 ∨ SetTable.sizeAbove n - 1 = 31 := by decide +kernel
    have hh := relaid_sub hA (byText w) hn
    have hmap : (ents A T).map (·.1) = A.toArray.map fun (c : Nat) => (c : Int) := by simp [ents]
    rw [hmap, hh]
    k_delta "reordered"
    dsimp only
    have hsz : A.length = (ents A T).size := by simp [ents]
    rw [hsz, range_pick, ← hsz]
    rw [if_neg (by simp)]
    refine wpAny_bind (wpAny_pure ?_)
    dsimp only
    have hs : (ents A T).size ≤ sizeLine := by
      rw [← hsz, sizeLine_eq]; omega
    have hm2 : MM (SetTable.sizeAbove ((A.length + B.length) * 2) - 1) 1 := (hMM _ hn).elim (fun e => .inr (.inl ⟨e, rfl⟩)) fun e => .inr (.inr ⟨e, rfl⟩)
    generalize SetTable.sizeAbove ((A.length + B.length) * 2) - 1 = m2 at hm2
    refine wpAny_storeSet_of ho rfl ?_ hs
    have e := putSet_of (o := { oa with data := Data.set (ents A T) ep (tab (byText w) 7 0 A) }) (ents A T) (tab (byText w) m2 1 A) rfl
    refine h _ _ _ hm2 (fun hnil => ?_) (Heap.SameBut.update ..) ⟨T, ep + 1, ?_⟩
    · subst hnil; simp only [List.length_nil] at q; omega
    · rw [Heap.get?_update_self _ ho rfl]
      exact congrArg some e
  · rw [if_neg q]
    exact wpAny_pure (h s.heap 7 0 (.inl ⟨rfl, rfl⟩) (fun _ => ⟨rfl, rfl⟩) (Heap.SameBut.refl ..) ⟨T, ep, ho⟩)
theorem merge_loop {ow : Obj} {Tw : Nat → Tok} {epw : Nat} {cs : List Nat} {Q : PUnit → Shared → Prop} {id : String} {f : Int × Value → PUnit → Sem (ForInStep PUnit)}
    (hf : f = fun x _ => (do
      let _ ← holding [x.snd] (setAddHashed r x.snd x.fst)
      Builtin.Frozenset.unchanged id O epw
      if ((← setState O).2.1 != epw) = true then unsupported "set.changed-during-merge"
      pure (ForInStep.yield PUnit.unit)))
    (hA : A ∈ subs) (hB : B ∈ subs) (hm : MM m mv) (hrO : r ≠ O)
    (hw : s.heap.get? O = some { ow with data := .set (ents B Tw) epw (tab (byText w) 7 0 B) }) (hcs : ∀ c ∈ cs, c < 4)
    (hr : HasSet (byText w) m mv oa s.heap r A)
    (h : ∀ h' tk C, (∀ b o, b ≠ r → s.heap.get? b = some o → h'.get? b = some o) → HasSet (byText w) m mv oa h' r C → C ∈ subs → (∀ x, x ∈ C ↔ x ∈ A ∨ x ∈ cs) → Q ⟨⟩ { s with heap := h', toks := tk }) :
    wpAny (model prog w) A₀ (forIn (cs.map fun (c : Nat) => ((c : Int), Value.int (c : Int) (Tw c))) PUnit.unit f) Q E s := by
  subst hf
  refine forIn_list (fun rem s' => ∃ cr C h' tk, rem = cr.map (fun (c : Nat) => ((c : Int), Value.int (c : Int) (Tw c))) ∧ s' = { s with heap := h', toks := tk } ∧ (∀ b o, b ≠ r → s.heap.get? b = some o → h'.get? b = some o) ∧ HasSet (byText w) m mv oa h' r C ∧ C ∈ subs ∧ (∀ c ∈ cr, c < 4) ∧ ∀ x, (x ∈ C ∨ x ∈ cr) ↔ x ∈ A ∨ x ∈ cs) ?_ ?_ _ s
    ⟨cs, A, s.heap, s.toks, rfl, rfl, fun _ _ _ e => e, hr, hA, hcs, fun x => Iff.rfl⟩
  · rintro x rem s' ⟨cr, C, h', tk, e, rfl, k, ⟨T, ep, hC⟩, hCs, hcr, hx⟩
    cases cr with
    | nil => cases e
    | cons c cr =>
      rw [List.map_cons, List.cons.injEq] at e
      obtain ⟨rfl, rfl⟩ := e
      have hc := hcr c (.head _)
      refine wpAny_bind (wpAny_holding (set_add (s := { s with heap := h', toks := tk }) hCs hm hc hC rfl fun h'' T' ep' hs hg => ?_))
      have k2 : ∀ b o, b ≠ r → s.heap.get? b = some o → h''.get? b = some o := fun b o n e => (hs.2 b n).trans (k b o n e)
      have hw2 := k2 _ _ (Ne.symm hrO) hw
      refine wpAny_bind ?_
      unfold Builtin.Frozenset.unchanged
      refine wpAny_bind (wpAny_setEpoch_of hw2 rfl (tab_fits hB (.inl ⟨rfl, rfl⟩)) ?_)
      rw [show (epw != epw) = false from by simp]
      simp only [Bool.false_eq_true, if_false]
      refine wpAny_pure (wpAny_bind (wpAny_setState_of hw2 rfl (tab_fits hB (.inl ⟨rfl, rfl⟩)) ?_))
      dsimp only
      rw [show (epw != epw) = false from by simp]
      simp only [Bool.false_eq_true, if_false]
      refine wpAny_pure ⟨rfl, cr, ins c C, h'', _, rfl, rfl, k2, ⟨T', ep', hg⟩, ins_sub _ _, fun y hy => hcr y (.tail _ hy), fun x => ?_⟩
      rw [← hx x, mem_ins]
      constructor
      · rintro (⟨h0, h1⟩ | h1)
        · rcases h1 with rfl | h1
          · exact .inr (.head _)
          · exact .inl h1
        · exact .inr (.tail _ h1)
      · rintro (h1 | h1)
        · exact .inl ⟨sub_lt hCs h1, .inr h1⟩
        · rcases List.mem_cons.mp h1 with rfl | h2
          · exact .inl ⟨hc, .inl rfl⟩
          · exact .inr h2
  · rintro s' ⟨cr, C, h', tk, e, rfl, k, hC, hCs, hcr, hx⟩
    cases cr with
    | cons c cr => cases e
    | nil => exact h h' tk C k hC hCs fun x => by rw [← hx x]; simp
theorem merge_set {id : String} {Q : Unit → Shared → Prop} (hA : A ∈ subs) (hB : B ∈ subs) (hne : r ≠ O) (hOs : HasSet (byText w) 7 0 oo s.heap O B) (hS : HasSet (byText w) 7 0 oa s.heap r A)
    (h : ∀ h' tk C m mv, MM m mv → (∀ b o, b ≠ r → s.heap.get? b = some o → h'.get? b = some o) → HasSet (byText w) m mv oa h' r C → C ∈ subs → (∀ x, x ∈ C ↔ x ∈ A ∨ x ∈ B) → Q () { s with heap := h', toks := tk }) :
    wpAny (model prog w) A₀ (Builtin.Frozenset.merge id r O) Q E s := by
  have hOs' := hOs
  obtain ⟨TO, epO, hoO⟩ := hOs'
  have hfO := tab_fits (b := byText w) (T := TO) hB (.inl ⟨rfl, rfl⟩ : MM 7 0)
  unfold Builtin.Frozenset.merge
  refine wpAny_bind (wpAny_setEpoch_of hoO rfl hfO ?_)
  by_cases hAn : A = []
  · subst hAn
    exact merge_first hB hne hOs hS fun h' k hr => h h' s.toks B 7 0 (.inl ⟨rfl, rfl⟩) (fun b o n e => (k.2 b n).trans e) hr hB fun x => by simp
  unfold setMerge
  rw [show (r == O) = false from by simpa using hne]
  simp only [Bool.false_eq_true, if_false]
  refine wpAny_bind (wpAny_setState_of hoO rfl hfO ?_)
  dsimp only
  by_cases hn : B = []
  · subst hn
    rw [if_pos (by rfl)]
    refine wpAny_pure ?_
    exact h s.heap s.toks A 7 0 (.inl ⟨rfl, rfl⟩) (fun _ _ _ e => e) hS hA fun x => by simp
  · rw [if_neg (by
      cases B with
      | nil => exact absurd rfl hn
      | cons c r => simp [ents, Array.isEmpty])]
    have hz : (ents B TO).size = B.length := by simp [ents]
    rw [hz]
    refine wpAny_bind (room_for hA hB hS fun h1 m mv hm _ sb hS1 => ?_)
    have hoO1 := (sb.2 O (Ne.symm hne)).trans hoO
    obtain ⟨T1, ep1, ho1⟩ := hS1
    refine wpAny_bind (wpAny_setState_of ho1 rfl (tab_fits hA hm) ?_)
    dsimp only
    rw [show (tab (byText w) m mv A).road (tab (byText w) 7 0 B) = .oneByOne from by
      unfold SetTable.road
      rw [if_pos]
      cases A with
      | nil => exact absurd rfl hAn
      | cons c r => rfl]
    dsimp only
    refine wpAny_bind (walk_unseen (s := { s with heap := h1 }) (b := byText w) hB (.inl ⟨rfl, rfl⟩) hoO1 rfl fun es h1' h2 => ?_)
    rw [← Array.forIn_toList]
    obtain ⟨cs, p, he⟩ := ents_perm h2
    rw [he]
    refine wpAny_bind (merge_loop (s := { s with heap := h1 }) rfl hA hB hm hne hoO1 (fun c hc => sub_lt hB (p.mem_iff.mp hc)) ⟨T1, ep1, ho1⟩ fun h' tk C k hr hC hx => wpAny_pure ?_)
    exact h h' tk C m mv hm (fun b o n e => k b o n ((sb.2 b n).trans e)) hr hC fun x => by rw [hx x, p.mem_iff]
end
end
section
theorem slot_zero {b : Bool} {A : List Nat} : slotOf b A 0 = 0 := by cases b <;> rfl
section
variable {prog : Program} {w : World} {A₀ : Around} {s : Shared} {E : Value → Shared → Prop} {a : Addr} {o : Obj} {A : List Nat} {m mv ep : Nat} {T : Nat → Tok}
theorem hint_set {Q : Bool → Shared → Prop} (ho : s.heap.get? a = some o) (hc : o.cls = .type "set") (h : Q false s) : wpAny (model prog w) A₀ (Builtin.List.listLengthHint (.ref a)) Q E s := by
  unfold Builtin.List.listLengthHint
  refine wpAny_bind ((isSet_plain ho hc).len.here ?_)
  dsimp only
  rw [split_set_len]
  dsimp only
  refine wpAny_bind ((isSet_plain ho hc).inst.here ?_)
  simp only [Bool.not_true, Bool.false_eq_true, if_false]
  rw [if_pos (by kernel_rfl)]
  refine wpAny_bind ((type_at ho hc).here ?_)
  exact wpAny_pure h
theorem collect_set {Q : List Value → Shared → Prop} (hh : A₀.handled = none) (hA : A ∈ subs) (hm : MM m mv) (ho : s.heap.get? a = some o) (hc : o.cls = .type "set") (hd : o.data = .set (ents A T) ep (tab (byText w) m mv A))
    (h : ∀ h' tk, (∀ b x, s.heap.get? b = some x → h'.get? b = some x) → Q (ordOf w a ep A T) { s with heap := h', toks := tk }) : wpAny (model prog w) A₀ (collect (.ref a)) Q E s := by
  unfold collect
  refine wpAny_bind (wpAny_runValue (codeAny_builtin PySem.F.entry_proto_collect ?_))
  rw [Around.under_plainId PySem.F.plain_proto_collect _]
  show wpAny _ A₀.in1 (newList [] >>= fun l => again (.builtin "list.__iadd__" ⟨[l, .ref a], []⟩)) _ _ s
  refine wpAny_bind (wpAny_newObj_type ?_)
  refine wpAny_pure ⟨plainId_quiet PySem.F.plain_list_iadd _, codeAny_builtin PySem.F.entry_list_iadd ?_⟩
  rw [Around.under_plainId PySem.F.plain_list_iadd _]
  have hL : (s.heap.push { cls := .type "list", data := .seq ([] : List Value).toArray }).get? s.heap.objs.size = some { cls := .type "list", data := .seq ([] : List Value).toArray } := Heap.get?_push_size _ rfl
  have ho1 : (s.heap.push { cls := .type "list", data := .seq ([] : List Value).toArray }).get? a = some o := Heap.get?_push_of_some _ ho
  have k1 : ∀ b x, s.heap.get? b = some x → (s.heap.push { cls := .type "list", data := .seq ([] : List Value).toArray }).get? b = some x := fun b x e => Heap.get?_push_of_some _ e
  have hSa : s.heap.objs.size ≠ a := Ne.symm (Nat.ne_of_lt (Heap.lt_size ho))
  generalize hl : s.heap.objs.size = l at hL hSa ⊢
  generalize (s.heap.push { cls := .type "list", data := .seq ([] : List Value).toArray }) = h1 at hL ho1 k1 ⊢
  show wpAny _ A₀.in1 (Builtin.List.listExtendWith (.ref l) (.ref a) (.ref l)) _ _ _
  unfold Builtin.List.listExtendWith
  refine wpAny_bind ((type_at (h := h1) ho1 hc).here ?_)
  have hs1 : Builtin.List.listSameRef (.ref l) (.ref a) = false := by simp [Builtin.List.listSameRef, hSa]
  rw [if_neg (by rw [hs1]; decide)]
  refine wpAny_bind (iter_set (s := { s with heap := h1 }) (isSet_plain ho1 hc) hA hm ho1 hd ?_)
  have W := walks_set (prog := prog) (w := w) (A₀ := A₀.in1) (I := h1.objs.size) hh hA hm hd (Nat.ne_of_lt (Heap.lt_size ho1))
  have hI : (h1.push { cls := .type "set_iterator", data := .fields #[.int 0 0, .int 0 0, .ref a, .int A.length 0, .int ep 0] }).get? h1.objs.size = some { cls := .type "set_iterator", data := .fields #[.int 0 0, .int 0 0, .ref a, .int A.length 0, .int ep 0] } := Heap.get?_push_size _ rfl
  have ho2 := Heap.get?_push_of_some { cls := .type "set_iterator", data := .fields #[.int 0 0, .int 0 0, .ref a, .int A.length 0, .int ep 0] } ho1
  have hL2 := Heap.get?_push_of_some { cls := .type "set_iterator", data := .fields #[.int 0 0, .int 0 0, .ref a, .int A.length 0, .int ep 0] } hL
  have k2 : ∀ b x, s.heap.get? b = some x → (h1.push { cls := .type "set_iterator", data := .fields #[.int 0 0, .int 0 0, .ref a, .int A.length 0, .int ep 0] }).get? b = some x := fun b x e => Heap.get?_push_of_some _ (k1 b x e)
  have hlI : l ≠ h1.objs.size := Nat.ne_of_lt (Heap.lt_size hL)
  have hIs : s.heap.objs.size ≤ h1.objs.size := by rw [hl]; exact Nat.le_of_lt (Heap.lt_size hL)
  generalize h1.push { cls := .type "set_iterator", data := .fields #[.int 0 0, .int 0 0, .ref a, .int A.length 0, .int ep 0] } = h2 at hI ho2 hL2 k2 ⊢
  generalize h1.objs.size = I at W hI hlI hIs ⊢
  refine wpAny_bind (wpAny_holding (hint_set (s := { s with heap := h2 }) ho2 hc ?_))
  rw [if_pos (by kernel_rfl)]
  refine wpAny_bind (wpAny_rule ?_)
  refine wpAny_bind ?_
  unfold Builtin.List.listTouch
  have hL2' : h2.get? l = some (seqObj "list" #[] 0) := hL2
  refine wpAny_bind (listUpdate_at (s := { s with heap := h2 }) hL2' rfl ?_)
  have hL3 := get?_update_seq hL2' (fun x => x.push Value.none)
  refine listUpdate_at (s := { s with heap := h2.update l (Obj.mapSeq fun x => x.push Value.none) }) hL3 rfl ?_
  have hL4 := get?_update_seq hL3 (fun x => x.pop)
  generalize hh3 : (h2.update l (Obj.mapSeq fun x => x.push Value.none)).update l (Obj.mapSeq fun x => x.pop) = h3 at hL4 ⊢
  have k3 : ∀ b x, b ≠ l → h2.get? b = some x → h3.get? b = some x := fun b x n e => by
    rw [← hh3]
    exact (Heap.get?_update_other _ _ (Ne.symm n)).trans ((Heap.get?_update_other _ _ (Ne.symm n)).trans e)
  have hsl : ∀ b x, s.heap.get? b = some x → b ≠ l := fun b x e => by rw [← hl]; exact Nat.ne_of_lt (Heap.lt_size e)
  refine wpAny_pure ⟨plainId_quiet PySem.F.plain_extend_loop _, codeAny_extend_loopS W.toS (by have := sub_len hA; rw [sizeLine_eq]; omega) l (by simp; exact ⟨hlI, hSa⟩) _ A.length 0 _ _ _ rfl (Nat.zero_le _) ⟨⟨_, k3 _ _ (Ne.symm hlI) hI, rfl, by rw [slot_zero]; rfl⟩, k3 _ _ (Ne.symm hSa) ho2⟩ hL4 (ItemsOf.nil _) fun s' acc' c' hm' hS' hacc => ?_⟩
  show wpAny _ A₀ (load l >>= _) _ _ s'
  refine wpAny_bind (wpAny_load hS' ?_)
  have e1 : acc'.toList = ordOf w a ep A T := by
    refine List.ext_getElem? fun i => ?_
    by_cases q : i < A.length
    · have q' : i < acc'.size := by rw [hacc.1]; exact q
      rw [Array.getElem?_toList]
      have := hacc.2 i acc'[i] (by simp [q'])
      rw [this, Array.getElem?_eq_getElem q']
    · rw [List.getElem?_eq_none (by simp [hacc.1]; omega), List.getElem?_eq_none (by rw [ord_len]; omega)]
  refine wpAny_pure ?_
  rw [e1]
  obtain ⟨h', g', d', tk', os'⟩ := s'
  have eg := hm'.gens
  have ed := hm'.drawn
  have eo := hm'.os
  simp only at eg ed eo
  subst eg; subst ed; subst eo
  refine h h' tk' fun b x e => hm'.heap b x (fun hb => ?_) (k3 b x (hsl b x e) (k2 b x e))
  rcases List.mem_cons.mp hb with q | q
  · exact hsl b x e q
  · have := Heap.lt_size e
    rw [List.mem_singleton.mp q] at this
    exact absurd this (Nat.not_lt.mpr hIs)
theorem ord_ints {A : List Nat} (w : World) (a ep : Nat) (T : Nat → Tok) : ∃ ns : List Int, IntsAre (ordOf w a ep A T) ns ∧ ns.Perm (A.map fun (c : Nat) => (c : Int)) := by
  have p := ord_perm w a ep A T
  refine ⟨(ordOf w a ep A T).map fun v => match v with | .int i _ => i | _ => 0, ?_, ?_⟩
  · have : ∀ l : List Value, (∀ v ∈ l, ∃ c t, v = Value.int c t) → IntsAre l (l.map fun v => match v with | .int i _ => i | _ => 0) := by
      intro l
      induction l with
      | nil => intro _; exact .nil
      | cons v r ih =>
        intro hv
        obtain ⟨c, t, rfl⟩ := hv _ (.head _)
        exact .cons _ _ (ih fun v' h' => hv v' (.tail _ h'))
    refine this _ fun v hv => ?_
    have := p.mem_iff.mp hv
    rw [List.mem_map] at this
    obtain ⟨c, _, rfl⟩ := this
    exact ⟨_, _, rfl⟩
  · refine (p.map _).trans ?_
    rw [List.map_map]
    exact .refl _
theorem sorted_set {Q : Value → Shared → Prop} (hA : A ∈ subs) (hR : Room A₀ 4) (hm : MM m mv) (ho : s.heap.get? a = some o) (hc : o.cls = .type "set") (hd : o.data = .set (ents A T) ep (tab (byText w) m mv A))
    (h : ∀ l h' tk (out : Array Value) (ns' : List Int), (∀ b x, s.heap.get? b = some x → h'.get? b = some x) → s.heap.get? l = none → h'.IsList l out → IntsAre out.toList ns' → ns'.Perm (A.map fun (c : Nat) => (c : Int)) → ns'.Pairwise (· ≤ ·) → Q (.ref l) { s with heap := h', toks := tk }) :
    wpAny (model prog w) A₀ (call (.builtin "sorted") [.ref a]) Q E s := by
  refine Calls.call_function_entry kind_sorted plain_sorted entry_sorted (args_sorted1 _) ?_
  unfold Builtin.«sorted»
  refine wpAny_bind (m := checkCount "sorted" 1 1 _) (wpAny_pure ?_)
  refine wpAny_bind (collect_set (Room.handled (n := 0) (by walk_at "my room")) hA hm ho hc hd fun h1 tk k1 => ?_)
  obtain ⟨ns, hI, hp⟩ := ord_ints (A := A) w a ep T
  have hlen : (ordOf w a ep A T).length = A.length := ord_len
  have h4 := sub_len hA
  generalize ordOf w a ep A T = vs at hI hlen ⊢
  refine wpAny_bind (wpAny_newList ?_ (by rw [hlen, sizeLine_eq]; omega))
  have hoL : (h1.push (seqObj "list" vs.toArray 0)).get? h1.objs.size = some (seqObj "list" vs.toArray 0) := Heap.get?_push_size _ rfl
  show wpAny _ _ _ _ _ { s with heap := h1.push (seqObj "list" vs.toArray 0), toks := tk }
  refine wpAny_bind (wpAny_holding (wpAny_call_entry slot_list_sort ⟨_, hoL, rfl⟩ entry_list_sort (list_sort_tree (s := { s with heap := h1.push (seqObj "list" vs.toArray 0), toks := tk }) hoL hI (by omega) fun out ns' a1 a2 a3 => ⟨_, rfl, ?_⟩) (args_list_sort _)))
  have hlt : s.heap.get? h1.objs.size = none := by
    cases q : s.heap.get? h1.objs.size with
    | none => rfl
    | some o' => exact absurd (Heap.lt_size (k1 _ _ q)) (Nat.lt_irrefl _)
  refine wpAny_pure ⟨_, rfl, h _ _ tk out ns' (fun b x e => ?_) hlt ?_ a1 (a2.trans hp) a3⟩
  · have hb := Heap.lt_size (k1 b x e)
    rw [sortedHeap_old (Nat.ne_of_lt hb) (by rw [Heap.size_push]; exact Nat.lt_succ_of_lt hb)]
    exact Heap.get?_push_of_some _ (k1 b x e)
  · obtain ⟨e, he⟩ := sortedHeap_at (out := out) hoL
    exact ⟨_, he, rfl, e, rfl⟩
end
end
section
section
variable {prog : Program} {w : World} {A₀ : Around} {s : Shared} {E : Value → Shared → Prop} {a O : Addr} {oa oo : Obj} {A B : List Nat}
theorem entry_set_or : entryFor table "set.__or__" = some Builtin.«frozenset.__or__» := entryFor_alias (id' := "frozenset.__or__") ((fastTable_eq_tree _).trans (by kernel_rfl)) rfl (by decide +kernel) ((fastTable_eq_tree _).trans (by kernel_rfl))
theorem kind_set_or : builtinKind "set.__or__" = some .slot := by decide +kernel
theorem split_set_or : splitId "set.__or__" = some ("set", "__or__") := by decide +kernel
theorem set_or {Q : Value → Shared → Prop} (hA : A ∈ subs) (hB : B ∈ subs) (hca : oa.cls = .type "set") (hcO : oo.cls = .type "set") (hne : O ≠ a)
    (ha : HasSet (byText w) 7 0 oa s.heap a A) (hO : HasSet (byText w) 7 0 oo s.heap O B)
    (h : ∀ r h' tk C m mv, MM m mv → (∀ b o, s.heap.get? b = some o → h'.get? b = some o) → s.heap.get? r = none → HasSet (byText w) m mv plainO h' r C → C ∈ subs → (∀ x, x ∈ C ↔ x ∈ A ∨ x ∈ B) → Q (.ref r) { s with heap := h', toks := tk }) :
    wpAny (model prog w) A₀ (binaryOp .BitOr (.ref a) (.ref O)) Q E s := by
  obtain ⟨hh, g, d, t, os⟩ := s
  have ha' := ha
  have hO' := hO
  obtain ⟨TA, epA, hoa⟩ := ha'
  obtain ⟨TB, epB, hoO⟩ := hO'
  have Sa : IsSet (model prog w) hh a := isSet_plain hoa hca
  have SO : IsSet (model prog w) hh O := isSet_plain hoO hcO
  have La : Looks (model prog w) hh (typeOf (.ref a)) (.type "set") := type_at hoa hca
  have LO : Looks (model prog w) hh (typeOf (.ref O)) (.type "set") := type_at hoO hcO
  have L3 : Looks (model prog w) hh (fillsNumberSlot (.type "set") "or") true := Looks.of_pure PySem.F.fills_set_or
  have LS : Looks (model prog w) hh (specialOf (.ref a) (PySem.dunder "or")) (some (.builtin "set.__or__")) := La.andThen (Looks.of_pure PySem.F.slot_set_or.lookup)
  have LB : Looks (model prog w) hh (bindSpecial (.builtin "set.__or__") (.ref a)) (.builtin "set.__or__", [.ref a]) := Looks.of_pure (PySem.F.slot_set_or.bind _)
  have body : wpAny (model prog w) A₀ (call (.builtin "set.__or__") [.ref a, .ref O]) (fun v s' => v ≠ .notImplemented ∧ ∃ v', some v = some v' ∧ Q v' s') E ⟨hh, g, d, t, os⟩ := by
    refine wpAny_call (codeAny_call_builtin PySem.F.slot_set_or.plain entry_set_or (@check_slot (model prog w) _ _ ⟨hh, g, d, t, os⟩ "set.__or__" "set" "__or__" (.ref a) [.ref O] [] _ kind_set_or split_set_or Sa.inst (PySem.F.args_set_or_2 _ _) ?_))
    unfold Builtin.«frozenset.__or__»
    k_delta "binary"
    dsimp only
    refine wpAny_bind (wpAny_pure ?_)
    dsimp only
    simp only [Bool.false_eq_true, if_false]
    unfold Builtin.Frozenset.isAnySet
    refine wpAny_bind (wpAny_bind (wpAny_bind (m := isInstance (.ref a) (.type "set")) (Sa.inst.here (wpAny_pure ?_))))
    refine wpAny_bind (m := isInstance (.ref O) (.type "set")) (SO.inst.here (wpAny_pure ?_))
    simp only [Bool.not_true, Bool.false_eq_true, if_false]
    refine wpAny_bind (wpAny_pure (wpAny_bind ?_))
    k_delta "union"
    refine wpAny_bind ?_
    unfold Builtin.Frozenset.copyOf
    refine wpAny_bind (base_of Sa (wpAny_bind (new_set ?_)))
    have hS := newS_has w hh
    have hk := newS_keep w hh
    have hno := no_at hh
    have hra : hh.objs.size ≠ a := Ne.symm (Nat.ne_of_lt (Heap.lt_size hoa))
    have hrO : hh.objs.size ≠ O := Ne.symm (Nat.ne_of_lt (Heap.lt_size hoO))
    show wpAny _ _ _ _ _ ⟨newS w hh, g, d, t, os⟩
    generalize hh.objs.size = r at hS hno hra hrO ⊢
    generalize newS w hh = h1 at hS hk ⊢
    refine wpAny_bind (wpAny_pure ?_)
    refine wpAny_bind (merge_first (s := ⟨h1, g, d, t, os⟩) hA hra ⟨_, _, hk _ _ hoa⟩ hS fun h2 sb hS2 => ?_)
    refine wpAny_pure ?_
    have k2 : ∀ b o, hh.get? b = some o → h2.get? b = some o := fun b o e => (sb.2 b (fun q => by rw [q, hno] at e; cases e)).trans (hk b o e)
    rw [if_pos (by simpa using hne)]
    refine wpAny_bind (wpAny_pure (wpAny_bind (wpAny_holding ?_)))
    unfold Builtin.Frozenset.updateFrom Builtin.Frozenset.isAnySet
    refine wpAny_bind (wpAny_bind (m := isInstance (.ref O) (.type "set")) ((SO.inst.keeps k2).here ?_))
    simp only [if_true]
    refine wpAny_pure ?_
    simp only [if_true]
    refine wpAny_bind (wpAny_pure ?_)
    refine merge_set (s := ⟨h2, g, d, t, os⟩) hA hB hrO ⟨_, _, k2 _ _ hoO⟩ hS2 fun h3 tk C m mv hm k3 hr3 hC hx => wpAny_pure (wpAny_pure ?_)
    exact ⟨ne_of_ref, _, rfl, h r h3 tk C m mv hm (fun b o e => k3 b o (fun q => by rw [q, hno] at e; cases e) (k2 b o e)) hno hr3 hC hx⟩
  have one := try_special (Q := fun r s' => ∃ v', r = some v' ∧ Q v' s') (tp := .none) LS LB body
  refine bin_of_op1 (sym := "|") (nm := "or") rfl ?_
  exact op1_same La LO L3 one
end
end
section
open PySem.Builtin in
def ownIn (K : Frag) : Bool := match K.lookup 75 with
  | some ⟨_, _, .cls cd, sl⟩ => !cd.hasDel && (sl.toList[4]?).join == some (.builtin "set.__new__") && !cd.mro.isEmpty && cd.mro.contains (.ref 75) && cd.mro.contains (.type "set") &&
      specialIn K (.ref 75) "__call__" == some (some (.builtin "type.__call__")) && instIn K (.ref 75) (.type "type") == some true
  | _ => false
structure OwnMakes (M : Model) (h : Heap) : Prop where
  obj : ∃ oc od cd sl, h.get? 75 = some ⟨oc, od, .cls cd, sl⟩ ∧ cd.hasDel = false ∧ cd.mro.isEmpty = false
  made : Looks M h (Bind.madeBy (.ref 75)) (some "set.__new__")
  base : Looks M h (Bind.staticBase (.ref 75)) (.ref 75)
  self : Looks M h (isSubtype (.ref 75) (.ref 75)) true
  top : Looks M h (isSubtype (.ref 75) (.type "set")) true
  call : Looks M h (specialOf (.ref 75) "__call__") (some (.builtin "type.__call__"))
  typ : Looks M h (isInstance (.ref 75) (.type "type")) true
theorem ownMakes_of {K : Frag} {M : Model} {h : Heap} (X : K.In h) (e : ownIn K = true) : OwnMakes M h := by
  unfold ownIn at e
  split at e
  · rename_i oc od cd sl ho
    simp only [Bool.and_eq_true, Bool.not_eq_true', beq_iff_eq] at e
    obtain ⟨⟨⟨⟨⟨⟨e2, e3⟩, e4⟩, e5⟩, e6⟩, e7⟩, e8⟩ := e
    have hc : clsIn K 75 = some cd := by unfold clsIn; rw [ho]
    have hm : Looks M h (mroOf (.ref 75)) cd.mro := (looks_clsIn X hc).andThen .now
    obtain ⟨c, l, hl⟩ : ∃ c l, cd.mro = c :: l := by cases q : cd.mro with | nil => rw [q] at e4; cases e4 | cons c l => exact ⟨c, l, rfl⟩
    have made : Looks M h (Bind.madeBy (.ref 75)) (some "set.__new__") := by
      intro A Q E s k q
      unfold Bind.madeBy
      refine wpAny_bind (hm A _ E s k ?_)
      rw [hl, List.forIn_cons]
      refine wpAny_bind (wpAny_bind (wpAny_bind (wpAny_bind (wpAny_loadPart (k _ _ (X _ _ ho)) (wpAny_pure ?_)))))
      dsimp only
      rw [← Array.getElem?_toList, e3]
      exact wpAny_pure (wpAny_pure (wpAny_pure q))
    refine ⟨⟨oc, od, cd, sl, X _ _ ho, e2, e4⟩, made, ?_, looks_mroIn X ?_, looks_mroIn X ?_, looks_specialIn X e7, looks_instIn X e8⟩
    · intro A Q E s k q
      unfold Bind.staticBase
      refine wpAny_bind (hm A _ E s k ?_)
      rw [hl, List.forIn_cons]
      exact wpAny_bind (wpAny_bind (wpAny_bind (made A _ E s k (wpAny_pure (wpAny_pure (wpAny_pure q))))))
    · unfold mroIn; rw [hc, Option.bind_some, if_neg (by rw [e4]; decide), e5]
    · unfold mroIn; rw [hc, Option.bind_some, if_neg (by rw [e4]; decide), e6]
  · cases e
theorem own_in : ∀ p, ownIn (Mine.hd.heap_39 p) = true := fun p => by kernel_rfl
def ownO (dx : Addr) : Obj := { cls := .ref 75, dict := some dx, data := .plain }
def newOwn (w : World) (h : Heap) : Heap := (h.push { cls := .type "dict", data := .dict #[] }).push { ownO h.objs.size with data := .set (ents [] fun _ => 0) 0 (tab (byText w) 7 0 []) }
theorem entry_set_new' : entryFor table "set.__new__" = some Builtin.«set.__new__» := PySem.F.entry_set_new
theorem kind_set_new : builtinKind "set.__new__" = some .builtinFn := by decide +kernel
theorem split_set_new : splitId "set.__new__" = some ("set", "__new__") := by decide +kernel
section
variable {prog : Program} {w : World} {A : Around} {R : Result → Shared → Prop} {h : Heap} {g : Array GenState} {d : Drawn} {t : Nat} {os : OsState}
theorem new_own {rest : List Value} {kw : List (Str × Value)} {h1 : Heap} (hh : newOwn w h = h1) (Y : OwnMakes (model prog w) h)
    (hq : R (.ok (.ret (.ref (h.objs.size + 1)))) ⟨h1, g, d, t, os⟩) :
    codeAny (model prog w) A (.call (.builtin "set.__new__") ⟨.ref 75 :: rest, kw⟩) R ⟨h, g, d, t, os⟩ := by
  obtain ⟨⟨oc, od, cd, sl, hC, e2, e4⟩, made, base, self, top, call, typ⟩ := Y
  refine codeAny_call_builtin_code (Code.quiet_builtin _ (by decide +kernel)) ?_
  have hao : argsOk "set.__new__" ⟨.ref 75 :: rest, kw⟩ := by unfold argsOk; kernel_rfl
  have ht : Looks (model prog w) h (isType (.ref 75)) true := (Looks.ld hC).andThen .now
  have chk : wpAny (model prog w) A.in1 (checkBuiltinCall "set.__new__" ⟨.ref 75 :: rest, kw⟩) (fun _ s' => s' = ⟨h, g, d, t, os⟩) (fun _ _ => False) ⟨h, g, d, t, os⟩ := by
    simp only [checkBuiltinCall, kind_set_new, split_set_new]
    rw [if_pos (by decide)]
    refine wpAny_bind (ht.at ?_)
    simp only [Bool.not_true, Bool.false_eq_true, if_false]
    refine wpAny_bind (top.at ?_)
    simp only [Bool.not_true, Bool.false_eq_true, if_false]
    refine wpAny_bind (base.at ?_)
    refine wpAny_bind (made.at ?_)
    simp only [bne_self_eq_false, Bool.false_eq_true, if_false]
    cases hsig : Manifest.signature? "set.__new__" with
    | none => exact wpAny_pure rfl
    | some sig =>
      simp only [argsOk, hsig] at hao
      have h2 : Bind.checkArgs "set.__new__" sig ⟨.ref 75 :: rest, kw⟩ = pure () := hao
      show wpAny _ _ (Bind.checkArgs "set.__new__" sig ⟨.ref 75 :: rest, kw⟩) _ _ _
      rw [h2]; exact wpAny_pure rfl
  refine wpAny_mono chk (fun _ s' e => ?_) (fun _ _ e => e.elim)
  subst e
  refine codeAny_builtin entry_set_new' ?_
  rw [Around.under_plainId PySem.F.plain_set_new _]
  unfold Builtin.«set.__new__» Builtin.Frozenset.newClass
  refine wpAny_bind (wpAny_bind (ht.at ?_))
  simp only [Bool.not_true, Bool.false_eq_true, if_false]
  refine wpAny_bind (top.at ?_)
  simp only [Bool.not_true, Bool.false_eq_true, if_false]
  refine wpAny_pure ?_
  refine wpAny_bind ?_
  unfold newSet
  refine wpAny_bind (set_byText ?_)
  dsimp only
  refine wpAny_bind (wpAny_alloc ?_)
  unfold newObj
  dsimp only
  rw [if_neg (by decide +kernel)]
  unfold newObjAsIs classHasDel
  refine wpAny_bind (wpAny_alloc (wpAny_bind (wpAny_bind (wpAny_load (Heap.get?_push_of_some _ (Heap.get?_push_of_some _ hC)) (wpAny_pure ?_)))))
  rw [e2]
  simp only [Bool.false_eq_true, if_false]
  refine wpAny_pure (wpAny_pure ?_)
  subst hh
  rw [show (h.push { cls := Value.type "dict", data := Data.dict #[] }).objs.size = h.objs.size + 1 from Heap.size_push ..]
  exact hq
end
end
section
open PySem.Builtin PyProof.V in
section
variable {prog : Program} {w : World} {A : Around} {R : Result → Shared → Prop} {h : Heap} {g : Array GenState} {d : Drawn} {t : Nat} {os : OsState}
theorem newOwn_at (w : World) (h : Heap) : (newOwn w h).get? (h.objs.size + 1) = some { ownO h.objs.size with data := .set (ents [] fun _ => 0) 0 (tab (byText w) 7 0 []) } := by
  unfold newOwn
  rw [← show (h.push { cls := Value.type "dict", data := Data.dict #[] }).objs.size = h.objs.size + 1 from Heap.size_push ..]
  exact Heap.get?_push_size _ rfl
theorem newOwn_dict (w : World) (h : Heap) : (newOwn w h).get? h.objs.size = some { cls := .type "dict", data := .dict #[] } := Heap.get?_push_of_some _ (Heap.get?_push_size _ rfl)
theorem newOwn_keep (w : World) (h : Heap) : ∀ b o, h.get? b = some o → (newOwn w h).get? b = some o := fun _ _ e => Heap.get?_push_of_some _ (Heap.get?_push_of_some _ e)
theorem newOwn_has (w : World) (h : Heap) : HasSet (byText w) 7 0 (ownO h.objs.size) (newOwn w h) (h.objs.size + 1) [] := ⟨_, _, newOwn_at w h⟩
theorem make_own {rest : List Value} {kw : List (Str × Value)} {init : Value} {h1 : Heap} (hh : newOwn w h = h1) (Y : OwnMakes (model prog w) h) (hi : Looks (model prog w) h (typeLookup (.ref 75) "__init__") (some init))
    (hb : ∀ self, Looks (model prog w) h (bindSpecial init self) (init, [self]))
    (hq : codeAny (model prog w) (A.under (.builtin "type.__call__" ⟨.ref 75 :: rest, kw⟩)) (.call init ⟨.ref (h.objs.size + 1) :: rest, kw⟩) (InitBack (h.objs.size + 1) R) ⟨h1, g, d, t, os⟩) :
    codeAny (model prog w) A (.call (.ref 75) ⟨rest, kw⟩) R ⟨h, g, d, t, os⟩ := by
  have Y' := Y
  obtain ⟨⟨oc, od, cd, sl, hC, e2, e4⟩, made, base, self, top, call, typ⟩ := Y
  refine codeAny_of_tree ?_
  show wpAny _ _ (callAny (.ref 75) _) _ _ _
  refine nd_load hC ?_
  show wpAny _ _ (callAny.viaDunder (.ref 75) _) _ _ _
  unfold callAny.viaDunder
  refine wpAny_bind (call.at ?_)
  dsimp only
  rw [tc_bind]
  refine wpAny_bind (wpAny_pure (wpAny_bind (wpAny_pure ?_)))
  refine wpAny_pure (a := Fin.again (.call (.builtin "type.__call__") ⟨.ref 75 :: rest, kw⟩)) (And.intro rfl ?_)
  refine codeAny_call_builtin_at (Code.quiet_builtin _ (by decide +kernel)) entry_typeCall ?_
  with_reducible refine check_slot tc_kind tc_split typ (tc_args _ _ _) ?_
  unfold Builtin.«type.__call__»
  have hm : Looks (model prog w) h (mroOf (.ref 75)) cd.mro := ((Looks.ld (part := none) hC).andThen .now).andThen .now
  repeat (first | simp only [e4, Bool.false_eq_true, if_false] | with_reducible refine wpAny_call ?_ | lk)
  refine new_own hh Y' ?_
  have k : ∀ b o, h.get? b = some o → h1.get? b = some o := by subst hh; exact newOwn_keep w h
  have hx : ∃ o, h1.get? (h.objs.size + 1) = some o ∧ o.cls = .ref 75 := by subst hh; exact ⟨_, newOwn_at w h, rfl⟩
  obtain ⟨ox, hx, hxc⟩ := hx
  have t1 : Looks (model prog w) h1 (typeOf (.ref (h.objs.size + 1))) (.ref 75) := type_at hx hxc
  have s1 := self.keeps k
  have i1 := hi.keeps k
  have b1 := (hb (.ref (h.objs.size + 1))).keeps k
  unfold isInstance callSpecial? specialOf
  repeat (first | with_reducible refine wpAny_call ?_ | lk)
  refine codeAny_mono hq fun r s' z => ?_
  rcases r with e | (v | _ | _ | _) <;> first | exact z | exact z.elim | skip
  obtain ⟨rfl, z⟩ := z
  exact wpAny_pure (wpAny_pure z)
end
end
section
section
variable {prog : Program} {w : World} {A : Around} {s : Shared} {K : Frag} {p : Program} {loose : List Str} {mg mb : Str → Option Value} {b : Heap} {news : List (Addr × Obj)}
  {R : Result → Shared → Prop} {name qual : Str} {params : Arguments} {body : List Stmt} {scope : Scope} {cl : List (Str × Addr)} {dV kV doc pm cdv ct oc : Value} {an od : Option Addr} {osl : Array (Option Value)} {f : Addr} {args : Args} {x1 x2 n : Str} {v1 v2 v : Value}
/-- a call of a function with a closure and one cell of its own, that takes two locals and the cell -/
theorem call_clo (X : K.In b) (T : TopRead p loose mg mb b) (hb : ∀ a o, b.get? a = some o → s.heap.get? a = some o) (hsz : b.objs.size ≤ s.heap.objs.size) (hn : ∀ p ∈ news, s.heap.get? p.1 = some p.2 ∧ b.get? p.1 = none)
    (ho : K.lookup f = some ⟨oc, od, .func (fnX name qual params body scope cl dV kV doc pm an cdv ct), osl⟩) (hcd : codeIn K cdv qual = true) (hroom : A.depth < recursionLimit)
    (hbind : BindsTo s (fnX name qual params body scope cl dV kV doc pm an cdv ct) args [(x1, v1), (x2, v2), (n, v)])
    (k1 : scope.names.lookup x1 = some .local) (k2 : scope.names.lookup x2 = some .local) (kn : scope.names.lookup n = some .cell)
    (hcf : ∀ k, cellsFrom k scope.names cl = (n, k) :: cl) (hpc : ∀ h, pushCells h scope.names = h.push { cls := .type "cell", data := .cell none })
    (h : ∀ L h₁ tk oc, Fr b L h₁ (fun y => if y = x2 then some v2 else if y = x1 then some v1 else none) → News b L h₁ ((L + 1, oc) :: news) → oc.data = .cell (some v) → (∀ p ∈ news, p.1 < L) → b.objs.size ≤ L →
      PySem.wpAt (model prog w) (A.deeper (envX qual scope L f cdv ((n, L + 1) :: cl))) (.func body (envX qual scope L f cdv ((n, L + 1) :: cl))) (execs body (envX qual scope L f cdv ((n, L + 1) :: cl)))
        (fun fl s' => R (.ok (.ret (match fl with | .ret v => v | _ => .none))) s')
        (fun _ _ => False)
        { s with heap := h₁, toks := tk })
    (hco : scope.isCoroutine = false) (hgen : scope.isGenerator = false) (hk : scope.kind = .function) : codeAny (model prog w) A (.call (.ref f) args) R s := by
  have X' : K.In s.heap := X.keeps hb
  have T' := T.keeps hb
  refine codeAny_call_function hroom (X' _ _ ho) rfl hco hgen rfl (codeRec_of X' hcd) (hbind _ _ _ _ ?_)
  show wpAny _ _ (newFunctionEnv scope mainGlobals cl _ _ _ _ _ _) _ _ _
  simp only [newFunctionEnv, Option.isSome_none, Bool.false_eq_true, if_false]
  refine wpAny_bind (wpAny_alloc ?_)
  refine wpAny_bind (wpAny_layCells _ (fun name kind cells => by cases hkc : kind == NameKind.cell <;> simp [hkc]) _ _ _ _ ?_)
  rw [show ({ s with heap := s.heap.push { cls := .type "frame", data := .dict #[] } } : Shared).heap.objs.size = s.heap.objs.size + 1 from Heap.size_push .., hcf, hpc]
  have hL : (s.heap.push { cls := .type "frame", data := .dict #[] }).objs.size = s.heap.objs.size + 1 := Heap.size_push ..
  have F0 : Fr b s.heap.objs.size ((s.heap.push { cls := .type "frame", data := .dict #[] }).push { cls := .type "cell", data := .cell none }) (fun _ => none) :=
    ⟨(Heap.Ns.new s.heap (.type "frame")).keeps fun a o e => Heap.get?_push_of_some _ e, fun a o e => Heap.get?_push_of_some _ (Heap.get?_push_of_some _ (hb a o e)), hsz⟩
  have hbn : ∀ a, b.objs.size ≤ a → b.get? a = none := fun a ha => by
    cases q : b.get? a with
    | none => rfl
    | some o => exact absurd (Heap.lt_size q) (Nat.not_lt.mpr ha)
  have N0 : News b s.heap.objs.size ((s.heap.push { cls := .type "frame", data := .dict #[] }).push { cls := .type "cell", data := .cell none }) ((s.heap.objs.size + 1, { cls := .type "cell", data := .cell none }) :: news) := by
    intro p hp
    rcases List.mem_cons.mp hp with rfl | hp
    · exact ⟨by rw [← hL]; exact Heap.get?_push_size _ rfl, Nat.succ_ne_self _, hbn _ (Nat.le_succ_of_le hsz)⟩
    · exact ⟨Heap.get?_push_of_some _ (Heap.get?_push_of_some _ (hn p hp).1), Nat.ne_of_lt (Heap.lt_size (hn p hp).1), (hn p hp).2⟩
  have hnl : ∀ p ∈ news, p.1 < s.heap.objs.size := fun p hp => Heap.lt_size (hn p hp).1
  generalize s.heap.objs.size = L at F0 N0 hnl hsz ⊢
  generalize (s.heap.push { cls := .type "frame", data := .dict #[] }).push { cls := .type "cell", data := .cell none } = h0 at F0 N0 ⊢
  have K1 : (envX qual scope L f cdv ((n, L + 1) :: cl)).kindOf x1 = some .local := k1
  have K2 : (envX qual scope L f cdv ((n, L + 1) :: cl)).kindOf x2 = some .local := k2
  have Kn : (envX qual scope L f cdv ((n, L + 1) :: cl)).kindOf n = some .cell := kn
  have hlk : ((n, L + 1) :: cl).lookup n = some (L + 1) := by rw [List.lookup_cons, beq_self_eq_true]
  dsimp only
  rw [List.forIn_cons]
  refine wpAny_bind (wpAny_bind (wpAny_bind (storeX_L (cl := (n, L + 1) :: cl) (cn := qual) (cs := scope) (a := f) (ccd := cdv) F0 N0 (fun h1 F1 N1 => wpAny_pure ?_) hk K1)))
  dsimp only
  rw [List.forIn_cons]
  refine wpAny_bind (wpAny_bind (storeX_L (cl := (n, L + 1) :: cl) (cn := qual) (cs := scope) (a := f) (ccd := cdv) F1 N1 (fun h2 F2 N2 => wpAny_pure ?_) hk K2))
  dsimp only
  rw [List.forIn_cons]
  refine wpAny_bind (wpAny_bind (storeX_C (cl := (n, L + 1) :: cl) (cn := qual) (cs := scope) (a := f) (ccd := cdv) F2 N2 hlk (.head fun p hp => Nat.ne_of_lt (Nat.lt_succ_of_lt (hnl p hp))) rfl (fun h3 o' F3 N3 hd => wpAny_pure ?_) hk Kn))
  dsimp only
  rw [List.forIn_nil]
  refine wpAny_pure (wpAny_pure ⟨(T.keeps F3.keep).nolimit, ks_codeAny_funcAt ?_⟩)
  exact ks_wpAt_mono (h L h3 _ o' F3 N3 hd hnl hsz) (fun _ _ q => q) fun _ _ q => q.elim
end
end
section
theorem slot_wd_get : Slot "wrapper_descriptor" "__get__" "wrapper_descriptor.__get__" := .of (owner := "wrapper_descriptor") (n := "__get__") (by rw [typeLookup_type, builtinLookup_eq_fast]; kernel_rfl) (by decide +kernel) (by decide +kernel) (by decide +kernel)
    (by first | exact .inl (by decide +kernel) | exact .inr (by decide +kernel)) (by rw [isSubtype_type]; kernel_rfl)
theorem type_set_init : typeOf (.builtin "set.__init__") = pure (.type "wrapper_descriptor") := by show builtinType _ = _; rw [builtinType_eq_fast]; kernel_rfl
theorem entry_wd_get : entryFor table "wrapper_descriptor.__get__" = some Builtin.«wrapper_descriptor.__get__» := entryFor_of_tree (by kernel_rfl)
theorem kind_wd_get : builtinKind "wrapper_descriptor.__get__" = some .slot := by decide +kernel
theorem split_wd_get : splitId "wrapper_descriptor.__get__" = some ("wrapper_descriptor", "__get__") := by decide +kernel
theorem args_wd_get (a b c : Value) : argsOk "wrapper_descriptor.__get__" ⟨[a, b, c], []⟩ := by unfold argsOk; kernel_rfl
section
variable {prog : Program} {w : World} {A : Around} {E : Value → Shared → Prop} {s : Shared}
def mwO (x : Addr) : Obj := { cls := .type "method-wrapper", data := .fields #[.builtin "set.__init__", .ref x] }
theorem code_wd_get {x : Addr} {c : Value} {R : Result → Shared → Prop} (hi : Looks (model prog w) s.heap (isInstance (.ref x) (.type "set")) true) (h : R (.ok (.ret (.ref s.heap.objs.size))) { s with heap := s.heap.push (mwO x) }) (hc : c ≠ .none) :
    codeAny (model prog w) A (.call (.builtin "wrapper_descriptor.__get__") ⟨[.builtin "set.__init__", .ref x, c], []⟩) R s := by
  have L : Looks (model prog w) s.heap (isInstance (.builtin "set.__init__") (.type "wrapper_descriptor")) true := (Looks.of_pure type_set_init : Looks (model prog w) s.heap _ _).andThen (Looks.of_pure (by rw [isSubtype_type]; kernel_rfl))
  refine (codeAny_call_builtin slot_wd_get.plain entry_wd_get (@check_slot (model prog w) _ _ s "wrapper_descriptor.__get__" "wrapper_descriptor" "__get__" (.builtin "set.__init__") [.ref x, c] [] _ kind_wd_get split_wd_get L (args_wd_get _ _ _) ?_))
  unfold Builtin.«wrapper_descriptor.__get__»
  k_delta "getArgs"
  have e1 : (Value.ref x == Value.none) = false := rfl
  have e2 : (c == Value.none) = false := by simpa using hc
  simp only [List.isEmpty_nil, Bool.not_true, Bool.false_eq_true, if_false, e1, e2, pure_bind, Option.isNone_some, Bool.false_and]
  k_delta "bindBuiltin"
  k_delta "checkInstance"
  k_delta "nameAndClass"
  k_delta "ownerAndName"
  have e3 : "set.__init__".cutAt '.' = ["set", "__init__"] := by decide +kernel
  dsimp only
  rw [e3]
  have e4 : ".".intercalate ["set", "__init__"].dropLast = "set" := by decide +kernel
  rw [e4]
  refine wpAny_bind (wpAny_bind (wpAny_pure ?_))
  dsimp only
  refine wpAny_bind (hi.here ?_)
  simp only [Bool.not_true, Bool.false_eq_true, if_false]
  refine wpAny_pure ?_
  unfold newFields
  exact wpAny_bind (wpAny_newObj_type (wpAny_pure h) (by size_fits))
theorem get_super_init {so D x C : Addr} {l₀ l : List Value} {K : Frag} {pl : Sem Bool} {h : Heap} {g : Array GenState} {d : Drawn} {t : Nat} {os : OsState} {Q : Value × List Value → Shared → Prop}
    (hso : h.get? so = some { cls := .type "super", dict := none, data := .fields #[.ref D, .ref x, .ref C], slots := #[] }) (hno : Looks (model prog w) h (opaqueClassAbove (.ref C)) none)
    (hC : Looks (model prog w) h (mroOf (.ref C)) l₀) (hl : (l₀.dropWhile (· != .ref D)).drop 1 = l) (X : K.In h)
    (hf : alongIn K "__init__" l = some (some (.builtin "set.__init__"))) (hi : Looks (model prog w) h (isInstance (.ref x) (.type "set")) true) (hxC : x ≠ C)
    (hq : Q (.ref h.objs.size, []) ⟨h.push (mwO x), g, d, t + 1, os⟩) :
    wpAny (model prog w) A (getMethod (.ref so) "__init__" pl) Q E ⟨h, g, d, t, os⟩ := by
  have ga : ∀ tk (Q' : Fin → Shared → Prop) (E : Value → Shared → Prop), Q' (.done (.ret (.ref h.objs.size))) ⟨h.push (mwO x), g, d, t + 1, os⟩ →
      wpAny (model prog w) A.in1 (Builtin.«super.__getattribute__» ⟨[.ref so, .str "__init__" tk], []⟩) Q' E ⟨h, g, d, t + 1, os⟩ := by
    intro tk Q' E hq'
    have hlk := slot_wd_get.lookup
    have hne : (Value.ref x == Value.ref C) = false := by simp [hxC]
    have hn : (("__init__" : Str) == ("__class__" : Str)) = false := by decide
    have hdt : ({ cls := .type "super", dict := none, data := .fields #[.ref D, .ref x, .ref C], slots := #[] } : Obj).data = .fields #[.ref D, .ref x, .ref C] := rfl
    have f0 : (#[.ref D, .ref x, .ref C] : Array Value)[0]? = some (.ref D) := rfl
    have f1 : (#[.ref D, .ref x, .ref C] : Array Value)[1]? = some (.ref x) := rfl
    have f2 : (#[.ref D, .ref x, .ref C] : Array Value)[2]? = some (.ref C) := rfl
    have hts := type_set_init
    unfold Builtin.«super.__getattribute__»
    repeat (first
      | (with_reducible refine wpAny_field hso hdt f0 ?_) | (with_reducible refine wpAny_field hso hdt f1 ?_) | (with_reducible refine wpAny_field hso hdt f2 ?_)
      | (with_reducible refine ks_wpAny_notOpaque hno ?_)
      | (with_reducible refine Looks.at hC ?_; rw [hl])
      | (refine ks_forIn_along X (fun _ _ => rfl) rfl ?_ hf)
      | (with_reducible refine code_wd_get hi ?_ (fun e => by cases e))
      | (with_reducible refine ⟨_, rfl, ?_⟩)
      | (simp only [hn, hne, Bool.or_false, Bool.false_eq_true, if_false])
      | wp_step
      | dsimp only)
    all_goals exact hq'
  have hlk := PySem.F.ks_slot_super_ga.lookup
  have hcan := PySem.F.ks_canon_super_ga
  have hT : ∀ t', (⟨h, g, d, t', os⟩ : Shared).TypeIs (.ref so) "super" := fun _ => ⟨_, hso, rfl⟩
  unfold getMethod
  refine wpAny_bind (wpAny_specialOf (hT _) hlk ?_)
  show wpAny _ _ (if (Manifest.canonical "super.__getattribute__" != "object.__getattribute__") = true then _ else _) _ _ _
  rw [if_pos hcan]
  unfold getAttr getAttrBy
  refine wpAny_bind (wpAny_bind (wpAny_mkText (wpAny_holding (wpAny_bind (wpAny_typeOf (hT _) (wpAny_bind (wpAny_of_eq hlk ?_)))))))
  show wpAny _ _ (getAttrByItsOwn (.ref so) (.str "__init__" t) (.type "super") (.builtin "super.__getattribute__") true false) _ _ _
  unfold getAttrByItsOwn hookBefore callGetattribute boundAndCalled
  refine wpAny_bind (wpAny_of_eq (show (if onTheHeap (.type "super") then typeLookup (.type "super") "__getattr__" else pure none) = pure none from rfl) ?_)
  refine wpAny_bind (wpAny_attempt (wpAny_holding ?_))
  show wpAny _ _ (bindSpecial (.builtin "super.__getattribute__") (.ref so) >>= _) _ _ _
  refine wpAny_bind (wpAny_of_eq (PySem.F.ks_slot_super_ga.bind _) ?_)
  refine wpAny_mono (Q := fun v s' => v = .ref h.objs.size ∧ s' = ⟨h.push (mwO x), g, d, t + 1, os⟩) (E := fun _ _ => False)
    (wpAny_call_entry PySem.F.ks_slot_super_ga (hT _) PySem.F.ks_entry_super_ga (ga _ _ _ ⟨_, rfl, rfl, rfl⟩) (PySem.F.ks_gaArgs_super _ _)) (fun v s' hv => ?_) fun _ _ z => z.elim
  obtain ⟨rfl, rfl⟩ := hv
  exact wpAny_pure (wpAny_pure hq)
/-- the call of a bound set.__init__ -/
theorem call_mw {x mw : Addr} {arg : Value} {Q : Value → Shared → Prop} (hm : s.heap.get? mw = some (mwO x)) (N : Named (model prog w) s.heap x)
    (h : codeAny (model prog w) A (.builtin "set.__init__" ⟨[.ref x, arg], []⟩) (fun r s' => match r with | .ok (.ret v) => Q v s' | .ok _ => False | .error e => E e s') s) :
    wpAny (model prog w) A (call (.ref mw) [arg]) Q E s := by
  refine wpAny_call (codeAny_of_tree ?_)
  show wpAny _ A.in1 (callAny (.ref mw) _) _ _ _
  unfold callAny
  refine wpAny_bind (wpAny_load hm ?_)
  show wpAny _ _ (do checkBoundCall "set.__init__" ⟨[.ref x, arg], []⟩; again (.builtin "set.__init__" ⟨[.ref x, arg], []⟩)) _ _ _
  have key : wpAny (model prog w) A.in1 (checkBoundCall "set.__init__" ⟨[.ref x, arg], []⟩) (fun _ s' => s' = s) (fun _ _ => False) s := by
    obtain ⟨hi, ⟨tp, L1, xx, L2⟩, _⟩ := N
    simp only [checkBoundCall, PySem.kind_set_init, PySem.sig_set_init]
    rw [if_pos (by decide)]
    unfold Bind.checkArgs
    dsimp only
    refine wpAny_bind (m := Bind.printed "set" true _ _) (printed_name (by decide) ?_)
    refine wpAny_bind (m := Bind.printed "*" false _ _) ?_
    unfold Bind.printed Bind.receiverType
    rw [if_neg (by decide)]
    refine wpAny_bind (m := (if (Manifest.Receiver.self == Manifest.Receiver.cls) = true then pure (Value.ref x) else typeOf (Value.ref x))) ?_
    rw [if_neg (by decide)]
    refine L1.here (wpAny_bind (L2.here (wpAny_pure ?_)))
    have hrn : (Manifest.Receiver.self == Manifest.Receiver.none) = false := by decide
    have hn : (if (Manifest.Receiver.self == Manifest.Receiver.none) = true then [Value.ref x, arg].length else [Value.ref x, arg].length - 1) = 1 := by simp [hrn]
    rw [hn]
    simp only [List.map_nil]
    have hk1 : (Manifest.ParamKind.posOnly == Manifest.ParamKind.posOnly) = true := by decide
    have hk2 : (Manifest.ParamKind.posOnly == Manifest.ParamKind.posOrKw) = false := by decide
    have hk3 : (Manifest.ParamKind.posOnly == Manifest.ParamKind.varPos) = false := by decide
    have hc : ∀ short, Bind.check ⟨.positional, "set", "*", .self, [⟨"iterable", .posOnly, false⟩]⟩ "set" short 1 [] = pure () := by
      intro short
      simp [Bind.check, Bind.checkCount, Bind.isPositional, hk1, hk2, hk3]
    rw [hc]
    exact wpAny_pure rfl
  exact wpAny_bind (wpAny_mono key (fun _ s' e => by subst e; exact wpAny_pure ⟨plainId_quiet PySem.F.called_set.init.plain _, h⟩) fun _ _ e => e.elim)
end
end
section
/-- all kept but the table of inner codes (object 52) of CandidateSet.__init__ -/
def Cd56 (h : Heap) : Prop := ∃ o vs, h.get? 56 = some o ∧ o.cls = .type "code" ∧ o.data = .fields vs ∧ vs[11]? = some (.ref 52)
theorem Cd56.mono {h h' : Heap} (x : Cd56 h) (k : ∀ o, h.get? 56 = some o → h'.get? 56 = some o) : Cd56 h' := let ⟨o, vs, a, r⟩ := x; ⟨o, vs, k _ a, r⟩
/-- the table of inner codes only grows -/
def GrowO (a b : Obj) : Prop := ∀ ps, a = { cls := .none, data := .fields ps } → ∃ more, b = { cls := .none, data := .fields (ps ++ more) }
theorem GrowO.refl (a : Obj) : GrowO a a := fun ps e => ⟨#[], by simpa using e⟩
theorem GrowO.trans {a b c : Obj} (h : GrowO a b) (k : GrowO b c) : GrowO a c := fun ps e => by
  obtain ⟨m, e1⟩ := h ps e
  obtain ⟨m', e2⟩ := k _ e1
  exact ⟨m ++ m', by rw [e2, Array.append_assoc]⟩
structure Kp (s s' : Shared) : Prop where
  keep : ∀ b o, b ≠ 52 → s.heap.get? b = some o → s'.heap.get? b = some o
  code : ∃ ps, s'.heap.IsCode 56 52 ps
  drawn : s'.drawn = s.drawn
  os : s'.os = s.os
  bare : AllBare s.gens → AllBare s'.gens
  tab : Cd56 s.heap → ∀ o o', s.heap.get? 52 = some o → s'.heap.get? 52 = some o' → GrowO o o'
structure BMd (mg : Str → Option Value) (h : Heap) : Prop where
  out : ∃ bm ob, mg "__builtins__" = some (.ref bm) ∧ bm ≠ builtinsNs ∧ h.get? bm = some ob ∧ ob.cls = .type "module" ∧ ob.dict = some builtinsNs ∧ ob.data = .plain ∧ bm ≠ 52
def GenR (prog : Program) (w : World) (A : Around) (a : Addr) (n : Nat) (tst : Nat → Bool) (s s' : Shared) : Prop :=
  Kp s s' ∧ ∃ fp wr G St, WalksS prog w A a fp wr G n (fun j v => v = .bool (tst j)) St ∧ St 0 s' ∧ (∀ b ∈ wr, s.heap.get? b = none) ∧ ∀ x y, G x y → AllBare x → AllBare y
theorem passing_all (n : Nat) : passing (fun _ => true) n 0 = List.range n := by
  simp [passing]
section
variable {prog : Program} {w : World} {A : Around} {E : Value → Shared → Prop} {s : Shared} {p : Program} {loose : List Str} {mg mb : Str → Option Value}
theorem code_kp {h : Heap} {ps : Array Value} (hc : h.IsCode 56 52 ps) : ∃ o, h.get? 52 = some o := by
  obtain ⟨o, vs, file, tf, flags, tg, inF, text, tt, op, ho, hd, h11, h2, h7, h9, h10, hop, _⟩ := hc
  exact ⟨op, hop⟩
theorem gen_code {env : Env} {ps : Array Value} {pos : Pos} {qualname : Str} {scope : Scope} {Q : Value → Shared → Prop} (hc : env.code = .ref 56) (hok : s.heap.IsCode 56 52 ps)
    (hQ : ∀ code h' tk ps', Heap.ExtBut 52 s.heap h' → h'.IsCode 56 52 ps' → (Cd56 s.heap → ∀ o o', s.heap.get? 52 = some o → h'.get? 52 = some o' → GrowO o o') → Q code { s with heap := h', toks := tk }) :
    wpAny (model prog w) A (genexprCode env pos qualname scope) Q E s := by
  obtain ⟨o, vs, file, tf, flags, tg, inF, text, tt, op, ho, hd, h11, h2, h7, h9, h10, hop, hpd, htr, hne⟩ := id hok
  cases hf : codeAmong pos ps.toList with
  | some cv => exact wpAny_genexprCode_hit hc hok hf (hQ _ s.heap s.toks ps (Heap.ExtBut.refl _ _) hok fun _ o o' e e' => by cases e.symm.trans e'; exact .refl _)
  | none =>
    by_cases ht : s.heap.TableAt 56 52 ps
    · refine wpAny_genexprCodeX hc hok ht hf fun c' h' tk hx _ _ hc' _ ht' _ => hQ _ _ _ _ hx hc' fun _ o o' e e' ps₀ e₀ => ?_
      subst e₀
      have e1 := e.symm.trans ht.2
      injection e1 with e1
      injection e1 with _ _ e1
      injection e1 with e1
      subst e1
      exact ⟨_, Option.some.inj (e'.symm.trans ht'.2)⟩
    · refine wpAny_genexprCode hc hok fun code h' tk ps' hx hc' => hQ _ _ _ _ hx hc' fun hC o o' e e' ps₀ e₀ => (ht ⟨?_, ?_⟩).elim
      · exact hC
      · subst e₀
        have e1 := hop.symm.trans e
        injection e1 with e1
        subst e1
        injection hpd with e2
        rw [e, e2]
def Iters (prog : Program) (w : World) (A : Around) (xv : Value) (n : Nat) (P : Nat → Value → Prop) (s : Shared) : Prop :=
  ∀ (Q : Value → Shared → Prop) (E : Value → Shared → Prop), (∀ I fp St h₁, (∀ b o, s.heap.get? b = some o → h₁.get? b = some o) → s.heap.get? I = none → (∀ A' : Around, A'.handled = none → Walks prog w A' I fp [I] n P St) → St 0 h₁ → (∀ b ∈ fp, ∃ o, h₁.get? b = some o) → 52 ∉ fp → (∀ b ∈ fp, b = I ∨ xv = .ref b) → Q (.ref I) { s with heap := h₁ }) → wpAny (model prog w) A (pyIter xv) Q E s
theorem eval_gen {env : Env} {elt iter : Expr} {x : Str} {px pos : Pos} {scope : Scope} {cl : List (Str × Addr)} {Q : Value → Shared → Prop} {xv : Value} {ps : Array Value} {n : Nat} {P : Nat → Value → Prop} {tst : Nat → Bool}
    (hcode : env.code = .ref 56) (hgl : env.globals = mainGlobals) (T : TopRead p loose mg mb s.heap) (Bm : BMd mg s.heap) (hc : s.heap.IsCode 56 52 ps)
    (hco : scope.isCoroutine = false) (hclos : closureFor scope env = pure cl) (hcell : ∀ y ∈ scope.names, y.2 ≠ .cell) (h0 : scope.names.lookup (".0" : Str) = some NameKind.local)
    (hx : scope.names.lookup x = some .local) (hkind : scope.kind = .function) (hroom : A.depth < recursionLimit) (hh : A.handled = none)
    (hit : Iters prog w A xv n P s) (hev : ∀ Q' : Value → Shared → Prop, Q' xv s → wpAny (model prog w) A (eval iter env) Q' E s)
    (helt : ∀ (A' : Around) E' i v C code (s₂ : Shared) m₂, A'.handled = none → P i v → s₂.heap.Ns C m₂ → m₂ x = some v → (∀ b o, b ≠ 52 → s.heap.get? b = some o → s₂.heap.get? b = some o) →
      wpAny (model prog w) A' (eval elt (genEnv scope cl C code builtinsNs env)) (fun y s₃ => y = .bool (tst i) ∧ Keeps s₂ s₃) E' s₂)
    (hq : ∀ a s', GenR prog w A a n tst s s' → Q (.ref a) s') (hs : ∀ x, genFold iter env x = pure x) :
    wpAny (model prog w) A (eval (.GeneratorExp elt [⟨.Name x px, iter, [], 0⟩] scope pos) env) Q E s := by
  refine wpAny_GeneratorExp_walksQ hh hco hclos hcell h0 hx hkind hroom (hev _ ?_) hs
  refine hit _ _ fun I fp St h₁ k1 hI W hst hfp h52 _ => ⟨T.nolimit.keeps k1, ?_⟩
  refine gen_code hcode (hc.keeps k1) fun code h₂ tk ps' kx hc2 kt => ?_
  have k2 : ∀ b o, b ≠ 52 → s.heap.get? b = some o → h₂.get? b = some o := fun b o n e => kx b o n (k1 b o e)
  have hnl : h₂.NoLimit := by
    obtain ⟨mc, ⟨o, es, ep, ho, r⟩, hm⟩ := T.nolimit.keeps k1
    exact ⟨mc, ⟨o, es, ep, kx _ _ (by decide) ho, r⟩, hm⟩
  have hgns : h₂.Ns env.globals mg := by
    rw [hgl]
    obtain ⟨o, es, ep, ho, r⟩ := T.g.keeps k1
    exact ⟨o, es, ep, kx _ _ (by decide) ho, r⟩
  obtain ⟨bm, ob, b1, b2, b3, b4, b5, b6, b7⟩ := Bm.out
  refine wpAny_builtinsFor (s := { s with heap := h₂, toks := tk }) hgns b1 b2 (k2 _ _ b7 b3) b4 b5 b6 ?_
  have hcs : cStatics ∉ [I] := by
    obtain ⟨mc, ⟨o, es, ep, ho, r⟩, hm⟩ := T.nolimit
    intro q
    rw [List.mem_singleton] at q
    rw [q, hI] at ho
    cases ho
  refine ⟨I, fp, [I], n, P, St, fun _ => true, fun i y => y = .bool (tst i), rfl, W, (W A hh).frame 0 h₁ h₂ hst (fun b hb o e => kx b o (fun q => h52 (q ▸ hb)) e),
    fun b hb => by obtain ⟨o, e⟩ := hfp b hb; exact Heap.lt_size (kx b o (fun q => h52 (q ▸ hb)) e), hnl, hcs, ?_, ?_⟩
  · intro href hk
    refine ⟨fun A' E' i v s₂ m₂ _ _ _ _ _ => ?_, fun A' E' i v s₂ m₂ hA' hP _ hns hm hkk => ?_⟩
    · rw [List.forIn_nil]
      exact wpAny_pure ⟨rfl, s₂.heap, s₂.toks, rfl, fun _ _ e => e⟩
    · refine helt A' E' i v _ code s₂ m₂ hA' hP hns hm fun b o n52 e => ?_
      have e2 := k2 b o n52 e
      refine hkk b (List.mem_range.mpr (Heap.lt_size e2)) (fun q => ?_) o (hk b o e2)
      rw [List.mem_singleton] at q
      rw [q, hI] at e
      cases e
  · intro a h₅ tk' gs hgs ha hz hk5 W5 G5
    rw [passing_all, List.length_range] at W5
    have W5 := WalksS.of_in1 (A := A) (WalksS.of_in1 (A := A.in1) (WalksS.of_in1 (A := A.in1.in1) (WalksS.of_in1 (A := A.in1.in1.in1) W5)))
    have W6 := W5.imp (P' := fun j v => v = .bool (tst j)) fun j v hj => by
      obtain ⟨i, h1, h2⟩ := hj
      rw [List.getElem?_eq_some_iff] at h1
      obtain ⟨h1, h3⟩ := h1
      rw [List.getElem_range] at h3
      rw [h2, h3]
    refine hq a _ ⟨⟨fun b o n52 e => hk5 b o (k2 b o n52 e), ⟨ps', hc2.keeps hk5⟩, rfl, rfl, fun hB => hB.push hgs, ?_⟩, _, _, _, _, W6, G5, ?_, fun x y hg hB => hB.moved hg⟩
    · intro hC o o' e e'
      obtain ⟨op2, h52⟩ := code_kp hc2
      have e2 := hk5 _ _ h52
      cases e'.symm.trans e2
      exact kt (hC.mono fun o e => k1 _ _ e) o _ (k1 _ _ e) h52
    · intro b hb
      rcases List.mem_cons.mp hb with rfl | hb
      · cases q : s.heap.get? h₂.objs.size with
        | none => rfl
        | some o =>
          by_cases n52 : h₂.objs.size = 52
          · obtain ⟨o', ho'⟩ := code_kp hc2
            have := Heap.lt_size ho'
            rw [n52] at this
            exact absurd this (Nat.lt_irrefl _)
          · exact absurd (Heap.lt_size (k2 _ _ n52 q)) (Nat.lt_irrefl _)
      · rw [List.mem_singleton.mp hb]; exact hI
theorem isCode_keep {h h' : Heap} {ps : Array Value} {wr : List Addr} (hc : h.IsCode 56 52 ps) (h56 : 56 ∉ wr) (h52 : 52 ∉ wr) (k : ∀ b o, b ∉ wr → h.get? b = some o → h'.get? b = some o) : h'.IsCode 56 52 ps := by
  obtain ⟨o, vs, file, tf, flags, tg, inF, text, tt, op, ho, hd, h11, h2, h7, h9, h10, hop, r⟩ := hc
  exact ⟨o, vs, file, tf, flags, tg, inF, text, tt, op, k _ _ h56 ho, hd, h11, h2, h7, h9, h10, k _ _ h52 hop, r⟩
theorem call_all_gen {s₀ : Shared} {a n} {tst : Nat → Bool} {ps : Array Value} {Q : Value → Shared → Prop} (hc : s₀.heap.IsCode 56 52 ps) (hR : GenR prog w A.in1 a n tst s₀ s)
    (h : ∀ s', Kp s₀ s' → Q (.bool ((List.range n).all tst)) s') : wpAny (model prog w) A (call (.builtin "all") [.ref a]) Q E s := by
  obtain ⟨K, fp, wr, G, St, W, hst, hwr, hB⟩ := hR
  refine call_all_walkS (W.self 0 _ _ _ hst ⟨a, _, _, _, _, _, _, tst, rfl, W, hst, fun i v s Q E hv hQ => ?_, fun s' hm => h s' ?_⟩)
  · subst hv; exact wpAny_truthy_bool hQ
  · obtain ⟨c1, c2⟩ := K.code
    have g56 : ∃ o, s₀.heap.get? 56 = some o := by obtain ⟨o, vs, file, tf, flags, tg, inF, text, tt, op, ho, _⟩ := hc; exact ⟨o, ho⟩
    have g52 := code_kp hc
    have n56 : 56 ∉ wr := fun q => by obtain ⟨o, e⟩ := g56; rw [hwr _ q] at e; cases e
    have n52 : 52 ∉ wr := fun q => by obtain ⟨o, e⟩ := g52; rw [hwr _ q] at e; cases e
    exact ⟨fun b o hb e => hm.heap b o (fun q => by rw [hwr _ q] at e; cases e) (K.keep b o hb e), ⟨c1, isCode_keep c2 n56 n52 fun b o hb e => hm.heap b o hb e⟩, hm.drawn.trans K.drawn, hm.os.trans K.os, fun x => hB _ _ hm.gens (K.bare x), fun hC o o' e e' => by
      obtain ⟨op2, h52⟩ := code_kp c2
      cases e'.symm.trans (hm.heap _ _ n52 h52)
      exact K.tab hC o _ e h52⟩
theorem call_any_gen {s₀ : Shared} {a n} {tst : Nat → Bool} {ps : Array Value} {Q : Value → Shared → Prop} (hc : s₀.heap.IsCode 56 52 ps) (hR : GenR prog w A.in1 a n tst s₀ s)
    (h : ∀ s', Kp s₀ s' → Q (.bool ((List.range n).any tst)) s') : wpAny (model prog w) A (call (.builtin "any") [.ref a]) Q E s := by
  obtain ⟨K, fp, wr, G, St, W, hst, hwr, hB⟩ := hR
  refine call_any_walkS (W.self 0 _ _ _ hst ⟨a, _, _, _, _, _, _, tst, rfl, W, hst, fun i v s Q E hv hQ => ?_, fun s' hm => h s' ?_⟩)
  · subst hv; exact wpAny_truthy_bool hQ
  · obtain ⟨c1, c2⟩ := K.code
    have g56 : ∃ o, s₀.heap.get? 56 = some o := by obtain ⟨o, vs, file, tf, flags, tg, inF, text, tt, op, ho, _⟩ := hc; exact ⟨o, ho⟩
    have g52 := code_kp hc
    have n56 : 56 ∉ wr := fun q => by obtain ⟨o, e⟩ := g56; rw [hwr _ q] at e; cases e
    have n52 : 52 ∉ wr := fun q => by obtain ⟨o, e⟩ := g52; rw [hwr _ q] at e; cases e
    exact ⟨fun b o hb e => hm.heap b o (fun q => by rw [hwr _ q] at e; cases e) (K.keep b o hb e), ⟨c1, isCode_keep c2 n56 n52 fun b o hb e => hm.heap b o hb e⟩, hm.drawn.trans K.drawn, hm.os.trans K.os, fun x => hB _ _ hm.gens (K.bare x), fun hC o o' e e' => by
      obtain ⟨op2, h52⟩ := code_kp c2
      cases e'.symm.trans (hm.heap _ _ n52 h52)
      exact K.tab hC o _ e h52⟩
theorem iters_list {l : Addr} {items : Array Value} (hl : s.heap.IsList l items) (h52 : l ≠ 52) (hs : 52 < s.heap.objs.size) : Iters prog w A (.ref l) items.size (fun i v => items[i]? = some v) s := by
  intro Q E h
  refine wpAny_pyIter_list hl ?_
  have hls : l < s.heap.objs.size := by obtain ⟨ol, hol, _⟩ := hl; exact Heap.lt_size hol
  refine h _ _ _ _ (fun b o e => Heap.get?_push_of_some _ e) (no_at _) (fun A' hA' => Walks.list hA' s.heap.objs.size l (Nat.ne_of_lt hls) items) ⟨⟨_, Heap.get?_push_size _ rfl, rfl, rfl⟩, hl.push _⟩ ?_ ?_ (fun b hb => by
    rcases List.mem_cons.mp hb with q | hb
    · exact .inl q
    · exact .inr (by rw [List.mem_singleton.mp hb]))
  · intro b hb
    rcases List.mem_cons.mp hb with rfl | hb
    · exact ⟨_, Heap.get?_push_size _ rfl⟩
    · rw [List.mem_singleton.mp hb]
      obtain ⟨ol, hol, _⟩ := hl
      exact ⟨_, Heap.get?_push_of_some _ hol⟩
  · intro hb
    rcases List.mem_cons.mp hb with q | hb
    · exact absurd hs (q ▸ Nat.lt_irrefl _)
    · exact h52 (List.mem_singleton.mp hb).symm
theorem iters_set {a : Addr} {A₁ : List Nat} {m mv ep : Nat} {T : Nat → Tok} {o : Obj} (S : IsSet (model prog w) s.heap a) (hA : A₁ ∈ subs) (hm : MM m mv) (ho : s.heap.get? a = some o) (hd : o.data = .set (ents A₁ T) ep (tab (byText w) m mv A₁))
    (h52 : a ≠ 52) (hs : 52 < s.heap.objs.size) : Iters prog w A (.ref a) A₁.length (fun i v => (ordOf w a ep A₁ T)[i]? = some v) s := by
  intro Q E h
  refine iter_set S hA hm ho hd ?_
  have hls : a < s.heap.objs.size := Heap.lt_size ho
  refine h _ _ _ _ (fun b o e => Heap.get?_push_of_some _ e) (no_at _) (fun A' hA' => walks_set hA' hA hm hd (Nat.ne_of_lt hls)) ⟨⟨_, Heap.get?_push_size _ rfl, rfl, by rw [slot_zero]; rfl⟩, Heap.get?_push_of_some _ ho⟩ ?_ ?_ (fun b hb => by
    rcases List.mem_cons.mp hb with q | hb
    · exact .inl q
    · exact .inr (by rw [List.mem_singleton.mp hb]))
  · intro b hb
    rcases List.mem_cons.mp hb with rfl | hb
    · exact ⟨_, Heap.get?_push_size _ rfl⟩
    · rw [List.mem_singleton.mp hb]
      exact ⟨_, Heap.get?_push_of_some _ ho⟩
  · intro hb
    rcases List.mem_cons.mp hb with q | hb
    · exact absurd hs (q ▸ Nat.lt_irrefl _)
    · exact h52 (List.mem_singleton.mp hb).symm
end
end
section
section
variable {prog : Program} {w : World} {A : Around} {E : Value → Shared → Prop} {s : Shared} {p : Program} {loose : List Str} {mg mb : Str → Option Value} {b : Heap} {L S : Addr} {m : Str → Option Value} {news : List (Addr × Obj)}
  {q : Str} {scope : Scope} {cl : List (Str × Addr)}
theorem code56 (p : Params) : ∃ c d vs sl t, (Mine.hd.heap_39 p).lookup 56 = some ⟨c, d, .fields vs, sl⟩ ∧ vs[2]? = some (.str "/claim/cut.py" t) := by
  (repeat apply Exists.intro); apply And.intro; k_is; rfl
theorem fn57 (p : Params) : ∃ c d fd sl ar, (Mine.hd.heap_39 p).lookup 57 = some ⟨c, d, .func fd, sl⟩ ∧ (fd.params.posonlyargs ++ fd.params.args).head? = some ar ∧ ar.arg = "self" := by
  (repeat apply Exists.intro); apply And.intro; k_is; exact ⟨rfl, rfl⟩
theorem cell43 (p : Params) : ∃ c d sl, (Mine.hd.heap_39 p).lookup 43 = some ⟨c, d, .cell (some (.ref 75)), sl⟩ := by
  (repeat apply Exists.intro); k_is
theorem cls75 (p : Params) : ∃ c d cd sl, (Mine.hd.heap_39 p).lookup 75 = some ⟨c, d, .cls cd, sl⟩ ∧ cd.mro = [.ref 75, .type "set", .type "object"] ∧ cd.name.cps.foldl (fun k c => k + (Str.utf8Of c).length) 0 ≤ 200 := by
  (repeat apply Exists.intro); apply And.intro; k_is; exact ⟨rfl, by decide +kernel⟩
theorem super_stmt {body : List Stmt} {p0 p1 p2 p3 p4 p5 : Pos} {oS : Obj} {cv : Value} {C : List Nat} {Q : Flow → Shared → Prop}
    (X : (Mine.hd.heap_39 w.params).In b) (T : TopRead p loose mg mb b) (F : Fr b L s.heap m) (hm1 : m "self" = some (.ref S)) (hm2 : m "candidates" = some cv)
    (hS : s.heap.get? S = some oS) (hSc : oS.cls = .ref 75) (hSn : ∀ c, oS.data ≠ .cls c)
    (hfile : ((prog.main.file : Str) == "/claim/cut.py") = true) (htop : (prog.main.scope.names.lookup ("super" : Str)).isSome = false)
    (hks : scope.names.lookup ("super" : Str) = some .globalImplicit) (hkc : scope.names.lookup ("__class__" : Str) = some .free) (hka : scope.names.lookup ("self" : Str) = some .local) (hkd : scope.names.lookup ("candidates" : Str) = some .local) (hk : scope.kind = .function)
    (hcl : cl.lookup ("__class__" : Str) = some 43) (hR : Room A 8) {pl : Sem Bool}
    (he : eval (.Call (.Attribute (.Call (.Name "super" p0) [] [] p1) "__init__" p2) [.Name "candidates" p3] [] p4) (envX q scope L 57 (.ref 56) cl) = (do
      let ov ← attributeBase (.Call (.Name "super" p0) [] [] p1) "__init__" (envX q scope L 57 (.ref 56) cl) (eval (.Call (.Name "super" p0) [] [] p1) (envX q scope L 57 (.ref 56) cl))
      standAt p2.atName
      let (f, first) ← holding [ov] (getMethod ov "__init__" pl)
      callWith p4 f first (backTo p4 (starEach [.Name "candidates" p3] (envX q scope L 57 (.ref 56) cl))) []))
    (hin : ∀ A' h1 tk R, Room A' 4 → (∀ b o, s.heap.get? b = some o → h1.get? b = some o) → (∀ h' tk', (∀ b o, b ≠ S → h1.get? b = some o → h'.get? b = some o) → HasSet (byText w) 7 0 oS h' S C → R (.ok (.ret .none)) { s with heap := h', toks := tk' }) →
      codeAny (model prog w) A' (.builtin "set.__init__" ⟨[.ref S, cv], []⟩) R { s with heap := h1, toks := tk })
    (cont : ∀ h' tk, (∀ b o, b ≠ S → s.heap.get? b = some o → h'.get? b = some o) → HasSet (byText w) 7 0 oS h' S C → Q .next { s with heap := h', toks := tk }) :
    PySem.wpAt (model prog w) A (.func body (envX q scope L 57 (.ref 56) cl)) (exec (.Expr (.Call (.Attribute (.Call (.Name "super" p0) [] [] p1) "__init__" p2) [.Name "candidates" p3] [] p4) p5) (envX q scope L 57 (.ref 56) cl)) Q E s := by
  have Xs : (Mine.hd.heap_39 w.params).In s.heap := X.keeps F.keep
  have Ts := T.keeps F.keep
  obtain ⟨c1, d1, vs, sl1, tf, h56, hvs⟩ := code56 w.params
  obtain ⟨c2, d2, fd, sl2, ar, h57, hp, har⟩ := fn57 w.params
  obtain ⟨c3, d3, sl3, h43⟩ := cell43 w.params
  obtain ⟨c4, d4, cd, sl4, h75, hmro, hname⟩ := cls75 w.params
  obtain ⟨hh, g, d, t, os⟩ := s
  refine ks_wpAt_Expr_any ?_ (hi := by simp [interactive, hk])
  refine ks_wpAt_MethodCall ?_ he
  refine ks_wpAt_super_base (env := envX q scope L 57 (.ref 56) cl) hks hkc (by decide) rfl (Xs _ _ h57) rfl hp rfl (Xs _ _ h56) rfl hvs hfile htop ?_
  refine ks_loadName_global hk hks (loadGlobal_builtin (env := envX q scope L 57 (.ref 56) cl) Ts.g (mg_none_of X T.g (by k_is)) Ts.b ((T.builtins _ (by decide +kernel)).trans (by kernel_rfl)) ⟨rfl, ?_⟩)
  refine wpAny_loadName_free hk hkc hcl ⟨_, Xs _ _ h43, rfl⟩ ?_
  rw [har]
  refine wpAny_loadName_local hk hka F.ns hm1 ?_
  refine ks_wpAny_isType_cls (Xs _ _ h75) rfl ⟨rfl, ?_⟩
  refine ks_wpAny_call_super (Xs _ _ h75) rfl hS hSc hSn (looks_mroIn Xs (by k_is)) fun h1 hso k1 => ?_
  have X1 := Xs.keeps k1
  have hS1 := k1 _ _ hS
  have hcd : clsIn (Mine.hd.heap_39 w.params) 75 = some cd := by unfold clsIn; rw [h75]
  have N1 : Named (model prog w) h1 S := named_own X1 hS1 hSc hcd (by k_is) hname
  have LC : Looks (model prog w) h1 (mroOf (.ref 75)) cd.mro := (looks_clsIn X1 hcd).andThen .now
  refine get_super_init hso (looks_opaque X1 (by k_is)) LC rfl X1 (by rw [hmro]; kernel_rfl) N1.inst (fun e => ?_) ?_
  · have := Xs _ _ h75
    rw [e] at hS
    rw [hS] at this
    cases this
    exact hSn _ rfl
  have hmw : (h1.push (mwO S)).get? h1.objs.size = some (mwO S) := Heap.get?_push_size _ rfl
  have k2 : ∀ b o, hh.get? b = some o → (h1.push (mwO S)).get? b = some o := fun b o e => Heap.get?_push_of_some _ (k1 b o e)
  generalize h1.push (mwO S) = h2 at hmw k2 ⊢
  generalize h1.objs.size = mw at hmw ⊢
  have F2 : Fr b L h2 m := ⟨F.ns.keeps k2, fun a o e => k2 a o (F.keep a o e), F.above⟩
  refine callWith_of (P := fun h => h = h2) rfl (fun h e => ⟨.machine, .inr (.inl rfl), ?_⟩) ?_
  · subst e
    unfold keeperOf
    exact (Looks.ld (part := none) hmw).andThen .now
  · refine evalArgs_plain ?_
    show wpAny _ A (spliced [(false, eval (.Name "candidates" p3) (envX q scope L 57 (.ref 56) cl))]) _ _ _
    refine Calls.spliced_cons ?_
    refine nameX_L F2 hm2 ?_ hk hkd
    refine Calls.spliced_nil ⟨rfl, ?_⟩
    have N2 : Named (model prog w) h2 S := by
      refine named_own (Xs.keeps k2) (k2 _ _ hS) hSc hcd (by k_is) hname
    refine call_mw (s := ⟨h2, g, d, t + 1, os⟩) hmw N2 ?_
    refine hin A h2 (t + 1) _ (hR.mono (by decide)) k2 fun h' tk' kk hS' => ?_
    exact cont h' tk' (fun b o n e => kk b o n (k2 b o e)) hS'
end
end
section
theorem no52 (p : Params) : (Mine.hd.heap_39 p).lookup 52 = none := by kernel_rfl
theorem in_but {p : Params} {h h' : Heap} (X : (Mine.hd.heap_39 p).In h) (k : ∀ b o, b ≠ 52 → h.get? b = some o → h'.get? b = some o) : (Mine.hd.heap_39 p).In h' := fun a o e =>
  k a o (fun q => by rw [q, no52] at e; cases e) (X a o e)
theorem top_but {p : Program} {loose : List Str} {mg mb : Str → Option Value} {h h' : Heap} (T : TopRead p loose mg mb h) (k : ∀ b o, b ≠ 52 → h.get? b = some o → h'.get? b = some o) : TopRead p loose mg mb h' := by
  obtain ⟨⟨og, eg, pg, hg, rg⟩, ⟨ob, eb, pb, hb, rb⟩, ⟨mc, ⟨oc, ec, pc, hc, rc⟩, hm⟩, b, f⟩ := T
  exact ⟨⟨og, eg, pg, k _ _ (by decide) hg, rg⟩, ⟨ob, eb, pb, k _ _ (by decide) hb, rb⟩, ⟨mc, ⟨oc, ec, pc, k _ _ (by decide) hc, rc⟩, hm⟩, b, f⟩
theorem bmd_but {mg : Str → Option Value} {h h' : Heap} (B : BMd mg h) (k : ∀ b o, b ≠ 52 → h.get? b = some o → h'.get? b = some o) : BMd mg h' := by
  obtain ⟨bm, ob, b1, b2, b3, b4, b5, b6, b7⟩ := B.out
  exact ⟨bm, ob, b1, b2, k _ _ b7 b3, b4, b5, b6, b7⟩
def hide52 (h : Heap) : Heap := hideAll h [52]
theorem hide52_get {h : Heap} : ∀ b o, b ≠ 52 → h.get? b = some o → (hide52 h).get? b = some o := fun b o n e => hideAll_get [52] e (by simpa using n)
theorem hide52_of {h : Heap} : ∀ b o, (hide52 h).get? b = some o → h.get? b = some o := fun _ _ e => of_hideAll [52] e
theorem hide52_none (h : Heap) : (hide52 h).get? 52 = none := hideAll_none [52] (by simp)
theorem hide52_size (h : Heap) : (hide52 h).objs.size = h.objs.size := hideAll_size [52] h
/-- the candidates as they come to CandidateSet: a list of small ints, or an own set -/
def CandsAt (w : World) (h : Heap) (a : Addr) (cs : List Nat) : Prop :=
  (∃ items, h.IsList a items ∧ IntsAre items.toList (cs.map fun (c : Nat) => (c : Int))) ∨ ∃ dx, cs ∈ subs ∧ HasSet (byText w) 7 0 (ownO dx) h a cs
theorem CandsAt.but {w : World} {h h' : Heap} {a : Addr} {cs : List Nat} (C : CandsAt w h a cs) {n : Addr} (hn : a ≠ n) (k : ∀ b o, b ≠ n → h.get? b = some o → h'.get? b = some o) : CandsAt w h' a cs := by
  rcases C with ⟨items, ⟨o, ho, r⟩, hi⟩ | ⟨dx, hs, T, ep, ho⟩
  · exact .inl ⟨items, ⟨o, k _ _ hn ho, r⟩, hi⟩
  · exact .inr ⟨dx, hs, T, ep, k _ _ hn ho⟩
theorem CandsAt.keep {w : World} {h h' : Heap} {a : Addr} {cs : List Nat} (C : CandsAt w h a cs) (k : ∀ b o, h.get? b = some o → h'.get? b = some o) : CandsAt w h' a cs := by
  rcases C with ⟨items, ⟨o, ho, r⟩, hi⟩ | ⟨dx, hs, T, ep, ho⟩
  · exact .inl ⟨items, ⟨o, k _ _ ho, r⟩, hi⟩
  · exact .inr ⟨dx, hs, T, ep, k _ _ ho⟩
theorem CandsAt.at {w : World} {h : Heap} {a : Addr} {cs : List Nat} (C : CandsAt w h a cs) : ∃ o, h.get? a = some o ∧ (o.cls = .type "list" ∨ o.cls = .ref 75) ∧ ∀ vs, o.data ≠ .fields vs := by
  rcases C with ⟨items, ⟨o, ho, hc, n, hd⟩, hi⟩ | ⟨dx, hs, T, ep, ho⟩
  · exact ⟨o, ho, .inl hc, fun vs e => by rw [hd] at e; cases e⟩
  · exact ⟨_, ho, .inr rfl, fun vs e => by cases e⟩
section
variable {prog : Program} {w : World} {A : Around} {E : Value → Shared → Prop} {s : Shared} {a S : Addr} {cs : List Nat}
theorem own_set (X : (Mine.hd.heap_39 w.params).In s.heap) {dx : Addr} {m mv : Nat} {B : List Nat} (h : HasSet (byText w) m mv (ownO dx) s.heap a B) : IsSet (model prog w) s.heap a := by
  obtain ⟨T, ep, ho⟩ := h
  exact isSet_own X ho rfl (by k_is) (by k_is) (by k_is)
theorem named_own' (X : (Mine.hd.heap_39 w.params).In s.heap) {o : Obj} (ho : s.heap.get? a = some o) (hc : o.cls = .ref 75) : Named (model prog w) s.heap a := by
  obtain ⟨c4, d4, cd, sl4, h75, hmro, hname⟩ := cls75 w.params
  exact named_own X ho hc (by unfold clsIn; rw [h75]) (by k_is) hname
theorem cands_len {Q : Value → Shared → Prop} (X : (Mine.hd.heap_39 w.params).In s.heap) (C : CandsAt w s.heap a cs) (hl : cs.length < 1000) (h : ∀ t t', Q (.int cs.length t) { s with toks := t' }) : wpAny (model prog w) A (call (.builtin "len") [.ref a]) Q E s := by
  rcases C with ⟨items, hli, hi⟩ | ⟨dx, hs, hS⟩
  · have hz : items.size = cs.length := by have := hi.length; simpa using this
    refine call_len_list hli (by rw [hz]; omega) ?_
    rw [hz]
    exact h _ _
  · exact len_set (own_set X hS) hs (.inl ⟨rfl, rfl⟩) hS h
theorem cands_iter (X : (Mine.hd.heap_39 w.params).In s.heap) (C : CandsAt w s.heap a cs) (h52 : ∃ vs o, s.heap.get? 52 = some o ∧ o.data = .fields vs) : Iters prog w A (.ref a) cs.length (fun _ v => ∃ c ∈ cs, ∃ t, v = .int (c : Nat) t) s := by
  obtain ⟨vs, o52, e52, d52⟩ := h52
  obtain ⟨oa, hoa, _, hna⟩ := C.at
  have hne : a ≠ 52 := by
    rintro rfl
    rw [e52] at hoa
    cases hoa
    exact hna vs d52
  have hlt := Heap.lt_size e52
  intro Q E h
  rcases C with ⟨items, hli, hi⟩ | ⟨dx, hs, hS⟩
  · have hz : items.size = cs.length := by have := hi.length; simpa using this
    have W := iters_list (prog := prog) (w := w) (A := A) hli hne hlt
    rw [hz] at W
    refine W Q E fun I fp St h₁ k1 hI Ww hst hfp h52' hfa => h I fp St h₁ k1 hI (fun A' hA' => ?_) hst hfp h52' hfa
    have W1 := Ww A' hA'
    refine ⟨W1.sub, W1.frame, fun i s Q E hi' hst k => W1.item i s Q E hi' hst fun v s' tk hP => k v s' tk ?_, W1.done, W1.self⟩
    have hv' : items.toList[i]? = some v := by rw [Array.getElem?_toList]; exact hP
    obtain ⟨t, e⟩ := IntsAre.int_at hi i v hv'
    refine ⟨cs[i], List.getElem_mem hi', t, ?_⟩
    rw [e]
    congr 1
    simp [List.getD, hi']
  · have hS' := hS
    obtain ⟨T, ep, ho⟩ := hS
    refine iters_set (prog := prog) (w := w) (A := A) (own_set X hS') hs (.inl ⟨rfl, rfl⟩) ho rfl hne hlt Q E fun I fp St h₁ k1 hI Ww hst hfp h52' hfa => h I fp St h₁ k1 hI (fun A' hA' => ?_) hst hfp h52' hfa
    have W1 := Ww A' hA'
    refine ⟨W1.sub, W1.frame, fun i s Q E hi' hst k => W1.item i s Q E hi' hst fun v s' tk hP => k v s' tk ?_, W1.done, W1.self⟩
    have := (ord_perm w a ep cs T).mem_iff.mp (List.mem_of_getElem? hP)
    rw [List.mem_map] at this
    obtain ⟨c, hc, rfl⟩ := this
    exact ⟨c, hc, _, rfl⟩
theorem cands_init {o : Obj} {R : Result → Shared → Prop} (hA : Room A 4) (N : Named (model prog w) s.heap S) (X : (Mine.hd.heap_39 w.params).In s.heap) (C : CandsAt w s.heap a cs) (hcs : ∀ c ∈ cs, c < 4) (hSa : S ≠ a) (hS : HasSet (byText w) 7 0 o s.heap S [])
    (h : ∀ h' tk, (∀ b x, b ≠ S → s.heap.get? b = some x → h'.get? b = some x) → HasSet (byText w) 7 0 o h' S (insAll cs []) → R (.ok (.ret .none)) { s with heap := h', toks := tk }) :
    codeAny (model prog w) A (.builtin "set.__init__" ⟨[.ref S, .ref a], []⟩) R s := by
  rcases C with ⟨items, hli, hi⟩ | ⟨dx, hs, hC⟩
  · exact init_list_code N hA hli hi hcs hS h
  · refine init_set_code N (own_set X hC).inst hs hSa hC hS fun h' sb hS' => h h' s.toks (fun b x n e => (sb.2 b n).trans e) ?_
    have e : insAll cs [] = cs := sub_ext (insAll_sub (by decide)) hs fun x => by rw [mem_insAll hcs]; simp
    rw [e]
    exact hS'
end
end
section
theorem isCode_re {h h' : Heap} {ps ps' : Array Value} {op : Obj} (hc : h.IsCode 56 52 ps) (k : ∀ o, h.get? 56 = some o → h'.get? 56 = some o) (ho : h'.get? 52 = some op) (hd : op.data = .fields ps') (ht : TriplesOk ps'.toList) : h'.IsCode 56 52 ps' := by
  obtain ⟨o, vs, file, tf, flags, tg, inF, text, tt, op0, ho0, hd0, h11, h2, h7, h9, h10, hop, hpd, htr, hne⟩ := hc
  exact ⟨o, vs, file, tf, flags, tg, inF, text, tt, op, k _ ho0, hd0, h11, h2, h7, h9, h10, ho, hd, ht, hne⟩
def CodeOk (op : Obj) : Prop := ∃ ps : Array Value, op.data = .fields ps ∧ TriplesOk ps.toList
theorem codeOk_of {h : Heap} {ps : Array Value} (hc : h.IsCode 56 52 ps) : ∃ op, h.get? 52 = some op ∧ CodeOk op := by
  obtain ⟨o, vs, file, tf, flags, tg, inF, text, tt, op0, ho0, hd0, h11, h2, h7, h9, h10, hop, hpd, htr, hne⟩ := hc
  exact ⟨op0, hop, ps, hpd, htr⟩
section
variable {prog : Program} {w : World} {A : Around} {E : Value → Shared → Prop} {s : Shared} {b : Heap} {a : Addr} {cs : List Nat} {env : Env} {m : Str → Option Value} {news : List (Addr × Obj)} {x : Str} {body : List Stmt} {Q : Flow → Shared → Prop}
theorem for_cands (F : Fr b env.locals s.heap m) (N : News b env.locals s.heap news) (X : (Mine.hd.heap_39 w.params).In b) (C : CandsAt w b a cs) {op : Obj} (hop : (52, op) ∈ news) (hok : CodeOk op) (hh : A.handled = none)
    (turn : ∀ (k : Nat) (t : Tok) (m₁ : Str → Option Value) (s₁ : Shared) (own : List (Addr × Obj)), k ∈ cs → Fr b env.locals s₁.heap (fun y => if y = x then some (.int k t) else m₁ y) → News b env.locals s₁.heap (own ++ news) → (∀ y, y ≠ x → m₁ y = m y) →
      wpAny (model prog w) A (execs body env) (fun f s₂ => f = .next ∧ ∃ tk, s₂ = { s₁ with toks := tk }) E s₁)
    (done : ∀ (h' : Heap) (tk : Nat) (m' : Str → Option Value), Fr b env.locals h' m' → News b env.locals h' news → (∀ y, y ≠ x → m' y = m y) → Q .next { s with heap := h', toks := tk }) :
    wpAny (model prog w) A (pyIter (.ref a)) (fun it s₂ => LoopAtV prog w A b env x body Q E it s₂) E s := by
  have Xs : (Mine.hd.heap_39 w.params).In s.heap := X.keeps F.keep
  obtain ⟨ps, hd, _⟩ := hok
  have Cs := C.keep F.keep
  refine cands_iter (prog := prog) (A := A) Xs Cs ⟨ps, op, (N _ hop).1, hd⟩ _ _ fun I fp St h₁ k1 hI W hst hfp h52 hfa => ?_
  have F1 : Fr b env.locals h₁ m := ⟨F.ns.keeps k1, fun c o e => k1 c o (F.keep c o e), F.above⟩
  have N1 : News b env.locals h₁ news := fun p hp => ⟨k1 _ _ (N p hp).1, (N p hp).2⟩
  have hbI : b.get? I = none := by
    cases q : b.get? I with
    | none => rfl
    | some o => rw [F.keep _ _ q] at hI; cases hI
  have hnI : ∀ p ∈ news, p.1 ∉ [I] := fun p hp q => by
    rw [List.mem_singleton] at q
    have := (N p hp).1
    rw [q, hI] at this; cases this
  refine ⟨I, fp, [I], cs.length, _, St, m, news, fun _ m₁ nw => nw = news ∧ ∀ y, y ≠ x → m₁ y = m y, rfl, W A hh, ?_, fun c hc => by rw [List.mem_singleton.mp hc]; exact hbI, hnI, hst, F1, N1, ⟨rfl, fun _ _ => rfl⟩, ?_, ?_⟩
  · intro q
    obtain ⟨oL, _, _, hL, _⟩ := F.ns
    rcases hfa _ q with e | e
    · rw [e, hI] at hL; cases hL
    · obtain ⟨oa, hoa, _⟩ := C.at
      have e' : a = env.locals := by cases e; rfl
      have := Heap.lt_size hoa
      rw [e'] at this
      exact absurd this (Nat.not_lt.mpr F.above)
  · rintro i v m₁ nw s₁ own ⟨h', tk', rfl⟩ hi ⟨c, hc, t, rfl⟩ ⟨rfl, hm⟩ hnw _ _ _ _ F₁ N₁
    refine wpAny_mono (turn c t m₁ _ own hc F₁ N₁ hm) (fun f s₂ hs => ?_) fun _ _ e => e
    obtain ⟨rfl, tk, rfl⟩ := hs
    refine LoopStepV.next ⟨rfl, h', tk, _, nw, rfl, F₁, N₁, hnI, rfl, fun y hy => ?_⟩
    show (if y = x then _ else _) = _
    rw [if_neg hy]; exact hm y hy
  · rintro h' tk m' nw F' N' _ ⟨rfl, hm⟩
    exact done h' tk m' F' N' hm
end
/-- an own set as it lies -/
def setO (w : World) (dx : Addr) (C : List Nat) (T : Nat → Tok) (ep : Nat) : Obj := { ownO dx with data := .set (ents C T) ep (tab (byText w) 7 0 C) }
theorem len_led {prog : Program} {w : World} {A : Around} {E : Value → Shared → Prop} {s : Shared} {b : Heap} {L S dx : Addr} {m : Str → Option Value} {news : List (Addr × Obj)} {C : List Nat} {T : Nat → Tok} {ep : Nat} {Q : Value → Shared → Prop}
    (F : Fr b L s.heap m) (N : News b L s.heap news) (X : (Mine.hd.heap_39 w.params).In b) (hm : (S, setO w dx C T ep) ∈ news) (hC : C ∈ subs) {k : Nat} (hk : C.length = k) (h : ∀ t t', Q (.int k t) { s with toks := t' }) :
    wpAny (model prog w) A (call (.builtin "len") [.ref S]) Q E s := by
  subst hk
  have hs : HasSet (byText w) 7 0 (ownO dx) s.heap S C := ⟨T, ep, (N _ hm).1⟩
  exact len_set (own_set (X.keeps F.keep) hs) hC (.inl ⟨rfl, rfl⟩) hs h
theorem ne_same {prog : Program} {w : World} {A : Around} {E : Value → Shared → Prop} {s : Shared} {a : Int} {t t' : Tok} {Q : Value → Shared → Prop} (h : Q (.bool false) s) : wpAny (model prog w) A (compareOp .NotEq (.int a t) (.int a t')) Q E s := by
  refine ne_int ?_
  simpa using h
local macro_rules | `(tactic| walk_at "compareOp NotEq int int") => `(tactic| with_reducible refine ne_same ?_)
local macro_rules | `(tactic| walk_at "call builtin:len") => `(tactic| ((with_reducible show wpAny _ _ (call (Value.builtin "len") [Value.ref _]) _ _ _); (refine len_led (by assumption) (by assumption) (by assumption) (by k_mem) (by assumption) (by assumption) ?_); intro _ _))
local macro_rules | `(tactic| walk_at "call builtin:len") => `(tactic| ((with_reducible show wpAny _ _ (call (Value.builtin "len") [Value.ref _]) _ _ _); (refine cands_len (kx (by assumption) (by assumption)) (CandsAt.keep (by assumption) (Fr.keep (by assumption))) (by assumption) ?_); intro _ _))
local macro_rules | `(tactic| walk_at "eval GeneratorExp") => `(tactic| ((with_reducible show wpAny _ _ (eval _ _) _ _ _); refine Stopped.go ?_))
section
variable {prog : Program} {w : World} {A : Around} {R : Result → Shared → Prop} {h : Heap} {g : Array GenState} {d : Drawn} {t : Nat} {os : OsState} {p : Program} {loose : List Str} {mg mb : Str → Option Value} {a : Addr} {cs : List Nat}
theorem make_cand {v : Value} {ps : Array Value} (X : (Mine.hd.heap_39 w.params).In h) (T : TopRead p loose mg mb h) (Bm : BMd mg h) (hc : h.IsCode 56 52 ps) (hA : Room A 16) (C : CandsAt w h a cs)
    (hcs : ∀ c ∈ cs, c < 4) (hnd : cs.Nodup) (hv : v = .none ∨ ∃ (n : Int) (tn : Tok), v = .int n tn ∧ ∀ c ∈ cs, (c : Int) < n) (hfile : ((prog.main.file : Str) == "/claim/cut.py") = true) (htop : (prog.main.scope.names.lookup ("super" : Str)).isSome = false)
    (k : ∀ S dx s', Kp ⟨h, g, d, t, os⟩ s' → h.get? S = none → h.get? dx = none → s'.heap.get? dx = some emptyDict → HasSet (byText w) 7 0 (ownO dx) s'.heap S (insAll cs []) → R (.ok (.ret (.ref S))) s') :
    codeAny (model prog w) A (.call (.ref 75) ⟨[.ref a], [("num_cand", v)]⟩) R ⟨h, g, d, t, os⟩ := by
  refine make_own rfl (ownMakes_of X (own_in _)) (looks_findIn X (show findIn (Mine.hd.heap_39 w.params) (.ref 75) "__init__" = some (some (.ref 57)) by k_is)) (fun self => bind_fn X self (by k_is)) ?_
  obtain ⟨op, hop, hok⟩ := codeOk_of hc
  have kk := newOwn_keep w h
  have hS0 := newOwn_at w h
  have hD0 := newOwn_dict w h
  have hno := no_at h
  have hno1 : h.get? (h.objs.size + 1) = none := by
    cases q : h.get? (h.objs.size + 1) with
    | none => rfl
    | some o => exact absurd (Heap.lt_size q) (Nat.not_lt.mpr (Nat.le_succ _))
  have hsz : h.objs.size ≤ (newOwn w h).objs.size := Nat.le_of_lt (Heap.lt_size hD0)
  have h52lt := Heap.lt_size hop
  have Xb : (Mine.hd.heap_39 w.params).In (hide52 h) := in_but X hide52_get
  have Tb := top_but T hide52_get
  have bnone : ∀ b, h.get? b = none → (hide52 h).get? b = none := fun b e => by
    cases q : (hide52 h).get? b with
    | none => rfl
    | some o => rw [hide52_of _ _ q] at e; cases e
  generalize hd1 : newOwn w h = h1 at kk hS0 hD0 hsz ⊢
  refine call_clo (b := hide52 h) (news := [(52, op), (h.objs.size + 1, { ownO h.objs.size with data := .set (ents [] fun _ => 0) 0 (tab (byText w) 7 0 []) }), (h.objs.size, { cls := .type "dict", data := .dict #[] })])
    (s := ⟨h1, g, d, t, os⟩) (x1 := "self") (x2 := "candidates") (n := "num_cand") (v1 := .ref (h.objs.size + 1)) (v2 := .ref a) (v := v) (cl := [("__class__", 43)]) Xb Tb (fun b o e => kk _ _ (hide52_of _ _ e)) (by rw [hide52_size]; exact hsz) ?hn (by k_is) (by k_is) (Room.lt (n := 0) (by walk_at "my room")) ?hb rfl rfl rfl (fun _ => rfl) (fun _ => rfl) ?body rfl rfl rfl
  case hn =>
    intro p hp
    simp only [List.mem_cons, List.not_mem_nil, or_false] at hp
    rcases hp with rfl | rfl | rfl
    · exact ⟨kk _ _ hop, hide52_none h⟩
    · exact ⟨hS0, bnone _ hno1⟩
    · exact ⟨hD0, bnone _ hno⟩
  case hb => exact binds_K (by exact X.keeps kk) rfl (by k_is) rfl rfl rfl
  case body =>
    intro L h₁ tk oc F N hcell hlt hbL
    have hk2 : ∀ b o, h.get? b = some o → b ≠ 52 → h₁.get? b = some o := fun b o e n => F.keep b o (hide52_get b o n e)
    have X1 : (Mine.hd.heap_39 w.params).In h₁ := Xb.keeps F.keep
    have Ca : CandsAt w (hide52 h) a cs := by
      obtain ⟨oa, hoa, _, hna⟩ := C.at
      obtain ⟨ps0, e0, _⟩ := hok
      refine C.but (n := 52) (fun q => ?_) hide52_get
      rw [q, hop] at hoa
      cases hoa
      exact hna _ e0
    have hSn : (L + 1, oc) ∈ ((L + 1, oc) :: [(52, op), (h.objs.size + 1, { ownO h.objs.size with data := .set (ents [] fun _ => 0) 0 (tab (byText w) 7 0 []) }), (h.objs.size, { cls := .type "dict", data := .dict #[] })]) := .head _
    have hS1 := (N _ (.tail _ (.tail _ (.head _)))).1
    refine ks_wpAt_execs_cons (super_stmt (S := h.objs.size + 1) (C := insAll cs []) Xb Tb F rfl rfl hS1 rfl (fun c e => by cases e) hfile htop rfl rfl rfl rfl rfl rfl (by walk_at "my room") rfl ?_ ?_)
    · intro A' h2 tk2 R' hA' k2 hR'
      have hS2 := k2 _ _ hS1
      have X2 := X1.keeps k2
      have hSa : h.objs.size + 1 ≠ a := fun q => by
        obtain ⟨oa, hoa, _⟩ := C.at
        rw [← q, hno1] at hoa
        cases hoa
      exact cands_init (s := ⟨h2, g, d, tk2, os⟩) hA' (named_own' X2 hS2 rfl) X2 (Ca.keep fun b o e => k2 b o (F.keep b o e)) hcs hSa ⟨_, _, hS2⟩ hR'
    · intro h2 tk2 k2 hS2
      obtain ⟨T2, ep2, hS2⟩ := hS2
      have hCs : insAll cs [] ∈ subs := insAll_sub (by decide)
      have hmem : ∀ x, x ∈ insAll cs [] ↔ x ∈ cs := fun x => by rw [mem_insAll hcs]; simp
      have hperm : (insAll cs []).Perm cs := (List.perm_ext_iff_of_nodup (sub_nodup hCs) hnd).mpr hmem
      have hlC : (insAll cs []).length = cs.length := hperm.length_eq
      have hlen : cs.length < 1000 := by rw [← hlC]; have := sub_len hCs; omega
      have hbS : (hide52 h).get? (h.objs.size + 1) = none := bnone _ hno1
      have hSL : h.objs.size + 1 ≠ L := Nat.ne_of_lt (hlt _ (.tail _ (.head _)))
      have F2 : Fr (hide52 h) L h2 (fun y => if y = "candidates" then some (.ref a) else if y = "self" then some (.ref (h.objs.size + 1)) else none) :=
        ⟨F.ns.at' fun o e => k2 _ o (Ne.symm hSL) e, fun b o e => k2 b o (fun q => by rw [q, hbS] at e; cases e) (F.keep b o e), F.above⟩
      have n1 : L + 1 ≠ h.objs.size + 1 := Nat.ne_of_gt (Nat.lt_succ_of_lt (hlt _ (.tail _ (.head _))))
      have N2 : News (hide52 h) L h2 [(L + 1, oc), (52, op), (h.objs.size + 1, setO w h.objs.size (insAll cs []) T2 ep2), (h.objs.size, { cls := .type "dict", data := .dict #[] })] := by
        intro p hp
        simp only [List.mem_cons, List.not_mem_nil, or_false] at hp
        rcases hp with rfl | rfl | rfl | rfl
        · exact ⟨k2 _ _ n1 (N _ (.head _)).1, (N _ (.head _)).2⟩
        · exact ⟨k2 _ _ (Nat.ne_of_lt (Nat.lt_succ_of_lt h52lt)) (N _ (.tail _ (.head _))).1, (N _ (.tail _ (.head _))).2⟩
        · exact ⟨hS2, hSL, hbS⟩
        · exact ⟨k2 _ _ (Nat.ne_of_lt (Nat.lt_succ_self _)) (N _ (.tail _ (.tail _ (.tail _ (.head _))))).1, (N _ (.tail _ (.tail _ (.tail _ (.head _))))).2⟩
      have hSn' : h.objs.size + 1 ≠ 52 := Nat.ne_of_gt (Nat.lt_succ_of_lt h52lt)
      have hdn' : h.objs.size ≠ 52 := Nat.ne_of_gt h52lt
      generalize h.objs.size + 1 = S at *
      generalize h.objs.size = dx at *
      clear hS1 hSn hS0 hD0 F N k2 hS2
      dsimp only
      refine PySem.wpAt_of_wpAny ?_
      refine wpAny_execs_cons (wpAny_mono (Q := fun f s' => Stopped (f = .next ∧ ∃ tk, s' = ⟨h2, g, d, tk, os⟩)) (E := fun _ _ => False) ?_ ?_ fun _ _ e => e.elim)
      · k_steps
        exact Stopped.on ⟨rfl, _, rfl⟩
      · intro f s' hs
        obtain ⟨rfl, tk3, rfl⟩ := Stopped.go hs
        dsimp only
        refine wpAny_execs_cons ?_
        refine For_invV (hide52 h) rfl rfl ?_
        refine nameX_L F2 rfl ?_
        refine for_cands F2 N2 Xb Ca (.tail _ (.head _)) hok (Room.handled (n := 0) (by walk_at "my room")) ?_ ?_
        · intro k t3 m3 s3 own hkc F3 N3 hm3
          obtain ⟨h3, g3, d3, t3', os3⟩ := s3
          refine wpAny_mono (Q := fun f s' => Stopped (f = .next ∧ ∃ tk, s' = ⟨h3, g3, d3, tk, os3⟩)) (E := fun _ _ => False) ?_ (fun f s' hs => Stopped.go hs) fun _ _ e => e.elim
          k_steps
          exact Stopped.on ⟨rfl, _, rfl⟩
        · intro h3 tk3 m3 F3 N3 hm3
          dsimp only
          have hv1 : m3 "candidates" = some (.ref a) := hm3 _ (by decide)
          have X3 : (Mine.hd.heap_39 w.params).In h3 := Xb.keeps F3.keep
          have T3 := Tb.keeps F3.keep
          have Bm3 : BMd mg h3 := bmd_but Bm fun b o n e => F3.keep b o (hide52_get b o n e)
          obtain ⟨ps3, hd3, ht3⟩ := id hok
          have hc3 : h3.IsCode 56 52 ps3 := isCode_re hc (fun o e => F3.keep _ _ (hide52_get _ _ (by decide) e)) (N3 _ (.tail _ (.head _))).1 hd3 ht3
          refine wpAny_execs_cons ?_
          refine wpAny_mono (Q := fun f s' => Stopped (f = .next ∧ Kp ⟨h3, g, d, tk3, os⟩ s')) (E := fun _ _ => False) ?_ ?_ fun _ _ e => e.elim
          · k_steps
            refine Stopped.on (wpAny_of_in1 (eval_gen (cl := []) (xv := .ref a) (n := cs.length) (P := fun _ v => ∃ c ∈ cs, ∃ t, v = .int (c : Nat) t) (tst := fun _ => true) rfl rfl T3 Bm3 hc3 rfl rfl (by decide) rfl rfl rfl (Room.lt (n := 0) (by walk_at "my room")) (Room.handled (n := 0) (by walk_at "my room")) ?it ?ev ?elt ?fin (fun _ => rfl)))
            case it => exact cands_iter X3 (Ca.keep F3.keep) ⟨ps3, op, (N3 _ (.tail _ (.head _))).1, hd3⟩
            case ev => intro Q' hq'; exact nameX_L F3 hv1 hq'
            case elt =>
              rintro A' E' i v C' code s₂ m₂ hA' ⟨c, hc', t', rfl⟩ hns hm2 hk3
              refine wpAny_Compare1 ?_
              refine wpAny_Name (wpAny_loadName_local rfl rfl hns hm2 ?_)
              refine wpAny_Constant_int ?_
              refine ge_int ?_
              exact ⟨by simp, s₂.heap, _, rfl, fun _ _ e => e⟩
            case fin =>
              intro ga s' hR
              refine Calls.spliced_nil ?_
              refine call_all_gen hc3 hR fun s4 hK => ?_
              rw [show ((List.range cs.length).all fun _ => true) = true from by simp]
              obtain ⟨h4, g4, d4, t4, os4⟩ := s4
              k_steps
              exact Stopped.on ⟨rfl, hK⟩
          · intro f s' hs
            obtain ⟨rfl, hK⟩ := Stopped.go hs
            dsimp only
            obtain ⟨h4, g4, d4, t4, os4⟩ := s'
            have e1 : d4 = d := hK.drawn
            have e2 : os4 = os := hK.os
            subst e1 e2
            obtain ⟨ps4, hc4⟩ := hK.code
            obtain ⟨op4, hop4, hok4⟩ := codeOk_of hc4
            have h52L : 52 < L := hlt _ (.head _)
            have F4 : Fr (hide52 h) L h4 m3 := ⟨F3.ns.at' fun o e => hK.keep _ o (Nat.ne_of_gt h52L) e, fun b o e => hK.keep b o (fun q => by rw [q, hide52_none] at e; cases e) (F3.keep b o e), F3.above⟩
            have N4 : News (hide52 h) L h4 [(L + 1, oc), (52, op4), (S, setO w dx (insAll cs []) T2 ep2), (dx, { cls := .type "dict", data := .dict #[] })] := by
              intro p hp
              simp only [List.mem_cons, List.not_mem_nil, or_false] at hp
              rcases hp with rfl | rfl | rfl | rfl
              · exact ⟨hK.keep _ _ (Nat.ne_of_gt (Nat.lt_succ_of_lt h52L)) (N3 _ (.head _)).1, (N3 _ (.head _)).2⟩
              · exact ⟨hop4, (N3 _ (.tail _ (.head _))).2⟩
              · exact ⟨hK.keep _ _ hSn' (N3 _ (.tail _ (.tail _ (.head _)))).1, (N3 _ (.tail _ (.tail _ (.head _)))).2⟩
              · exact ⟨hK.keep _ _ hdn' (N3 _ (.tail _ (.tail _ (.tail _ (.head _))))).1, (N3 _ (.tail _ (.tail _ (.tail _ (.head _))))).2⟩
            have X4 : (Mine.hd.heap_39 w.params).In h4 := Xb.keeps F4.keep
            have T4 := Tb.keeps F4.keep
            have Bm4 : BMd mg h4 := bmd_but Bm fun b o n e => F4.keep b o (hide52_get b o n e)
            obtain ⟨ps5, hd5, ht5⟩ := id hok4
            have hbr4 := hK.bare
            have hg34 : Cd56 h → GrowO op op4 := fun hC => hK.tab (hC.mono fun o e => F3.keep _ _ (hide52_get _ _ (by decide) e)) _ _ (N3 _ (.tail _ (.head _))).1 hop4
            clear F3 N3 F2 N2 hK
            rcases hv with rfl | ⟨n, tn, rfl, hn⟩
            · k_steps
              refine ⟨rfl, ?_⟩
              exact k S dx _ ⟨fun b o n e => F4.keep b o (hide52_get b o n e), ⟨ps4, hc4⟩, rfl, rfl, hbr4, fun hC o o' e e' => by
                cases hop.symm.trans e
                cases e'.symm.trans (N4 _ (.tail _ (.head _))).1
                exact hg34 hC⟩ hno1 hno (N4 _ (.tail _ (.tail _ (.tail _ (.head _))))).1 ⟨T2, ep2, (N4 _ (.tail _ (.tail _ (.head _)))).1⟩
            · skip
              k_steps
              refine Stopped.on (wpAny_of_in1 (eval_gen (cl := [("num_cand", L + 1)]) (xv := .ref a) (n := cs.length) (P := fun _ v => ∃ c ∈ cs, ∃ t, v = .int (c : Nat) t) (tst := fun _ => false) rfl rfl T4 Bm4 hc4 rfl rfl (by decide) rfl rfl rfl (Room.lt (n := 0) (by walk_at "my room")) (Room.handled (n := 0) (by walk_at "my room")) ?it ?ev ?elt ?fin (fun _ => rfl)))
              case it => exact cands_iter X4 (Ca.keep F4.keep) ⟨ps5, op4, (N4 _ (.tail _ (.head _))).1, hd5⟩
              case ev => intro Q' hq'; exact nameX_L F4 hv1 hq'
              case elt =>
                rintro A' E' i v' C' code s₂ m₂ hA' ⟨c, hc', t', rfl⟩ hns hm2 hk3
                refine wpAny_Compare1 ?_
                refine wpAny_Name (wpAny_loadName_local rfl rfl hns hm2 ?_)
                refine wpAny_Name (wpAny_loadName_free rfl rfl rfl ⟨oc, hk3 _ _ (Nat.ne_of_gt (Nat.lt_succ_of_lt h52L)) (N4 _ (.head _)).1, hcell⟩ ?_)
                refine ge_int ?_
                have := hn c hc'
                exact ⟨by simp; omega, s₂.heap, _, rfl, fun _ _ e => e⟩
              case fin =>
                intro ga s' hR
                refine Calls.spliced_nil ?_
                refine call_any_gen hc4 hR fun s5 hK => ?_
                rw [show ((List.range cs.length).any fun _ => false) = false from by simp]
                obtain ⟨h5, g5, d5, t5, os5⟩ := s5
                k_steps
                refine ⟨rfl, ?_⟩
                refine k S dx _ ⟨fun b o n e => hK.keep b o n (F4.keep b o (hide52_get b o n e)), hK.code, hK.drawn, hK.os, fun x => hK.bare (hbr4 x), fun hC o o' e e' => by
                  cases hop.symm.trans e
                  exact (hg34 hC).trans (hK.tab (hC.mono fun o e => F4.keep _ _ (hide52_get _ _ (by decide) e)) _ _ (N4 _ (.tail _ (.head _))).1 e')⟩ hno1 hno (hK.keep _ _ hdn' (N4 _ (.tail _ (.tail _ (.tail _ (.head _))))).1) ⟨T2, ep2, hK.keep _ _ hSn' (N4 _ (.tail _ (.tail _ (.head _)))).1⟩
end
end
section
/-- a voter: its instance, its dict, its set -/
structure VoterAt (w : World) (h : Heap) (x : Addr) (wt : Int) (C : List Nat) : Prop where
  out : ∃ dx S dS t es ep, h.get? x = some (instObj 514 dx) ∧ h.get? dx = some (dictOf es ep) ∧ getL "approved" es = some (some (.ref S)) ∧ getL "weight" es = some (some (.int wt t)) ∧ HasSet (byText w) 7 0 (ownO dS) h S C ∧ h.get? dS = some emptyDict
theorem frame_kp {b : Heap} {L : Addr} {m : Str → Option Value} {op : Obj} {rest : List (Addr × Obj)} {s s' : Shared} (F : Fr b L s.heap m) (N : News b L s.heap ((52, op) :: rest)) (hr : ∀ p ∈ rest, p.1 ≠ 52) (hK : Kp s s') :
    ∃ op', CodeOk op' ∧ Fr b L s'.heap m ∧ News b L s'.heap ((52, op') :: rest) ∧ (Cd56 s.heap → GrowO op op') := by
  obtain ⟨ps4, hc4⟩ := hK.code
  obtain ⟨op4, hop4, hok4⟩ := codeOk_of hc4
  have n52 := N _ (.head _)
  refine ⟨op4, hok4, ⟨F.ns.at' fun o e => hK.keep _ o (Ne.symm n52.2.1) e, fun c o e => hK.keep c o (fun q => by rw [q, n52.2.2] at e; cases e) (F.keep c o e), F.above⟩, ?_, fun hC => hK.tab hC _ _ n52.1 hop4⟩
  intro p hp
  rcases List.mem_cons.mp hp with rfl | hp
  · exact ⟨hop4, n52.2⟩
  · exact ⟨hK.keep _ _ (hr p hp) (N _ (.tail _ hp)).1, (N _ (.tail _ hp)).2⟩
local macro_rules | `(tactic| walk_at "call ref") => `(tactic| ((with_reducible show wpAny _ _ (call (Value.ref 75) _ _) _ _ _); refine Stopped.go ?_))
section
variable {prog : Program} {w : World} {A : Around} {R : Result → Shared → Prop} {h : Heap} {g : Array GenState} {d : Drawn} {t : Nat} {os : OsState} {p : Program} {loose : List Str} {mg mb : Str → Option Value} {a : Addr} {cs : List Nat}
theorem make_voter {v : Value} {ps : Array Value} {wt : Int} {tw : Tok} {kw : List (Str × Value)} (X : (Mine.hd.heap_39 w.params).In h) (T : TopRead p loose mg mb h) (Bm : BMd mg h) (hc : h.IsCode 56 52 ps) (hA : Room A 24) (C : CandsAt w h a cs)
    (hcs : ∀ c ∈ cs, c < 4) (hnd : cs.Nodup) (hv : v = .none ∨ ∃ (n : Int) (tn : Tok), v = .int n tn ∧ ∀ c ∈ cs, (c : Int) < n) (hfile : ((prog.main.file : Str) == "/claim/cut.py") = true) (htop : (prog.main.scope.names.lookup ("super" : Str)).isSome = false)
    (hwt : 0 < wt) (hkw : (kw = [(("weight" : Str), Value.int wt tw)] ∧ v = .none) ∨ kw = [(("weight" : Str), Value.int wt tw), ("num_cand", v)])
    (k : ∀ x s', Kp ⟨h, g, d, t, os⟩ s' → h.get? x = none → VoterAt w s'.heap x wt (insAll cs []) → R (.ok (.ret (.ref x))) s') :
    codeAny (model prog w) A (.call (.ref 514) ⟨[.ref a], kw⟩) R ⟨h, g, d, t, os⟩ := by
  refine make_core (makes_of X (by k_is)) (looks_findIn X (show findIn (Mine.hd.heap_39 w.params) (.ref 514) "__init__" = some (some (.ref 496)) by k_is)) (fun self => bind_fn X self (by k_is)) (.inl rfl) ?_
  obtain ⟨op, hop, hok⟩ := codeOk_of hc
  have kk : ∀ b o, h.get? b = some o → ((h.push emptyDict).push (instObj 514 h.objs.size)).get? b = some o := fun b o e => Heap.get?_push_of_some _ (Heap.get?_push_of_some _ e)
  have hx0 : ((h.push emptyDict).push (instObj 514 h.objs.size)).get? (h.objs.size + 1) = some (instObj 514 h.objs.size) := by heap_get
  have hD0 : ((h.push emptyDict).push (instObj 514 h.objs.size)).get? h.objs.size = some emptyDict := Heap.get?_push_of_some _ (Heap.get?_push_size _ rfl)
  have hno := no_at h
  have hno1 : h.get? (h.objs.size + 1) = none := by
    cases q : h.get? (h.objs.size + 1) with
    | none => rfl
    | some o => exact absurd (Heap.lt_size q) (Nat.not_lt.mpr (Nat.le_succ _))
  have hsz : h.objs.size ≤ ((h.push emptyDict).push (instObj 514 h.objs.size)).objs.size := Nat.le_of_lt (Heap.lt_size hD0)
  have h52lt := Heap.lt_size hop
  have Xb : (Mine.hd.heap_39 w.params).In (hide52 h) := in_but X hide52_get
  have Tb := top_but T hide52_get
  have bnone : ∀ b, h.get? b = none → (hide52 h).get? b = none := fun b e => by
    cases q : (hide52 h).get? b with
    | none => rfl
    | some o => rw [hide52_of _ _ q] at e; cases e
  have X1 := X.keeps kk
  generalize (h.push emptyDict).push (instObj 514 h.objs.size) = h1 at kk hx0 hD0 hsz X1 ⊢
  refine call_led (b := hide52 h) (news := [(52, op), (h.objs.size + 1, instObj 514 h.objs.size), (h.objs.size, emptyDict)]) (s := ⟨h1, g, d, t, os⟩) (binds := [("self", .ref (h.objs.size + 1)), ("approved", .ref a), ("weight", .int wt tw), ("num_cand", v)]) Xb Tb (fun b o e => kk _ _ (hide52_of _ _ e)) (by rw [hide52_size]; exact hsz) ?hn (by k_is) (by k_is) (Room.lt (n := 0) (by walk_at "my room")) ?hb (locs rfl) ?body rfl rfl rfl (by decide)
  case hn =>
    intro p hp
    simp only [List.mem_cons, List.not_mem_nil, or_false] at hp
    rcases hp with rfl | rfl | rfl
    · exact ⟨kk _ _ hop, hide52_none h⟩
    · exact ⟨hx0, bnone _ hno1⟩
    · exact ⟨hD0, bnone _ hno⟩
  case hb =>
    rcases hkw with ⟨rfl, rfl⟩ | rfl
    · exact binds_K X1 rfl (by k_is) rfl rfl rfl
    · exact binds_K X1 rfl (by k_is) rfl rfl rfl
  case body =>
    intro L h₁ F N
    have hSn' : h.objs.size + 1 ≠ 52 := Nat.ne_of_gt (Nat.lt_succ_of_lt h52lt)
    have hdn' : h.objs.size ≠ 52 := Nat.ne_of_gt h52lt
    have hne : h.objs.size < h.objs.size + 1 := Nat.lt_succ_self _
    k_steps
    have Ca : CandsAt w (hide52 h) a cs := by
      obtain ⟨oa, hoa, _, hna⟩ := C.at
      obtain ⟨ps0, e0, _⟩ := hok
      refine C.but (n := 52) (fun q => ?_) hide52_get
      rw [q, hop] at hoa
      cases hoa
      exact hna _ e0
    obtain ⟨ps1, hd1, ht1⟩ := id hok
    have hc1 := isCode_re hc (fun o e => F.keep _ _ (hide52_get _ _ (by decide) e)) (N _ (.head _)).1 hd1 ht1
    refine Stopped.on (wpAny_call (make_cand (Xb.keeps F.keep) (Tb.keeps F.keep) (bmd_but Bm fun b o n e => F.keep b o (hide52_get b o n e)) hc1 (by walk_at "my room") (Ca.keep F.keep) hcs hnd hv hfile htop fun S dS s' hK hS hdS hdd hset => ?_))
    dsimp only
    obtain ⟨op2, hok2, F2, N2, hgr⟩ := frame_kp F N (fun p hp => by
      simp only [List.mem_cons, List.not_mem_nil, or_false] at hp
      rcases hp with rfl | rfl
      · exact hSn'
      · exact hdn') hK
    have hbl : ∀ c, h₁.get? c = none → (hide52 h).get? c = none := fun c e => by
      cases q : (hide52 h).get? c with
      | none => rfl
      | some o => rw [F.keep _ _ q] at e; cases e
    have hLl : ∃ o, h₁.get? L = some o := by obtain ⟨oL, _, _, hL, _⟩ := F.ns; exact ⟨oL, hL⟩
    obtain ⟨oL, hLl⟩ := hLl
    have nS : S ≠ L := fun q => by rw [q, hLl] at hS; cases hS
    have nd : dS ≠ L := fun q => by rw [q, hLl] at hdS; cases hdS
    have hxg := (N _ (.tail _ (.head _))).1
    have hdg := (N _ (.tail _ (.tail _ (.head _)))).1
    have h52g := (N _ (.head _)).1
    obtain ⟨TS, epS, hset⟩ := hset
    have N3 : News (hide52 h) L s'.heap [(52, op2), (h.objs.size + 1, instObj 514 h.objs.size), (h.objs.size, emptyDict), (S, setO w dS (insAll cs []) TS epS), (dS, emptyDict)] := by
      intro p hp
      simp only [List.mem_cons, List.not_mem_nil, or_false] at hp
      rcases hp with rfl | rfl | rfl | rfl | rfl
      · exact N2 _ (.head _)
      · exact N2 _ (.tail _ (.head _))
      · exact N2 _ (.tail _ (.tail _ (.head _)))
      · exact ⟨hset, nS, hbl _ hS⟩
      · exact ⟨hdd, nd, hbl _ hdS⟩
    have a1 : S ≠ h.objs.size := fun q => by rw [q, hdg] at hS; cases hS
    have a2 : dS ≠ h.objs.size := fun q => by rw [q, hdg] at hdS; cases hdS
    have a3 : (52 : Nat) ≠ h.objs.size := Ne.symm hdn'
    have a4 : h.objs.size + 1 ≠ h.objs.size := Nat.succ_ne_self _
    obtain ⟨h2, g2, d2, t2, os2⟩ := s'
    have hbr := hK.bare
    have hgr2 : Cd56 h → GrowO op op2 := fun hC => hgr (hC.mono fun o e => F.keep _ _ (hide52_get _ _ (by decide) e))
    have e1 : d2 = d := hK.drawn
    have e2 : os2 = os := hK.os
    subst e1 e2
    clear N2 N F hset hdd hS hdS hxg hdg h52g
    generalize h.objs.size + 1 = x at *
    generalize h.objs.size = dx at *
    k_steps
    rename Fr _ _ _ _ => F'
    rename News _ _ _ _ => N'
    refine ⟨rfl, ?_⟩
    obtain ⟨ps2, hd2, ht2⟩ := id hok2
    refine k x _ ⟨fun b o n e => F'.keep b o (hide52_get b o n e), ⟨ps2, isCode_re hc (fun o e => F'.keep _ _ (hide52_get _ _ (by decide) e)) (N' (52, op2) (by k_mem)).1 hd2 ht2⟩, rfl, rfl, hbr, fun hC o o' e e' => by
      cases hop.symm.trans e
      cases e'.symm.trans (N' (52, op2) (by k_mem)).1
      exact hgr2 hC⟩ hno1 ?_
    refine ⟨dx, S, dS, _, _, _, (N' (x, instObj 514 dx) (by k_mem)).1, (N' (dx, _) (by k_mem)).1, by rfl, by rfl, ⟨TS, epS, (N' (S, setO w dS (insAll cs []) TS epS) (by k_mem)).1⟩, (N' (dS, emptyDict) (by k_mem)).1⟩
end
end
section
section
variable {prog : Program} {w : World} {A : Around} {s : Shared} {p : Program} {loose : List Str} {mg mb : Str → Option Value} {R : Result → Shared → Prop}
local macro_rules | `(tactic| walk_at "exec Raise") => `(tactic| (exfalso; omega))
local macro_rules | `(tactic| walk_at "exec While Name cons nil") => `(tactic| (refine Stopped.go ?_))
set_option pp.deepTerms false in
set_option pp.deepTerms.threshold 6 in
theorem frac_one {a : Int} {t : Tok} (X : (Mine.hd.heap_39 w.params).In s.heap) (T : TopRead p loose mg mb s.heap) (hA : Room A 8)
   (k : ∀ x s', Ke s s' → FracAt s'.heap x (45360 * a) → R (.ok (.ret (.ref x))) s') :
   codeAny (model prog w) A (.call (.ref 237) ⟨[.int a t], []⟩) R s := by
  obtain ⟨h, g, d, tk, os⟩ := s
  refine make_core (makes_of X (by k_is)) (looks_findIn X (by k_is)) (fun self => bind_fn X self (by k_is)) (.inl rfl) ?_
  refine' call_led (b := h) (news := [(h.objs.size + 1, instObj 237 h.objs.size), (h.objs.size, dictOf [] 0)]) X T ?hb ?hs ?hn ?k1 ?k2 ?k3 ?k4 ?k5 ?_ ?c1 ?c2 ?c3 ?c4
  case hb => exact fun c o e => Heap.get?_push_of_some _ (Heap.get?_push_of_some _ e)
  case hs => simp only [Heap.size_push]; omega
  case hn =>
    have none_at : ∀ c : Nat, h.objs.size ≤ c → h.get? c = none := fun c hc => by
      cases q : h.get? c with
      | none => rfl
      | some o => exact absurd (Heap.lt_size q) (Nat.not_lt.mpr hc)
    intro p hp
    simp only [List.mem_cons, List.not_mem_nil, or_false] at hp
    rcases hp with rfl | rfl
    · exact ⟨by heap_get, none_at _ (Nat.le_succ _)⟩
    · exact ⟨Heap.get?_push_of_some _ (Heap.get?_push_size _ rfl), none_at _ (Nat.le_refl _)⟩
  case k1 => k_is
  case k2 => k_is
  case k3 => k_room
  case k4 => exact binds_K (Frag.In.keeps X (fun c o e => Heap.get?_push_of_some _ (Heap.get?_push_of_some _ e))) rfl (by k_is) rfl rfl rfl
  case k5 => exact locs rfl
  case c1 => rfl
  case c2 => rfl
  case c3 => rfl
  case c4 => decide
  intro L h₁ F N
  have lt : @LT.lt Nat _ h.objs.size (h.objs.size + 1) := Nat.lt_succ_self _
  dsimp only
  k_steps
  refine Stopped.on ?_
  rename Fr _ _ _ _ => F'
  rename News _ _ _ _ => N'
  refine euclid_while F' N' (by rfl) (by rfl) (by omega) ?_ ?_ ?_
  · rw [fmod_pos_eq (by omega)]
    exact Int.emod_nonneg _ (by omega)
  · intro dv rs u1 u2 h₁ tk₁ hdv hrs F₁ N₁
    clear F' N'
    k_steps
    · rename Fr _ _ _ _ => F'
      rename News _ _ _ _ => N'
      refine Stopped.on ⟨rfl, by assumption, _, _, rfl, fun p hp => N' p (.tail _ hp), _, _, fr_nf F' (by rfl) (by rfl) ?_⟩
      intro y h1 h2
      simp only [nf, if_neg h1, if_neg h2]
    · rename Fr _ _ _ _ => F'
      rename News _ _ _ _ => N'
      exact Stopped.on ⟨by omega, _, _, rfl, N', F'⟩
  · intro gg u1 u2 h₁ tk₁ hg0 hg F₁ N₁
    clear F' N'
    have hgcd : gg = (Int.gcd a 1 : Int) := by
      rw [hg, fmod_pos_eq (by omega)]; simp
    have hgb : gg ≤ 1 := by
      rw [hgcd]; simp
    k_steps
    rename Fr _ _ _ _ => F'
    rename News _ _ _ _ => N'
    obtain ⟨r1, r2, r3⟩ := frac_norm (b := 1) (by decide) hgcd
    dsimp only [InitBack]
    refine ⟨rfl, k _ _ (Ke.of F'.keep) ⟨(a * 1).fdiv gg, (1 : Int).fdiv gg, by exact FrAt.mk (InstAt.of_news N' (by k_mem) (by k_mem)), Norm.of_frac (a := a) (b := 1) (by decide) (by omega) r1 (by rw [Int.mul_one a]; exact r2) (by rw [Int.mul_one a]; exact r3)⟩⟩
end
end
section
/-- the step of score function q at i, in 45360ths -/
def F (q : Nat) (i : Int) : Int := if i = 0 then 0 else match q with
  | 0 => 45360 / i
  | 1 => 45360 / (2 * i - 1)
  | 2 => if i = 1 then 45360 else 0
  | 3 => 45360
  | 4 => if i = 1 then 45360 else 45360 / (i - 1)
  | 5 => 45360 / 2 ^ (i - 1).toNat
  | _ => 45360 / 3 ^ (i - 1).toNat
local macro_rules | `(tactic| walk_at "call ref") => `(tactic| ((with_reducible show wpAny _ _ (call (Value.ref 237) [Value.int _ _, Value.int _ _]) _ _ _); (refine Stopped.go ?_)))
local macro_rules | `(tactic| walk_at "call ref") => `(tactic| ((with_reducible show wpAny _ _ (call (Value.ref 237) [Value.int _ _]) _ _ _); (refine Stopped.go ?_)))
section
variable {prog : Program} {w : World} {A : Around} {s : Shared} {p : Program} {loose : List Str} {mg mb : Str → Option Value} {R : Result → Shared → Prop}
theorem six {P : Int → Prop} {i : Int} (h0 : 0 ≤ i) (h5 : i ≤ 5) (a0 : P 0) (a1 : P 1) (a2 : P 2) (a3 : P 3) (a4 : P 4) (a5 : P 5) : P i := by
  have : i = 0 ∨ i = 1 ∨ i = 2 ∨ i = 3 ∨ i = 4 ∨ i = 5 := by omega
  rcases this with rfl | rfl | rfl | rfl | rfl | rfl <;> assumption
theorem sc_pav {i : Int} {t : Tok} (X : (Mine.hd.heap_39 w.params).In s.heap) (T : TopRead p loose mg mb s.heap) (hA : Room A 12) (h0 : 0 ≤ i) (h5 : i ≤ 5)
   (k : ∀ v s', Ke s s' → NumAt s'.heap v (F 0 i) → R (.ok (.ret v)) s') :
   codeAny (model prog w) A (.call (.ref 292) ⟨[.int i t], []⟩) R s := by
  walk_at "my enter"
  k_steps
  · rename Fr _ _ _ _ => kF
    exact k _ _ (.of kF.keep) (.inl ⟨0, _, rfl, by unfold F; rw [if_pos (by omega)]; rfl⟩)
  · rename Fr _ _ _ _ => kF
    refine Stopped.on (wpAny_call (frac_new' (z := F 0 i) (kx kF X) (tx kF T) (by walk_at "my room") (by omega) (by omega) ?_ ?_))
    · clear k kF
      have h1 : i ≠ 0 := by assumption
      revert h1
      exact six (P := fun i => i ≠ 0 → 1 * 45360 = F 0 i * i) h0 h5 (by decide) (by decide) (by decide) (by decide) (by decide) (by decide)
    · exact fun y s' hk hy => k _ s' (.trans (.of kF.keep) hk) (.inr ⟨y, rfl, hy⟩)

theorem sc_adams {i : Int} {t : Tok} (X : (Mine.hd.heap_39 w.params).In s.heap) (T : TopRead p loose mg mb s.heap) (hA : Room A 12) (h0 : 0 ≤ i) (h5 : i ≤ 5)
   (k : ∀ v s', Ke s s' → NumAt s'.heap v (F 4 i) → R (.ok (.ret v)) s') :
   codeAny (model prog w) A (.call (.ref 299) ⟨[.int i t], []⟩) R s := by
  walk_at "my enter"
  k_steps
  · rename Fr _ _ _ _ => kF
    exact k _ _ (.of kF.keep) (.inl ⟨0, _, rfl, by unfold F; rw [if_pos (by omega)]; rfl⟩)
  · rename Fr _ _ _ _ => kF
    have h1 : i = 1 := by omega
    subst h1
    exact k _ _ (.of kF.keep) (.inl ⟨1, _, rfl, by decide⟩)
  · rename Fr _ _ _ _ => kF
    refine Stopped.on (wpAny_call (frac_new' (z := F 4 i) (kx kF X) (tx kF T) (by walk_at "my room") (by omega) (by omega) ?_ ?_))
    · clear k kF
      have h1 : 2 ≤ i := by omega
      revert h1
      exact six (P := fun i => 2 ≤ i → 1 * 45360 = F 4 i * (i - 1)) h0 h5 (by decide) (by decide) (by decide) (by decide) (by decide) (by decide)
    · exact fun y s' hk hy => k _ s' (.trans (.of kF.keep) hk) (.inr ⟨y, rfl, hy⟩)
theorem sc_slav {i : Int} {t : Tok} (X : (Mine.hd.heap_39 w.params).In s.heap) (T : TopRead p loose mg mb s.heap) (hA : Room A 12) (h0 : 0 ≤ i) (h5 : i ≤ 5)
   (k : ∀ v s', Ke s s' → NumAt s'.heap v (F 1 i) → R (.ok (.ret v)) s') :
   codeAny (model prog w) A (.call (.ref 306) ⟨[.int i t], []⟩) R s := by
  walk_at "my enter"
  k_steps
  · rename Fr _ _ _ _ => kF
    exact k _ _ (.of kF.keep) (.inl ⟨0, _, rfl, by unfold F; rw [if_pos (by omega)]; rfl⟩)
  · rename Fr _ _ _ _ => kF
    refine Stopped.on (wpAny_call (frac_new' (z := F 1 i) (kx kF X) (tx kF T) (by walk_at "my room") (by omega) (by omega) ?_ ?_))
    · clear k kF
      have h1 : i ≠ 0 := by assumption
      revert h1
      exact six (P := fun i => i ≠ 0 → 1 * 45360 = F 1 i * (2 * i - 1)) h0 h5 (by decide) (by decide) (by decide) (by decide) (by decide) (by decide)
    · exact fun y s' hk hy => k _ s' (.trans (.of kF.keep) hk) (.inr ⟨y, rfl, hy⟩)
theorem sc_cc {i : Int} {t : Tok} (X : (Mine.hd.heap_39 w.params).In s.heap) (T : TopRead p loose mg mb s.heap) (hA : Room A 12) (h0 : 0 ≤ i) (h5 : i ≤ 5)
   (k : ∀ v s', Ke s s' → NumAt s'.heap v (F 2 i) → R (.ok (.ret v)) s') :
   codeAny (model prog w) A (.call (.ref 320) ⟨[.int i t], []⟩) R s := by
  walk_at "my enter"
  k_steps
  · rename Fr _ _ _ _ => kF
    have h1 : i = 1 := by omega
    subst h1
    refine Stopped.on (wpAny_call (frac_one (kx kF X) (tx kF T) (by walk_at "my room") ?_))
    exact fun y s' hk hy => k _ s' (.trans (.of kF.keep) hk) (.inr ⟨y, rfl, hy⟩)
  · rename Fr _ _ _ _ => kF
    refine Stopped.on (wpAny_call (frac_one (kx kF X) (tx kF T) (by walk_at "my room") ?_))
    have e : F 2 i = 45360 * 0 := by
      unfold F
      by_cases q : i = 0
      · rw [if_pos q]; rfl
      · rw [if_neg q]
        show (if i = 1 then _ else _) = _
        rw [if_neg (by omega)]; rfl
    exact fun y s' hk hy => k _ s' (.trans (.of kF.keep) hk) (.inr ⟨y, rfl, by rw [e]; exact hy⟩)
theorem sc_av {i : Int} {t : Tok} (X : (Mine.hd.heap_39 w.params).In s.heap) (T : TopRead p loose mg mb s.heap) (hA : Room A 12) (h0 : 0 ≤ i) (h5 : i ≤ 5)
   (k : ∀ v s', Ke s s' → NumAt s'.heap v (F 3 i) → R (.ok (.ret v)) s') :
   codeAny (model prog w) A (.call (.ref 313) ⟨[.int i t], []⟩) R s := by
  walk_at "my enter"
  k_steps
  · rename Fr _ _ _ _ => kF
    refine Stopped.on (wpAny_call (frac_one (kx kF X) (tx kF T) (by walk_at "my room") ?_))
    have e : F 3 i = 45360 * 1 := by
      unfold F
      rw [if_neg (by omega)]
      rfl
    exact fun y s' hk hy => k _ s' (.trans (.of kF.keep) hk) (.inr ⟨y, rfl, by rw [e]; exact hy⟩)
  · rename Fr _ _ _ _ => kF
    refine Stopped.on (wpAny_call (frac_one (kx kF X) (tx kF T) (by walk_at "my room") ?_))
    have e : F 3 i = 45360 * 0 := by
      unfold F
      rw [if_pos (by omega)]; rfl
    exact fun y s' hk hy => k _ s' (.trans (.of kF.keep) hk) (.inr ⟨y, rfl, by rw [e]; exact hy⟩)
theorem sc_geom {i b : Int} {t u : Tok} {q : Nat} (hq : (q = 5 ∧ b = 2) ∨ (q = 6 ∧ b = 3)) (X : (Mine.hd.heap_39 w.params).In s.heap) (T : TopRead p loose mg mb s.heap) (hA : Room A 12) (h0 : 0 ≤ i) (h5 : i ≤ 5)
   (k : ∀ v s', Ke s s' → NumAt s'.heap v (F q i) → R (.ok (.ret v)) s') :
   codeAny (model prog w) A (.call (.ref 285) ⟨[.int i t], [("base", .int b u)]⟩) R s := by
  revert k
  rcases hq with ⟨rfl, rfl⟩ | ⟨rfl, rfl⟩
  all_goals
    refine six (P := fun i => (∀ v s', Ke s s' → NumAt s'.heap v (F _ i) → R (.ok (.ret v)) s') → codeAny (model prog w) A (.call (.ref 285) ⟨[.int i t], [("base", .int _ u)]⟩) R s) h0 h5 ?_ ?_ ?_ ?_ ?_ ?_
  all_goals
    intro k
    walk_at "my enter"
    k_steps
    rename Fr _ _ _ _ => kF
    first
    | exact k _ _ (.of kF.keep) (.inl ⟨0, _, rfl, by decide⟩)
    | exact Stopped.on (wpAny_call (frac_new' (kx kF X) (tx kF T) (by walk_at "my room") (by decide) (by decide) (by decide) (fun y s' hk hy => k _ s' (.trans (.of kF.keep) hk) (.inr ⟨y, rfl, hy⟩))))
end
end
section
theorem pt_mro : mroOf (.type "functools.partial") = pure [.type "functools.partial", .type "object"] := by rw [mroOf_type]; kernel_rfl
theorem pt_lookup_new : typeLookup (.type "functools.partial") "__new__" = pure (some (.builtin "functools.partial.__new__")) := by rw [typeLookup_type, builtinLookup_eq_fast]; kernel_rfl
theorem pt_slot_init : Slot "functools.partial" "__init__" "object.__init__" :=
  .of (owner := "object") (n := "__init__") (by rw [typeLookup_type, builtinLookup_eq_fast]; kernel_rfl) (by decide +kernel) (by decide +kernel) (by decide +kernel)
    (by first | exact .inl (by decide +kernel) | exact .inr (by decide +kernel)) (by rw [isSubtype_type]; kernel_rfl)
theorem pt_called : TypeCalled "functools.partial" "functools.partial.__new__" "object.__init__" :=
  ⟨by decide +kernel, by decide +kernel, ⟨_, _, pt_mro⟩, madeBy_type pt_mro pt_lookup_new (by decide +kernel), by decide +kernel, by rw [isSubtype_type]; kernel_rfl, pt_slot_init⟩
theorem pt_typeCall (a b : Value) : checkTypeCall "functools.partial" ⟨[a], [("base", b)]⟩ = pure () := by kernel_rfl
theorem pt_newCall (a b : Value) : checkBuiltinCall "functools.partial.__new__" ⟨[.type "functools.partial", a], [("base", b)]⟩ = pure () := by kernel_rfl
theorem pt_plain : plainId "functools.partial.__new__" = true := by decide +kernel
theorem pt_entry : entryFor table "functools.partial.__new__" = some Builtin.«functools.partial.__new__» := entryFor_of_tree (by kernel_rfl)
theorem pt_entry_call : entryFor table "functools.partial.__call__" = some Builtin.«functools.partial.__call__» := entryFor_of_tree (by kernel_rfl)
theorem pt_slot_call : typeLookup (.type "functools.partial") "__call__" = pure (some (.builtin "functools.partial.__call__")) := by rw [typeLookup_type, builtinLookup_eq_fast]; kernel_rfl
theorem pt_kind_call : builtinKind "functools.partial.__call__" = some .slot := by decide +kernel
theorem pt_split_call : splitId "functools.partial.__call__" = some ("functools.partial", "__call__") := by decide +kernel
theorem pt_bind_call (v : Value) : bindSpecial (.builtin "functools.partial.__call__") v = pure (.builtin "functools.partial.__call__", [v]) := by
  simp only [bindSpecial, typeOf, builtinType, show withoutEnding? "functools.partial.__call__" "#opaque" = none from by decide +kernel, show withoutEnding? "functools.partial.__call__" "#data" = none from by decide +kernel, pt_kind_call]; rfl
theorem pt_args (a b : Value) : argsOk "functools.partial.__call__" ⟨[a, b], []⟩ := by unfold argsOk; kernel_rfl
theorem pt_args_init (a b c : Value) : argsOk "object.__init__" ⟨[a, b], [("base", c)]⟩ := by unfold argsOk; kernel_rfl
theorem pt_sub : isSubtype (.type "functools.partial") (.type "functools.partial") = pure true := by rw [isSubtype_type]; kernel_rfl
theorem pt_sub_fn : isSubtype (.type "function") (.type "functools.partial") = pure false := by rw [isSubtype_type]; kernel_rfl
theorem pt_fn_call : typeLookup (.type "function") "__call__" = pure (some (.builtin "function.__call__")) := by rw [typeLookup_type, builtinLookup_eq_fast]; kernel_rfl
end
section
/-- a partial of the geometric step, with its base -/
def PartAt (h : Heap) (pa : Addr) (b : Int) : Prop := ∃ tp kd hsh t u n, h.get? pa = some { cls := .type "functools.partial", data := .fields #[.ref 285, .ref tp, .ref kd] } ∧
  h.get? tp = some { cls := .type "tuple", data := .seq #[] } ∧ h.get? kd = some { cls := .type "dict", data := .dict #[⟨hsh, .str "base" t, .int b u⟩] n } ∧ kd ≠ sysModules
theorem PartAt.keep {h h' : Heap} {pa : Addr} {b : Int} (P : PartAt h pa b) (k : ∀ b o, h.get? b = some o → h'.get? b = some o) : PartAt h' pa b := by
  obtain ⟨tp, kd, hsh, t, u, n, a1, a2, a3, a4⟩ := P
  exact ⟨tp, kd, hsh, t, u, n, k _ _ a1, k _ _ a2, k _ _ a3, a4⟩
section
variable {prog : Program} {w : World} {A : Around} {E : Value → Shared → Prop} {s : Shared}
theorem ns_first {a : Addr} {c : Value} {name : Str} {v : Value} {Q : Unit → Shared → Prop} (ho : s.heap.get? a = some { cls := c, data := .dict #[] })
    (h : ∀ h' hsh t, Heap.SameBut a s.heap h' → h'.get? a = some { cls := c, data := .dict #[⟨hsh, .str name t, v⟩] 1 } → Q () { s with heap := h', toks := s.toks + 1 }) :
    wpAny (model prog w) A (nsSetByValue a name v) Q E s := by
  unfold nsSetByValue
  refine wpAny_bind (wpAny_loadPart ho ?_)
  dsimp only
  rw [if_neg (by simp)]
  unfold nsSet
  refine wpAny_bind ?_
  unfold strHash
  refine wpAny_bind (wpAny_askSetting (wpAny_pure ?_))
  refine wpAny_bind (wpAny_mkText ?_)
  refine wpAny_bind (wpAny_loadPart ho ?_)
  dsimp only
  rw [aRefKeyMayBeTheName_at]
  rw [if_neg (by simp)]
  refine wpAny_updatePart ho ?_
  refine h _ (if name.cps.isEmpty = true then 0 else reduceHash ((model prog w).w.params.strHash name.cps)) s.toks (Heap.SameBut.update ..) ?_
  rw [Heap.get?_update_self _ ho rfl]
  rfl
theorem code_pt_new {b : Int} {u : Tok} {o285 : Obj} {Q₁ : Value → Shared → Prop} (h285 : s.heap.get? 285 = some o285) (hc : o285.cls = .type "function") (hsys : sysModules < s.heap.objs.size)
    (h : ∀ pa h', (∀ c o, s.heap.get? c = some o → h'.get? c = some o) → PartAt h' pa b → ∀ tk, Q₁ (.ref pa) { s with heap := h', toks := tk }) :
    codeAny (model prog w) A (.call (.builtin "functools.partial.__new__") ⟨[.type "functools.partial", .ref 285], [("base", .int b u)]⟩) (wants Q₁ E) s := by
  refine codeAny_of_tree ?_
  show wpAny _ A.in1 (do checkBuiltinCall "functools.partial.__new__" ⟨[.type "functools.partial", .ref 285], [("base", .int b u)]⟩; again (.builtin "functools.partial.__new__" ⟨[.type "functools.partial", .ref 285], [("base", .int b u)]⟩)) _ _ s
  refine wpAny_bind (wpAny_of_eq (pt_newCall _ _) (wpAny_pure ⟨plainId_quiet pt_plain _, codeAny_builtin pt_entry ?_⟩))
  rw [Around.under_plainId pt_plain _]
  have hT : s.TypeIs (.ref 285) "function" := ⟨o285, h285, hc⟩
  have hsub := pt_sub
  have hsf := pt_sub_fn
  have hfc := pt_fn_call
  unfold Builtin.«functools.partial.__new__»
  k_delta "partialTy"
  k_delta "isCallable"
  k_delta "entriesOf"
  repeat (first | (with_reducible refine ns_first (c := .type "dict") (Heap.get?_push_size _ rfl) ?_) | wp_step)
  intro h1 hsh tk1 hs hg
  have k1 : ∀ c o, s.heap.get? c = some o → h1.get? c = some o := fun c o e => (hs.2 c (Nat.ne_of_lt (Heap.lt_size e))).trans (Heap.get?_push_of_some _ e)
  dsimp only
  have hk : s.heap.objs.size ≠ sysModules := Ne.symm (Nat.ne_of_lt hsys)
  clear hs
  generalize s.heap.objs.size = kd at hg hk ⊢
  repeat wp_step
  refine h _ _ (fun c o e => Heap.get?_push_of_some _ (Heap.get?_push_of_some _ (k1 c o e))) ⟨h1.objs.size, kd, hsh, tk1, u, 1, Heap.get?_push_size _ rfl, Heap.get?_push_of_some _ (Heap.get?_push_size _ rfl), Heap.get?_push_of_some _ (Heap.get?_push_of_some _ hg), hk⟩ _
theorem call_partial {b : Int} {u : Tok} {o285 : Obj} {Q : Value → Shared → Prop} (h285 : s.heap.get? 285 = some o285) (hc : o285.cls = .type "function") (hsys : sysModules < s.heap.objs.size)
    (h : ∀ pa s', Ke s s' → PartAt s'.heap pa b → Q (.ref pa) s') :
    wpAny (model prog w) A (call (.type "functools.partial") [.ref 285] [("base", .int b u)]) Q E s := by
  refine wpAny_call (codeAny_of_tree ?_)
  show wpAny _ _ (callAny (.type "functools.partial") _) _ _ _
  refine wpAny_pure ⟨Code.quiet_builtin _ (by decide +kernel), codeAny_builtin PySem.F.entry_type_call ?_⟩
  rw [Around.under_plain (weight_type_call_type "functools.partial" [.ref 285] [("base", .int b u)]) rfl]
  repeat (first | with_reducible refine wpAny_pure ?_ | with_reducible refine wpAny_bind ?_ | with_reducible refine wpAny_holding ?_ | with_reducible refine wpAny_standAt ?_ | with_reducible refine wpAny_point ?_ | with_reducible refine wpAny_typeOf (by assumption) ?_ | with_reducible refine wpAny_call ?_ | with_reducible refine wpAny_runValue ?_ | with_reducible refine wpAny_run ?_ | with_reducible refine wpAny_of_eq pt_mro ?_ | with_reducible refine wpAny_of_eq pt_called.made ?_ | with_reducible refine wpAny_of_eq pt_called.sub ?_ | with_reducible refine wpAny_of_eq (pt_typeCall _ _) ?_ | with_reducible refine wpAny_of_eq pt_called.init.lookup ?_ | with_reducible refine wpAny_of_eq (pt_called.init.bind _) ?_ | with_reducible refine wpAny_ite_false pt_called.canCreate ?_ | with_reducible refine wpAny_ite_false pt_called.notType ?_ | wp_delta | wp_step)
  refine codeAny_mono (code_pt_new (b := b) (u := u) h285 hc hsys (E := E) (Q₁ := fun obj s₁ => ∃ pa, obj = .ref pa ∧ Ke s s₁ ∧ PartAt s₁.heap pa b) ?_) fun r s₁ hr => ?_
  · intro pa h' k P tk
    exact ⟨pa, rfl, .of k, P⟩
  cases r with
  | error e => exact hr
  | ok fl =>
    cases fl with
    | ret obj =>
      obtain ⟨pa, rfl, hk, P⟩ := hr
      have P' := P
      obtain ⟨tp, kd, hsh, t, u', n, a1, a2, a3, a4⟩ := P'
      have hT : s₁.TypeIs (.ref pa) "functools.partial" := ⟨_, a1, rfl⟩
      have hq := h pa s₁ hk P
      clear a1 a2 a3 P h hk
      repeat (first | with_reducible refine wpAny_pure ?_ | with_reducible refine wpAny_bind ?_ | with_reducible refine wpAny_holding ?_ | with_reducible refine wpAny_standAt ?_ | with_reducible refine wpAny_point ?_ | with_reducible refine wpAny_typeOf (by assumption) ?_ | with_reducible refine wpAny_call ?_ | with_reducible refine wpAny_runValue ?_ | with_reducible refine wpAny_run ?_ | with_reducible refine wpAny_of_eq pt_mro ?_ | with_reducible refine wpAny_of_eq pt_called.made ?_ | with_reducible refine wpAny_of_eq pt_called.sub ?_ | with_reducible refine wpAny_of_eq (pt_typeCall _ _) ?_ | with_reducible refine wpAny_of_eq pt_called.init.lookup ?_ | with_reducible refine wpAny_of_eq (pt_called.init.bind _) ?_ | with_reducible refine wpAny_ite_false pt_called.canCreate ?_ | with_reducible refine wpAny_ite_false pt_called.notType ?_ | wp_delta | wp_step)
      have hok := pt_args_init (.ref pa) (.ref 285) (.int b u)
      refine codeAny_mono (codeAny_call_builtin (R := fun r s' => r = .ok (.ret .none) ∧ s' = s₁) pt_called.init.plain PySem.F.entry_object_init (pt_called.init.check _ _ _ _ _ _ _ _ hT hok ?_)) fun r₂ s₂ hr₂ => ?_
      · unfold Builtin.«object.__init__»
        repeat (first | with_reducible refine wpAny_pure ?_ | with_reducible refine wpAny_bind ?_ | with_reducible refine wpAny_holding ?_ | with_reducible refine wpAny_standAt ?_ | with_reducible refine wpAny_point ?_ | with_reducible refine wpAny_typeOf (by assumption) ?_ | with_reducible refine wpAny_call ?_ | with_reducible refine wpAny_runValue ?_ | with_reducible refine wpAny_run ?_ | with_reducible refine wpAny_of_eq pt_mro ?_ | with_reducible refine wpAny_of_eq pt_called.made ?_ | with_reducible refine wpAny_of_eq pt_called.sub ?_ | with_reducible refine wpAny_of_eq (pt_typeCall _ _) ?_ | with_reducible refine wpAny_of_eq pt_called.init.lookup ?_ | with_reducible refine wpAny_of_eq (pt_called.init.bind _) ?_ | with_reducible refine wpAny_ite_false pt_called.canCreate ?_ | with_reducible refine wpAny_ite_false pt_called.notType ?_ | wp_delta | wp_step)
        exact ⟨rfl, rfl⟩
      · obtain ⟨rfl, rfl⟩ := hr₂
        refine wpAny_pure ?_
        dsimp only
        rw [if_neg (by decide)]
        exact wpAny_pure hq
    | _ => exact hr.elim
end
end
section
section
variable {prog : Program} {w : World} {A : Around} {E : Value → Shared → Prop} {s : Shared} {p : Program} {loose : List Str} {mg mb : Str → Option Value}
theorem Room.part {args : Args} {n : Nat} (h : Room A (n + 1)) : Room (A.under (.builtin "functools.partial.__call__" args)) n :=
  ⟨by have := h.depth; show A.depth + 1 + n < 900; omega, by have := h.units; show A.units + 1 + 20 * n < 9000; omega, h.handled⟩
theorem call_part {pa : Addr} {i b : Int} {t : Tok} {q : Nat} {Q : Value → Shared → Prop} (P : PartAt s.heap pa b) (hq : (q = 5 ∧ b = 2) ∨ (q = 6 ∧ b = 3)) (X : (Mine.hd.heap_39 w.params).In s.heap) (T : TopRead p loose mg mb s.heap) (hA : Room A 20) (h0 : 0 ≤ i) (h5 : i ≤ 5)
    (k : ∀ v s', Ke s s' → NumAt s'.heap v (F q i) → Q v s') :
    wpAny (model prog w) A (call (.ref pa) [.int i t]) Q E s := by
  obtain ⟨tp, kd, hsh, tk, u, n, a1, a2, a3, a4⟩ := P
  have hT : s.TypeIs (.ref pa) "functools.partial" := ⟨_, a1, rfl⟩
  refine wpAny_call (codeAny_of_tree ?_)
  show wpAny _ A.in1 (callAny (.ref pa) _) _ _ _
  unfold callAny
  refine wpAny_bind (wpAny_load a1 ?_)
  dsimp only
  rw [if_neg (by decide)]
  unfold callAny.viaDunder
  refine wpAny_bind (wpAny_specialOf hT pt_slot_call ?_)
  dsimp only
  refine wpAny_bind (wpAny_of_eq (pt_bind_call _) ?_)
  dsimp only
  refine wpAny_bind (wpAny_pure ?_)
  rw [if_neg (by decide)]
  refine wpAny_bind (wpAny_cRoom (Room.un (n := 0) (by walk_at "my room")) ?_)
  refine wpAny_bind (wpAny_runValue ?_)
  have Li : Looks (model prog w) s.heap (isInstance (.ref pa) (.type "functools.partial")) true := (type_at a1 rfl).andThen (Looks.of_pure pt_sub)
  have hqt : (Code.builtin "functools.partial.__call__" ⟨[.ref pa, .int i t], []⟩).quiet = true := Code.quiet_builtin _ (by decide +kernel)
  show codeAny (model prog w) A.in1 (.call (.builtin "functools.partial.__call__") ⟨[.ref pa, .int i t], []⟩) _ s
  refine codeAny_call_builtin_at hqt pt_entry_call ?_
  refine @check_slot (model prog w) _ _ s "functools.partial.__call__" "functools.partial" "__call__" (.ref pa) [.int i t] [] _ pt_kind_call pt_split_call Li (pt_args _ _) ?_
  have hR : Room (A.in1.under (.builtin "functools.partial.__call__" ⟨[.ref pa, .int i t], []⟩)) 18 := Room.part (by walk_at "my room")
  generalize A.in1.under (.builtin "functools.partial.__call__" ⟨[.ref pa, .int i t], []⟩) = A2 at hR ⊢
  unfold Builtin.«functools.partial.__call__»
  k_delta "entriesOf"
  dsimp only
  refine wpAny_bind (wpAny_cRoom (Room.un (n := 0) (by walk_at "my room")) ?_)
  have f0 : (#[.ref 285, .ref tp, .ref kd] : Array Value)[0]? = some (.ref 285) := rfl
  have f1 : (#[.ref 285, .ref tp, .ref kd] : Array Value)[1]? = some (.ref tp) := rfl
  have f2 : (#[.ref 285, .ref tp, .ref kd] : Array Value)[2]? = some (.ref kd) := rfl
  refine wpAny_bind (wpAny_field a1 rfl f2 ?_)
  dsimp only
  unfold notTheModulesDict
  rw [if_neg (by simpa using a4)]
  refine wpAny_bind (wpAny_bind (wpAny_pure ?_))
  unfold dictEntries
  refine wpAny_bind (wpAny_loadPart a3 ?_)
  refine wpAny_pure ?_
  rw [← Array.forIn_toList, List.forIn_cons]
  refine wpAny_bind (wpAny_bind (wpAny_pure ?_))
  dsimp only
  rw [List.forIn_nil]
  refine wpAny_pure (wpAny_bind (wpAny_field a1 rfl f1 ?_))
  refine wpAny_bind (wpAny_seqItems a2 rfl ?_)
  refine wpAny_bind (wpAny_field a1 rfl f0 ?_)
  refine wpAny_bind (wpAny_holding ?_)
  show wpAny _ A2 (call (.ref 285) [.int i t] [("base", .int b u)]) _ _ s
  refine wpAny_call (sc_geom hq X T (by walk_at "my room") h0 h5 fun v s' hk hv => ?_)
  exact wpAny_pure (wpAny_pure (k v s' hk hv))
/-- v is the step of score function q -/
def StepAt (h : Heap) (q : Nat) (v : Value) : Prop := (q = 0 ∧ v = .ref 292) ∨ (q = 1 ∧ v = .ref 306) ∨ (q = 2 ∧ v = .ref 320) ∨ (q = 3 ∧ v = .ref 313) ∨ (q = 4 ∧ v = .ref 299) ∨ (q = 5 ∧ ∃ pa, v = .ref pa ∧ PartAt h pa 2) ∨ (q = 6 ∧ ∃ pa, v = .ref pa ∧ PartAt h pa 3)
theorem StepAt.keep {h h' : Heap} {q : Nat} {v : Value} (S : StepAt h q v) (k : ∀ b o, h.get? b = some o → h'.get? b = some o) : StepAt h' q v := by
  rcases S with h | h | h | h | h | ⟨e, pa, e', P⟩ | ⟨e, pa, e', P⟩
  · exact .inl h
  · exact .inr (.inl h)
  · exact .inr (.inr (.inl h))
  · exact .inr (.inr (.inr (.inl h)))
  · exact .inr (.inr (.inr (.inr (.inl h))))
  · exact .inr (.inr (.inr (.inr (.inr (.inl ⟨e, pa, e', P.keep k⟩)))))
  · exact .inr (.inr (.inr (.inr (.inr (.inr ⟨e, pa, e', P.keep k⟩)))))
theorem StepAt.ref {h : Heap} {q : Nat} {v : Value} (S : StepAt h q v) : ∃ a, v = .ref a := by
  rcases S with ⟨_, e⟩ | ⟨_, e⟩ | ⟨_, e⟩ | ⟨_, e⟩ | ⟨_, e⟩ | ⟨_, pa, e, _⟩ | ⟨_, pa, e, _⟩ <;> exact ⟨_, e⟩
theorem call_step {v : Value} {i : Int} {t : Tok} {q : Nat} {Q : Value → Shared → Prop} (S : StepAt s.heap q v) (X : (Mine.hd.heap_39 w.params).In s.heap) (T : TopRead p loose mg mb s.heap) (hA : Room A 20) (h0 : 0 ≤ i) (h5 : i ≤ 5)
    (k : ∀ v s', Ke s s' → NumAt s'.heap v (F q i) → Q v s') :
    wpAny (model prog w) A (call v [.int i t]) Q E s := by
  rcases S with ⟨rfl, rfl⟩ | ⟨rfl, rfl⟩ | ⟨rfl, rfl⟩ | ⟨rfl, rfl⟩ | ⟨rfl, rfl⟩ | ⟨rfl, pa, rfl, P⟩ | ⟨rfl, pa, rfl, P⟩
  · exact wpAny_call (sc_pav X T (by walk_at "my room") h0 h5 k)
  · exact wpAny_call (sc_slav X T (by walk_at "my room") h0 h5 k)
  · exact wpAny_call (sc_cc X T (by walk_at "my room") h0 h5 k)
  · exact wpAny_call (sc_av X T (by walk_at "my room") h0 h5 k)
  · exact wpAny_call (sc_adams X T (by walk_at "my room") h0 h5 k)
  · exact call_part P (.inl ⟨rfl, rfl⟩) X T hA h0 h5 k
  · exact call_part P (.inr ⟨rfl, rfl⟩) X T hA h0 h5 k
end
end
section
section
variable {M : Model} {A : Around} {E : Value → Shared → Prop} {s : Shared} {env : Env}
theorem callWith_type_kw {pos : Pos} {T : String} {e : Expr} {rest : List Expr} {kws : List Keyword} {Q : Value → Shared → Prop}
    (h : wpAny M A (spliced (backTo pos (starEach (e :: rest) env))) (fun vs s₁ => wpAny M A (evalAll ((backToKw pos (keywordEach kws env)).map (·.2)))
      (fun kvs s₂ => wpAny M A (call (.type T) vs (((backToKw pos (keywordEach kws env)).filterMap (·.1)).zip kvs)) Q E s₂) E s₁) E s)
    (he : backTo pos (starEach (e :: rest) env) = (false, eval e env) :: backTo pos (starEach rest env) := by rfl)
    (hplain : (backTo pos (starEach (e :: rest) env)).any (·.1) = false := by rfl)
    (hall : (backToKw pos (keywordEach kws env)).all (·.1.isSome) = true := by rfl)
    (hkw : (backToKw pos (keywordEach kws env)).any (·.1.isNone) = false := by rfl) :
    wpAny M A (callWith pos (.type T) [] (backTo pos (starEach (e :: rest) env)) (backToKw pos (keywordEach kws env))) Q E s := by
  rw [he] at h
  have h2 := evalArgs_kwB (f := .type T) (Q := fun a s₁ => wpAny M A (call (.type T) ([] ++ a.pos) a.kw) Q E s₁) hall h
  rw [← he] at h2
  unfold callWith
  refine wpAny_bind (wpAny_holding (wpAny_mono h2 (fun a s₁ h₁ => wpAny_bind (wpAny_standAt ?_)) fun _ _ x => x))
  simp only [hplain, hkw, Bool.or_false]
  refine wpAny_bind (wpAny_pure ?_)
  exact wpAny_bind (wpAny_mono h₁ (fun r s₂ hr => wpAny_bind (wpAny_holding (wpAny_point (wpAny_pure hr)))) fun _ _ x => x)
end
section
variable {prog : Program} {w : World} {A : Around} {E : Value → Shared → Prop} {env : Env} {m : Str → Option Value} {s : Shared}
/-- an if over a str that is another one -/
theorem if_miss {x c v : Str} {tv : Tok} {px pc pcmp pos : Pos} {kd : Nat} {body : List Stmt} {Q : Flow → Shared → Prop}
    (hsk : env.scope.kind = .function) (hk : env.kindOf x = some .local) (hns : s.heap.Ns env.locals m) (hm : m x = some (.str v tv)) (hd : (x == ("__debug__" : Str)) = false) (hne : (v == c) = false) (k : ∀ tk, Q .next { s with toks := tk }) :
    wpAny (model prog w) A (exec (.If (.Compare (.Name x px) [.Eq] [.Constant (.str c) kd pc] pcmp) body [] pos) env) Q E s := by
  refine wpAny_If (wpAny_isTrue_Compare1 (wpAny_Name (wpAny_loadName_local hsk hk hns hm (wpAny_Constant_str (PyProof.Rows.eq_str (wpAny_truthy_bool ?_)))) hd))
  rw [hne]
  exact wpAny_execs_nil (k _)
end
local macro_rules | `(tactic| walk_at "exec If") => `(tactic| (refine' if_miss ?a ?b ?c ?d ?e ?f ?_; (case c => k_dflt (exact Fr.ns (by assumption))); (case a => k_dflt rfl); (case b => k_dflt rfl); (case d => k_dflt rfl); (case e => k_dflt decide); (case f => k_dflt decide); intro _))
local macro_rules | `(tactic| walk_at "callWith type:functools.partial") => `(tactic| (refine callWith_type_kw ?_))
local macro_rules | `(tactic| walk_at "evalAll") => `(tactic| first | refine kws_cons ?_ | refine kws_nil ?_)
local macro_rules | `(tactic| walk_at "call type:functools.partial") => `(tactic| (refine Stopped.go ?_))
section
variable {prog : Program} {w : World} {A : Around} {E : Value → Shared → Prop} {s : Shared} {p : Program} {loose : List Str} {mg mb : Str → Option Value} {R : Result → Shared → Prop}
theorem fn285 (p : Params) : ∃ d fd sl, (Mine.hd.heap_39 p).lookup 285 = some ⟨.type "function", d, .func fd, sl⟩ := by
  (repeat apply Exists.intro); k_is
theorem sys_lt {h : Heap} (X : (Mine.hd.heap_39 w.params).In h) : sysModules < h.objs.size := by
  obtain ⟨d, fd, sl, e⟩ := fn285 w.params
  have h1 := Heap.lt_size (X _ _ e)
  have h2 : sysModules ≤ 285 := by decide
  exact Nat.lt_of_le_of_lt h2 h1
theorem call_partial' {b : Int} {u : Tok} {Q : Value → Shared → Prop} (X : (Mine.hd.heap_39 w.params).In s.heap)
    (h : ∀ pa s', Ke s s' → PartAt s'.heap pa b → Q (.ref pa) s') :
    wpAny (model prog w) A (call (.type "functools.partial") [.ref 285] [("base", .int b u)]) Q E s := by
  obtain ⟨d, fd, sl, e⟩ := fn285 w.params
  exact call_partial (X _ _ e) rfl (sys_lt X) h
def nameQ : Nat → Str
  | 0 => "pav" | 1 => "slav" | 2 => "cc" | 3 => "av" | 4 => "adams" | 5 => "geom2" | _ => "geom3"
theorem seven {P : Nat → Prop} {q : Nat} (h : q < 7) (a0 : P 0) (a1 : P 1) (a2 : P 2) (a3 : P 3) (a4 : P 4) (a5 : P 5) (a6 : P 6) : P q := by
  have : q = 0 ∨ q = 1 ∨ q = 2 ∨ q = 3 ∨ q = 4 ∨ q = 5 ∨ q = 6 := by omega
  rcases this with rfl | rfl | rfl | rfl | rfl | rfl | rfl <;> assumption
theorem fd271 (P : Params) : ∃ oc od fd sl, (Mine.hd.heap_39 P).lookup 271 = some ⟨oc, od, .func fd, sl⟩ ∧
    (∀ (s : Shared) (x : Str) (t : Tok), (Mine.hd.heap_39 P).In s.heap → BindsTo s fd ⟨[.str x t], []⟩ [("scorefct_id", .str x t), ("committeesize", .none)]) ∧
    (∀ (s : Shared) (x : Str) (t : Tok) (m : Int) (u : Tok), (Mine.hd.heap_39 P).In s.heap → BindsTo s fd ⟨[.str x t, .int m u], []⟩ [("scorefct_id", .str x t), ("committeesize", .int m u)]) := by
  repeat apply Exists.intro
  refine ⟨?_, ?_, ?_⟩
  · k_is
  · intro s x t X
    exact binds_K X rfl (by k_is) rfl rfl rfl
  · intro s x t m u X
    exact binds_K X rfl (by k_is) rfl rfl rfl
theorem get_step {t : Tok} {q : Nat} {args : Args} {cv : Value} (hq : q < 7) (X : (Mine.hd.heap_39 w.params).In s.heap) (T : TopRead p loose mg mb s.heap) (hA : Room A 12)
   (hb : ∀ fd oc od sl, (Mine.hd.heap_39 w.params).lookup 271 = some ⟨oc, od, .func fd, sl⟩ → BindsTo s fd args [("scorefct_id", .str (nameQ q) t), ("committeesize", cv)])
   (k : ∀ v s', Ke s s' → StepAt s'.heap q v → R (.ok (.ret v)) s') :
   codeAny (model prog w) A (.call (.ref 271) args) R s := by
  revert k hb
  refine seven (P := fun q => (∀ fd oc od sl, (Mine.hd.heap_39 w.params).lookup 271 = some ⟨oc, od, .func fd, sl⟩ → BindsTo s fd args [("scorefct_id", .str (nameQ q) t), ("committeesize", cv)]) → (∀ v s', Ke s s' → StepAt s'.heap q v → R (.ok (.ret v)) s') → codeAny (model prog w) A (.call (.ref 271) args) R s) hq ?_ ?_ ?_ ?_ ?_ ?_ ?_
  all_goals
    intro hb k
    dsimp only [nameQ] at hb
    refine' call_top ?X ?T ?k1 ?k2 ?k3 ?k4 ?k5 ?_ ?c1 ?c2 ?c3 ?c4
    case X => exact X
    case T => assumption
    case k1 => k_is
    case k2 => k_is
    case k3 => k_room
    case k4 => exact hb _ _ _ _ (by k_is)
    case k5 => exact locs rfl
    case c1 => rfl
    case c2 => rfl
    case c3 => rfl
    case c4 => decide
    intro L h₁ F N
    k_steps
    rename Fr _ _ _ _ => kF
    first
    | (refine k _ _ (.of kF.keep) ?_
       simp only [StepAt]
       simp)
    | exact Stopped.on (call_partial' (kx kF X) fun pa s' hk P => k _ s' (.trans (.of kF.keep) hk) (by simp only [StepAt]; simp; exact P))
theorem get_step1 {t : Tok} {q : Nat} (hq : q < 7) (X : (Mine.hd.heap_39 w.params).In s.heap) (T : TopRead p loose mg mb s.heap) (hA : Room A 12)
   (k : ∀ v s', Ke s s' → StepAt s'.heap q v → R (.ok (.ret v)) s') :
   codeAny (model prog w) A (.call (.ref 271) ⟨[.str (nameQ q) t], []⟩) R s := by
  obtain ⟨oc, od, fd, sl, e, b1, b2⟩ := fd271 w.params
  exact get_step hq X T hA (fun fd' oc' od' sl' e' => by
    cases e.symm.trans e'
    exact b1 _ _ _ X) k
theorem get_step2 {t u : Tok} {m : Int} {q : Nat} (hq : q < 7) (X : (Mine.hd.heap_39 w.params).In s.heap) (T : TopRead p loose mg mb s.heap) (hA : Room A 12)
   (k : ∀ v s', Ke s s' → StepAt s'.heap q v → R (.ok (.ret v)) s') :
   codeAny (model prog w) A (.call (.ref 271) ⟨[.str (nameQ q) t, .int m u], []⟩) R s := by
  obtain ⟨oc, od, fd, sl, e, b1, b2⟩ := fd271 w.params
  exact get_step hq X T hA (fun fd' oc' od' sl' e' => by
    cases e.symm.trans e'
    exact b2 _ _ _ _ _ X) k
end
end
section
section
variable {prog : Program} {w : World} {A : Around} {E : Value → Shared → Prop} {s : Shared} {env : Env}
theorem rng_small {n : Nat} (hn : n ≤ 14) : Builtin.Range.small 0 n 1 = true ∧ Builtin.Range.rangeSize 0 n 1 = n := by
  have : ∀ n ∈ List.range 15, Builtin.Range.small 0 (n : Nat) 1 = true ∧ Builtin.Range.rangeSize 0 (n : Nat) 1 = (n : Nat) := by decide +kernel
  exact this n (List.mem_range.mpr (by omega))
theorem iters_range {r : Addr} {n : Nat} {t u v : Tok} (hr : IsRange s.heap r 0 n 1 t u v) (hn : n ≤ 14) (hs : 52 < s.heap.objs.size) : Iters prog w A (.ref r) n (fun i v => ∃ t, v = .int (i : Nat) t) s := by
  obtain ⟨h1, h2⟩ := rng_small hn
  intro Q E h
  refine wpAny_pyIter_range hr h1 ?_
  rw [h2]
  have Wr : ∀ A' : Around, A'.handled = none → Walks prog w A' s.heap.objs.size [s.heap.objs.size] [s.heap.objs.size] n (fun i v => ∃ t, v = .int (i : Nat) t) (fun i h => IsRangeIter h s.heap.objs.size (0 + (i : Nat) * 1) ((n : Int) - (i : Nat)) 1) := fun A' hA' => by
    have W := Walks.range (prog := prog) (w := w) hA' s.heap.objs.size 0 1 n
    refine ⟨W.sub, W.frame, fun i s Q E hi st k => W.item i s Q E hi st fun v s' tk hP => k v s' tk ?_, W.done, W.self⟩
    obtain ⟨t, e⟩ := hP
    exact ⟨t, by rw [e, Int.zero_add, Int.mul_one]⟩
  refine h s.heap.objs.size [s.heap.objs.size] _ _ (fun b o e => Heap.get?_push_of_some _ e) (no_at _) Wr (by show IsRangeIter _ _ _ _ _; simpa using Heap.get?_push_size _ rfl) ?_ ?_ ?_
  · intro b hb
    rw [List.mem_singleton.mp hb]
    exact ⟨_, Heap.get?_push_size _ rfl⟩
  · intro hb
    exact absurd hs (by rw [List.mem_singleton.mp hb]; exact Nat.lt_irrefl _)
  · intro b hb
    exact .inl (List.mem_singleton.mp hb)
theorem comp_iters {elt iter : Expr} {x : Str} {px : Pos} {ifs : List Expr} {scope : Scope} {cl : List (Str × Addr)} {pos : Pos} {Q : Value → Shared → Prop} (p : Value → Bool) (Fv : Value → Value → Prop)
    (hclos : closureFor scope env = pure cl) (hcell : ∀ y ∈ scope.names, y.2 ≠ .cell) (hkind : scope.kind = .function)
    (hnames : ∀ y ∈ scope.names, y.2 = .local → scope.names.lookup y.1 = some .local) (hx : scope.names.lookup x = some .local) (hh : A.handled = none)
    (h : wpAny (model prog w) A (eval iter env) (fun xv s₁ => ∃ n P, n ≤ 1000 ∧ Iters prog w A xv n P s₁ ∧
      (∀ C i v (s₃ : Shared) m₃ E', P i v → s₃.heap.Ns C m₃ → m₃ x = some v → (∀ b o, s₁.heap.get? b = some o → s₃.heap.get? b = some o) →
        wpAny (model prog w) A (forIn ifs true fun c r => if r = true then do let ok ← isTrue c (compEnvC scope cl C env) (eval c (compEnvC scope cl C env)); pure (ForInStep.yield ok) else pure (ForInStep.yield r))
          (fun ok s₄ => ok = p v ∧ Keeps s₃ s₄) E' s₃) ∧
      (∀ C i v (s₃ : Shared) m₃ E', P i v → p v = true → s₃.heap.Ns C m₃ → m₃ x = some v → (∀ b o, s₁.heap.get? b = some o → s₃.heap.get? b = some o) →
        wpAny (model prog w) A (eval elt (compEnvC scope cl C env)) (fun y s₄ => Fv v y ∧ Keeps s₃ s₄) E' s₃) ∧
      (∀ D h' tk ys (vs : List Value), s₁.heap.get? D = none → h'.IsList D ys → vs.length = n → (∀ j v, vs[j]? = some v → P j v) → Paired Fv (vs.filter p) ys.toList →
        (∀ b o, s₁.heap.get? b = some o → h'.get? b = some o) → Q (.ref D) { s₁ with heap := h', toks := tk })) E s)
    (hs : ∀ x, foldedSetIterable iter env x = pure x := by intro _; rfl) :
    wpAny (model prog w) A (eval (.ListComp elt [⟨.Name x px, iter, ifs, 0⟩] scope pos) env) Q E s := by
  refine wpAny_ListComp_free p Fv hclos hcell hkind hnames hx (wpAny_mono h (fun xv s₁ h₁ => ?_) fun _ _ e => e) hs
  obtain ⟨n, P, hn, hit, htest, helt, hQ⟩ := h₁
  refine hit _ _ fun I fp St h₁ k1 hI W hst hfp _ _ => ⟨I, fp, [I], n, P, St, rfl, W A hh, Nat.le_trans hn (by rw [sizeLine_eq]; omega), hst, fun b hb => by obtain ⟨o, e⟩ := hfp b hb; exact Heap.lt_size e, ?_, ?_⟩
  · have kk : ∀ s₃ : Shared, (∀ b o, b ∉ [I] → h₁.get? b = some o → s₃.heap.get? b = some o) → ∀ b o, s₁.heap.get? b = some o → s₃.heap.get? b = some o := fun s₃ k b o e => k b o (fun q => by rw [List.mem_singleton.mp q, hI] at e; cases e) (k1 b o e)
    exact ⟨fun C i v s₃ m₃ E' _ hP hns hm hk _ => htest C i v s₃ m₃ E' hP hns hm (kk s₃ hk), fun C i v s₃ m₃ E' _ hP hp hns hm hk _ => helt C i v s₃ m₃ E' hP hp hns hm (kk s₃ hk)⟩
  · intro D h' tk ys vs hD hl _ hlen hP hF hk
    refine hQ D h' tk ys vs ?_ hl hlen hP hF fun b o e => hk b o (fun q => by rw [List.mem_singleton.mp q, hI] at e; cases e) (k1 b o e)
    cases q : s₁.heap.get? D with
    | none => rfl
    | some o => rw [k1 _ _ q] at hD; cases hD
end
theorem ints_of_items {acc : Array Value} {n : Nat} (h : ItemsOf (fun i v => ∃ t, v = .int (0 + (i : Nat) * 1) t) acc n) : IntsAre acc.toList ((List.range n).map fun (c : Nat) => (c : Int)) := by
  obtain ⟨hs, hi⟩ := h
  obtain ⟨l⟩ := acc
  simp only [List.size_toArray, List.getElem?_toArray] at hs hi
  subst hs
  have : ∀ (l : List Value) (k : Nat), (∀ (j : Nat) (v : Value), l[j]? = some v → ∃ t : Tok, v = Value.int ((k + j : Nat) : Int) t) → IntsAre l ((List.range' k l.length).map fun (c : Nat) => (c : Int)) := by
    intro l
    induction l with
    | nil => intro k _; exact .nil
    | cons v r ih =>
      intro k hv
      obtain ⟨t, rfl⟩ := hv 0 v rfl
      rw [List.length_cons, List.range'_succ, List.map_cons]
      refine .cons _ _ (ih (k + 1) fun j v' h' => ?_)
      obtain ⟨t', e⟩ := hv (j + 1) v' (by simpa using h')
      exact ⟨t', by rw [e, show k + (j + 1) = k + 1 + j by omega]⟩
  rw [List.range_eq_range']
  refine this l 0 fun j v hj => ?_
  obtain ⟨t, e⟩ := hi j v hj
  exact ⟨t, by rw [e, Int.zero_add, Int.mul_one, Nat.zero_add]⟩
end
section
section
variable {prog : Program} {w : World} {A : Around} {E : Value → Shared → Prop} {s : Shared} {env : Env}
theorem size52 {h : Heap} (X : (Mine.hd.heap_39 w.params).In h) : 52 < h.objs.size := by
  obtain ⟨d, fd, sl, e⟩ := fn285 w.params
  have h1 := Heap.lt_size (X _ _ e)
  exact Nat.lt_trans (by decide) h1
theorem comp_range {elt iter : Expr} {x : Str} {px : Pos} {ifs : List Expr} {scope : Scope} {cl : List (Str × Addr)} {pos : Pos} {Q : Value → Shared → Prop} {n : Nat} (p : Value → Bool) (Fv : Value → Value → Prop) (X : (Mine.hd.heap_39 w.params).In s.heap) (hn : n ≤ 14)
    (hclos : closureFor scope env = pure cl) (hcell : ∀ y ∈ scope.names, y.2 ≠ .cell) (hkind : scope.kind = .function)
    (hnames : ∀ y ∈ scope.names, y.2 = .local → scope.names.lookup y.1 = some .local) (hx : scope.names.lookup x = some .local) (hh : A.handled = none)
    (hev : wpAny (model prog w) A (eval iter env) (fun xv s₁ => Stopped (∃ r t u v, xv = .ref r ∧ IsRange s₁.heap r 0 n 1 t u v ∧ Ke s s₁)) E s)
    (htest : ∀ C i t (s₃ : Shared) m₃ E', i < n → s₃.heap.Ns C m₃ → m₃ x = some (.int (i : Nat) t) → (∀ b o, s.heap.get? b = some o → s₃.heap.get? b = some o) →
        wpAny (model prog w) A (forIn ifs true fun c r => if r = true then do let ok ← isTrue c (compEnvC scope cl C env) (eval c (compEnvC scope cl C env)); pure (ForInStep.yield ok) else pure (ForInStep.yield r))
          (fun ok s₄ => ok = p (.int (i : Nat) t) ∧ Keeps s₃ s₄) E' s₃)
    (helt : ∀ C i t (s₃ : Shared) m₃ E', i < n → s₃.heap.Ns C m₃ → m₃ x = some (.int (i : Nat) t) → (∀ b o, s.heap.get? b = some o → s₃.heap.get? b = some o) →
        wpAny (model prog w) A (eval elt (compEnvC scope cl C env)) (fun y s₄ => Fv (.int (i : Nat) t) y ∧ Keeps s₃ s₄) E' s₃)
    (hQ : ∀ D s' ys (vs : List Value), s.heap.get? D = none → s'.heap.IsList D ys → vs.length = n → (∀ (j : Nat) v, vs[j]? = some v → ∃ t, v = .int (j : Nat) t) → Paired Fv (vs.filter p) ys.toList → Ke s s' → Q (.ref D) s')
    (hs : ∀ x, foldedSetIterable iter env x = pure x := by intro _; rfl) :
    wpAny (model prog w) A (eval (.ListComp elt [⟨.Name x px, iter, ifs, 0⟩] scope pos) env) Q E s := by
  refine comp_iters p Fv hclos hcell hkind hnames hx hh (wpAny_mono hev (fun xv s₁ h₁ => ?_) fun _ _ e => e) hs
  obtain ⟨r, t, u, v, rfl, rg, hk⟩ := Stopped.go h₁
  have X1 := X.keeps hk.1
  refine ⟨n, fun i v => i < n ∧ ∃ t, v = .int (i : Nat) t, by omega, ?_, ?_, ?_, ?_⟩
  · intro Q' E' hq
    refine iters_range rg hn (size52 X1) Q' E' fun I fp St h₁ k1 hI W hst hfp h52 hfa => hq I fp St h₁ k1 hI (fun A' hA' => ?_) hst hfp h52 hfa
    have W1 := W A' hA'
    exact ⟨W1.sub, W1.frame, fun i s Q E hi st k => W1.item i s Q E hi st fun v s' tk hP => k v s' tk ⟨hi, hP⟩, W1.done, W1.self⟩
  · rintro C i v s₃ m₃ E' ⟨hi, t', rfl⟩ hns hm hk3
    exact htest C i t' s₃ m₃ E' hi hns hm fun b o e => hk3 b o (hk.1 b o e)
  · rintro C i v s₃ m₃ E' ⟨hi, t', rfl⟩ _ hns hm hk3
    exact helt C i t' s₃ m₃ E' hi hns hm fun b o e => hk3 b o (hk.1 b o e)
  · intro D h' tk ys vs hD hl hlen hP hF hk4
    refine hQ D _ ys vs ?_ hl hlen (fun j v hj => (hP j v hj).2) hF (hk.trans (.of hk4))
    cases q : s.heap.get? D with
    | none => rfl
    | some o => rw [hk.1 _ _ q] at hD; cases hD
end
theorem new_list_ke {prog : Program} {w : World} {A : Around} {E : Value → Shared → Prop} {s : Shared} {h₀ : Heap} {L : Addr} {m : Str → Option Value} {news : List (Addr × Obj)} {items : List Value} {Q : Value → Shared → Prop} (F : Fr h₀ L s.heap m) (N : News h₀ L s.heap news) (hz : items.length ≤ 1000)
    (h : ∀ D s', Ke s s' → Fr h₀ L s'.heap m → News h₀ L s'.heap ((D, seqObj "list" items.toArray 0) :: news) → AllNe D news → s.heap.get? D = none → Q (.ref D) s') : wpAny (model prog w) A (newList items) Q E s := by
  refine wpAny_newList ?_ (by rw [sizeLine_eq]; omega)
  have hk : Ke s { s with heap := s.heap.push (seqObj "list" items.toArray 0) } := .of (s := s) (tk := s.toks) fun b o e => Heap.get?_push_of_some _ e
  have hn := news_new hk F N (no_at _) (Heap.get?_push_size _ rfl)
  exact h _ _ hk (fr_ke hk F) hn.1 hn.2 (no_at _)
/-- a profile: its instance, its dict, its list of candidates; lv is its list of voters -/
structure ProfAt (h : Heap) (x : Addr) (n : Nat) (lv : Addr) : Prop where
  out : ∃ dx lc es ep items, h.get? x = some (instObj 477 dx) ∧ h.get? dx = some (dictOf es ep) ∧ getL "candidates" es = some (some (.ref lc)) ∧ getL "_voters" es = some (some (.ref lv)) ∧
    h.IsList lc items ∧ IntsAre items.toList ((List.range n).map fun (c : Nat) => (c : Int)) ∧ lc ≠ lv ∧ getL "_unique_voter" es = some none ∧ getL "add_voter" es = some none
local macro_rules | `(tactic| walk_at "call type:list") => `(tactic| refine Stopped.go ?_)
local macro_rules | `(tactic| walk_at "newList") => `(tactic| refine Stopped.go ?_)
local macro_rules | `(tactic| walk_at "eval ListComp") => `(tactic| refine Stopped.go ?_)
section
variable {prog : Program} {w : World} {A : Around} {R : Result → Shared → Prop} {h : Heap} {g : Array GenState} {d : Drawn} {t : Nat} {os : OsState} {p : Program} {loose : List Str} {mg mb : Str → Option Value}
theorem make_prof {n : Nat} {tn : Tok} (hn2 : 2 ≤ n) (hn4 : n ≤ 4) (X : (Mine.hd.heap_39 w.params).In h) (T : TopRead p loose mg mb h) (hA : Room A 12)
    (k : ∀ x lv s', Ke ⟨h, g, d, t, os⟩ s' → h.get? x = none → h.get? lv = none → ProfAt s'.heap x n lv → s'.heap.get? lv = some (seqObj "list" #[] 0) → R (.ok (.ret (.ref x))) s') :
    codeAny (model prog w) A (.call (.ref 477) ⟨[.int n tn], []⟩) R ⟨h, g, d, t, os⟩ := by
  refine make_core (makes_of X (by k_is)) (looks_findIn X (by k_is)) (fun self => bind_fn X self (by k_is)) (.inl rfl) ?_
  have kk : ∀ b o, h.get? b = some o → ((h.push emptyDict).push (instObj 477 h.objs.size)).get? b = some o := fun b o e => Heap.get?_push_of_some _ (Heap.get?_push_of_some _ e)
  have hx0 : ((h.push emptyDict).push (instObj 477 h.objs.size)).get? (h.objs.size + 1) = some (instObj 477 h.objs.size) := by heap_get
  have hD0 : ((h.push emptyDict).push (instObj 477 h.objs.size)).get? h.objs.size = some emptyDict := Heap.get?_push_of_some _ (Heap.get?_push_size _ rfl)
  have hno := no_at h
  have hno1 : h.get? (h.objs.size + 1) = none := by
    cases q : h.get? (h.objs.size + 1) with
    | none => rfl
    | some o => exact absurd (Heap.lt_size q) (Nat.not_lt.mpr (Nat.le_succ _))
  have hsz : h.objs.size ≤ ((h.push emptyDict).push (instObj 477 h.objs.size)).objs.size := Nat.le_of_lt (Heap.lt_size hD0)
  have X1 := X.keeps kk
  generalize (h.push emptyDict).push (instObj 477 h.objs.size) = h1 at kk hx0 hD0 hsz X1 ⊢
  refine call_clo (b := h) (news := [(h.objs.size + 1, instObj 477 h.objs.size), (h.objs.size, emptyDict)]) (s := ⟨h1, g, d, t, os⟩) (x1 := "self") (x2 := "num_cand") (n := "cand_names") (v1 := .ref (h.objs.size + 1)) (v2 := .int n tn) (v := .none) (cl := [])
    X T kk hsz ?hn (by k_is) (by k_is) (Room.lt (n := 0) (by walk_at "my room")) ?hb rfl rfl rfl (fun _ => rfl) (fun _ => rfl) ?body rfl rfl rfl
  case hn =>
    intro p hp
    simp only [List.mem_cons, List.not_mem_nil, or_false] at hp
    rcases hp with rfl | rfl
    · exact ⟨hx0, hno1⟩
    · exact ⟨hD0, hno⟩
  case hb => exact binds_K (by exact X1) rfl (by k_is) rfl rfl rfl
  case body =>
    intro L h₁ tk oc F N hcell hlt hbL
    have hne : h.objs.size < h.objs.size + 1 := Nat.lt_succ_self _
    have hlt1 := hlt _ (.head _)
    have hlt2 := hlt _ (.tail _ (.head _))
    dsimp only at hlt1 hlt2
    refine PySem.wpAt_of_wpAny ?_
    k_steps
    rename IsRange _ _ _ _ _ _ _ _ => rg
    rename Fr _ _ _ _ => F2
    rename News _ _ _ _ => N2
    obtain ⟨sm, rs⟩ := rng_small (n := n) (by omega)
    refine Stopped.on (call_list_range (n := n) (Room.handled (n := 0) (by walk_at "my room")) rg sm rs (by omega) ?_)
    intro h2 tk2 acc c hk2 hl2 hacc
    have F3 := fr_ke (Ke.of (s := ⟨_, g, d, tk2, os⟩) (h' := h2) (tk := tk2) hk2) F2
    have N3 := news_new (Ke.of (s := ⟨_, g, d, tk2, os⟩) (h' := h2) (tk := tk2) hk2) F2 N2 (no_at _) hl2
    obtain ⟨N3, n3⟩ := N3
    simp only [AllNe, and_true] at n3
    clear F2 N2 rg hk2 hl2
    have hI := ints_of_items hacc
    dsimp only at F3 N3 n3 ⊢
    rename Fr h L h₁ _ => Fold
    clear Fold
    k_steps
    rename Fr _ _ _ _ => F4
    rename News _ _ _ _ => N4
    refine Stopped.on (comp_range (cl := []) (n := n) (fun _ => true) (fun _ _ => True) (X.keeps F4.keep) (by omega) rfl (by decide) rfl (by decide) rfl (Room.handled (n := 0) (by walk_at "my room")) ?ev ?test ?elt ?fin)
    case ev =>
      k_steps
      rename IsRange _ _ _ _ _ _ _ _ => rg
      exact Stopped.on ⟨_, _, _, _, rfl, rg, .of (by assumption)⟩
    case test =>
      intro C i t' s₃ m₃ E' hi hns hm hk3
      rw [List.forIn_nil]
      exact wpAny_pure ⟨rfl, s₃.heap, s₃.toks, rfl, fun _ _ e => e⟩
    case elt =>
      intro C i t' s₃ m₃ E' hi hns hm hk3
      have X3 := (X.keeps F4.keep).keeps hk3
      have T3 := (T.keeps F4.keep).keeps hk3
      refine Call_Name rfl ?_
      refine wpAny_Name (ks_loadName_global rfl rfl (loadGlobal_builtin (v := .type "str") T3.g (mg_none_of X3 T3.g (by k_is)) T3.b ((T3.builtins _ (by decide +kernel)).trans (by kernel_rfl)) ?_))
      refine PyProof.Rows.callWith_type1 ?_
      refine spliced_cons (wpAny_Name (wpAny_loadName_local rfl rfl hns hm (spliced_nil ?_)))
      exact PySem.P.str_of_int (shown (N := 2 ^ 64) (by omega) (by omega) (by decide +kernel)) ⟨trivial, _, _, rfl, fun _ _ e => e⟩
    case fin =>
      intro D s' ys vs hD hl hlen hP hF hK
      obtain ⟨oD, hoD, _⟩ := hl
      have F5 := fr_ke hK F4
      have N5 := (news_new hK F4 N4 hD hoD).1
      have n5 := (news_new hK F4 N4 hD hoD).2
      simp only [AllNe, and_true] at n5
      clear F4 N4
      rw [hK.eq]
      dsimp only
      clear hoD hD hK hF hP
      k_steps
      rename Fr _ _ _ _ => F6
      rename News _ _ _ _ => N6
      refine Stopped.on (new_list_ke F6 N6 (by decide) fun D2 s2 hk2 F7 N7 n7 hD2 => ?_)
      simp only [AllNe, and_true] at n7
      have hb2 : h.get? D2 = none := (N7 _ (.head _)).2.2
      clear F6 N6 hD2
      rw [hk2.eq]
      dsimp only
      clear hk2
      k_steps
      rename Fr _ _ _ _ => F8
      rename News _ _ _ _ => N8
      refine ⟨rfl, k _ D2 _ (.of F8.keep) hno1 hb2 ?_ (N8 (D2, _) (by k_mem)).1⟩
      refine ⟨h.objs.size, _, _, _, acc, (N8 (h.objs.size + 1, _) (by k_mem)).1, (N8 (h.objs.size, _) (by k_mem)).1, by rfl, by rfl, ⟨_, (N8 (_, _) (by k_mem)).1, rfl, c, rfl⟩, hI, ?_, by rfl, by rfl⟩
      exact n7.2.1
end
end
section
theorem inst_of {h : Heap} {x dx C : Addr} {es : List DictEntry} {ep : Nat} (hx : h.get? x = some (instObj C dx)) (hd : h.get? dx = some (dictOf es ep)) : InstAt h x (instObj C dx) C (some (dictOf es ep)) := by
  exact ⟨hx, rfl, rfl, hd⟩
theorem VoterAt.but {w : World} {h h' : Heap} {x : Addr} {wt : Int} {C : List Nat} (V : VoterAt w h x wt C) (k : ∀ b o, (∀ vs, o.data ≠ .fields vs) → (∀ vs n, o.data ≠ .seq vs n) → h.get? b = some o → h'.get? b = some o) : VoterAt w h' x wt C := by
  obtain ⟨dx, S, dS, t, es, ep, a1, a2, a3, a4, ⟨T, ep', a5⟩, a6⟩ := V.out
  exact ⟨dx, S, dS, t, es, ep, k _ _ (fun _ e => by cases e) (fun _ _ e => by cases e) a1, k _ _ (fun _ e => by cases e) (fun _ _ e => by cases e) a2, a3, a4, ⟨T, ep', k _ _ (fun _ e => by cases e) (fun _ _ e => by cases e) a5⟩, k _ _ (fun _ e => by cases e) (fun _ _ e => by cases e) a6⟩
theorem VoterAt.keep {w : World} {h h' : Heap} {x : Addr} {wt : Int} {C : List Nat} (V : VoterAt w h x wt C) (k : ∀ b o, h.get? b = some o → h'.get? b = some o) : VoterAt w h' x wt C := V.but fun b o _ _ e => k b o e
theorem ProfAt.but {h h' : Heap} {x : Addr} {n : Nat} {lv : Addr} (P : ProfAt h x n lv) (k : ∀ b o, b ≠ lv → (∀ vs, o.data ≠ .fields vs) → h.get? b = some o → h'.get? b = some o) (hlv : ∀ o, h.get? lv = some o → ∃ vs n, o.data = .seq vs n) : ProfAt h' x n lv := by
  obtain ⟨dx, lc, es, ep, items, a1, a2, a3, a4, ⟨ol, a5, a6, n', a7⟩, a8, a9, a10, a11⟩ := P.out
  refine ⟨dx, lc, es, ep, items, k _ _ (fun q => ?_) (fun _ e => by cases e) a1, k _ _ (fun q => ?_) (fun _ e => by cases e) a2, a3, a4, ⟨ol, k _ _ a9 (fun _ e => by rw [a7] at e; cases e) a5, a6, n', a7⟩, a8, a9, a10, a11⟩
  · subst q
    obtain ⟨vs, n, e⟩ := hlv _ a1
    cases e
  · subst q
    obtain ⟨vs, n, e⟩ := hlv _ a2
    cases e
theorem ProfAt.keep {h h' : Heap} {x : Addr} {n : Nat} {lv : Addr} (P : ProfAt h x n lv) (k : ∀ b o, h.get? b = some o → h'.get? b = some o) : ProfAt h' x n lv := by
  obtain ⟨dx, lc, es, ep, items, a1, a2, a3, a4, ⟨ol, a5, a6, n', a7⟩, a8, a9, a10, a11⟩ := P.out
  exact ⟨dx, lc, es, ep, items, k _ _ a1, k _ _ a2, a3, a4, ⟨ol, k _ _ a5, a6, n', a7⟩, a8, a9, a10, a11⟩
section
variable {prog : Program} {w : World} {A : Around} {E : Value → Shared → Prop} {s : Shared} {p : Program} {loose : List Str} {mg mb : Str → Option Value} {h₀ : Heap} {L : Addr} {m : Str → Option Value} {Q : Value → Shared → Prop}
theorem voter_approved {x : Addr} {wt : Int} {C : List Nat} {expr : Bool} (F : Fr h₀ L s.heap m) (X : (Mine.hd.heap_39 w.params).In h₀) (V : VoterAt w s.heap x wt C)
    (h : ∀ S dS, HasSet (byText w) 7 0 (ownO dS) s.heap S C → s.heap.get? dS = some emptyDict → Q (.ref S) { s with toks := s.toks + 1 }) : wpAny (model prog w) A (getAttr (.ref x) "approved" expr) Q E s := by
  obtain ⟨dx, S, dS, t, es, ep, a1, a2, a3, a4, a5, a6⟩ := V.out
  exact get_own F X (inst_of a1 a2) (by k_is) (by k_is) (by k_is) (by k_is) a3 rfl (h S dS a5 a6)
theorem voter_weight {x : Addr} {wt : Int} {C : List Nat} {expr : Bool} (F : Fr h₀ L s.heap m) (X : (Mine.hd.heap_39 w.params).In h₀) (V : VoterAt w s.heap x wt C)
    (h : ∀ t, Q (.int wt t) { s with toks := s.toks + 1 }) : wpAny (model prog w) A (getAttr (.ref x) "weight" expr) Q E s := by
  obtain ⟨dx, S, dS, t, es, ep, a1, a2, a3, a4, a5, a6⟩ := V.out
  exact get_own F X (inst_of a1 a2) (by k_is) (by k_is) (by k_is) (by k_is) a4 rfl (h t)
theorem prof_cands {x lv : Addr} {n : Nat} {expr : Bool} (F : Fr h₀ L s.heap m) (X : (Mine.hd.heap_39 w.params).In h₀) (P : ProfAt s.heap x n lv)
    (h : ∀ lc items, s.heap.IsList lc items → IntsAre items.toList ((List.range n).map fun (c : Nat) => (c : Int)) → lc ≠ lv → Q (.ref lc) { s with toks := s.toks + 1 }) : wpAny (model prog w) A (getAttr (.ref x) "candidates" expr) Q E s := by
  obtain ⟨dx, lc, es, ep, items, a1, a2, a3, a4, a5, a6, a7, _, _⟩ := P.out
  exact get_own F X (inst_of a1 a2) (by k_is) (by k_is) (by k_is) (by k_is) a3 rfl (h lc items a5 a6 a7)
theorem prof_voters {x lv : Addr} {n : Nat} {expr : Bool} (F : Fr h₀ L s.heap m) (X : (Mine.hd.heap_39 w.params).In h₀) (P : ProfAt s.heap x n lv)
    (h : Q (.ref lv) { s with toks := s.toks + 1 }) : wpAny (model prog w) A (getAttr (.ref x) "_voters" expr) Q E s := by
  obtain ⟨dx, lc, es, ep, items, a1, a2, a3, a4, a5, a6, a7, _, _⟩ := P.out
  exact get_own F X (inst_of a1 a2) (by k_is) (by k_is) (by k_is) (by k_is) a4 rfl h
end
end
section
local macro_rules | `(tactic| walk_at "my at") => `(tactic| first | assumption | exact ProfAt.keep (by assumption) (Fr.keep (by assumption)) | exact VoterAt.keep (by assumption) (Fr.keep (by assumption)))
local macro_rules | `(tactic| walk_at "getAttr ref") => `(tactic| ((with_reducible show wpAny _ _ (getAttr (Value.ref _) (PySem.Str.ofString "candidates") _) _ _ _); (refine prof_cands (by assumption) (by assumption) (by walk_at "my at") ?_); intro _ _ _ _ _))
local macro_rules | `(tactic| walk_at "getAttr ref") => `(tactic| ((with_reducible show wpAny _ _ (getAttr (Value.ref _) (PySem.Str.ofString "_voters") _) _ _ _); (refine prof_voters (by assumption) (by assumption) (by walk_at "my at") ?_)))
local macro_rules | `(tactic| walk_at "getAttr ref") => `(tactic| ((with_reducible show wpAny _ _ (getAttr (Value.ref _) (PySem.Str.ofString "approved") _) _ _ _); (refine voter_approved (by assumption) (by assumption) (by walk_at "my at") ?_); intro _ _ _ _))
local macro_rules | `(tactic| walk_at "getAttr ref") => `(tactic| ((with_reducible show wpAny _ _ (getAttr (Value.ref _) (PySem.Str.ofString "weight") _) _ _ _); (refine voter_weight (by assumption) (by assumption) (by walk_at "my at") ?_); intro _))
local macro_rules | `(tactic| walk_at "call builtin:len") => `(tactic| refine Stopped.go ?_)
section
variable {prog : Program} {w : World} {A : Around} {E : Value → Shared → Prop} {s : Shared} {p : Program} {loose : List Str} {mg mb : Str → Option Value} {h₀ : Heap} {L : Addr} {m : Str → Option Value} {Q : Value → Shared → Prop}
theorem code_num {x lv : Addr} {n : Nat} {R : Result → Shared → Prop} (X : (Mine.hd.heap_39 w.params).In s.heap) (T : TopRead p loose mg mb s.heap) (hA : Room A 3) (hn : n ≤ 4) (P : ProfAt s.heap x n lv)
    (k : ∀ t s', Ke s s' → R (.ok (.ret (.int n t))) s') : codeAny (model prog w) A (.call (.ref 361) ⟨[.ref x], []⟩) R s := by
  walk_at "my enter"
  k_steps
  rename Fr _ _ _ _ => kF
  rename Heap.IsList _ _ _ => hl
  rename IntsAre _ _ => hi
  have hz := hi.length
  simp only [Array.length_toList, List.length_map, List.length_range] at hz
  refine Stopped.on (call_len_list hl (by omega) ?_)
  rw [hz]
  exact k _ _ (.of kF.keep)
theorem prof_num {x lv : Addr} {n : Nat} {expr : Bool} (F : Fr h₀ L s.heap m) (X : (Mine.hd.heap_39 w.params).In h₀) (T : TopRead p loose mg mb h₀) (hA : Room A 6) (hn : n ≤ 4) (P : ProfAt s.heap x n lv)
    (k : ∀ t s', Ke s s' → Q (.int n t) s') : wpAny (model prog w) A (getAttr (.ref x) "num_cand" expr) Q E s := by
  have P' := P
  obtain ⟨dx, lc, es, ep, items, a1, a2, a3, a4, a5, a6, a7, _, _⟩ := P'.out
  refine get_prop (fget := 361) F X (inst_of a1 a2) (by k_is) (by k_is) (by k_is) (by k_is) (by k_is) (by k_is) ?_
  refine code_num (s := { s with toks := s.toks + 1 }) (X.keeps F.keep) (T.keeps F.keep) (by walk_at "my room") hn P fun t s' hk => ?_
  dsimp only
  rw [handedOut_of rfl]
  exact wpAny_pure (k t s' ⟨hk.1, hk.2⟩)
theorem prof_meth {x lv : Addr} {n : Nat} {pl : Sem Bool} {Q : Value × List Value → Shared → Prop} (F : Fr h₀ L s.heap m) (X : (Mine.hd.heap_39 w.params).In h₀) (P : ProfAt s.heap x n lv)
    (h : Q (.ref 383, [.ref x]) s) : wpAny (model prog w) A (getMethod (.ref x) "_unique_voter" pl) Q E s := by
  obtain ⟨dx, lc, es, ep, items, a1, a2, a3, a4, a5, a6, a7, a8, a9⟩ := P.out
  exact method_inst F X (inst_of a1 a2) (by k_is) (by k_is) (by k_is) a8 h
theorem prof_meth_add {x lv : Addr} {n : Nat} {pl : Sem Bool} {Q : Value × List Value → Shared → Prop} (F : Fr h₀ L s.heap m) (X : (Mine.hd.heap_39 w.params).In h₀) (P : ProfAt s.heap x n lv)
    (h : Q (.ref 390, [.ref x]) s) : wpAny (model prog w) A (getMethod (.ref x) "add_voter" pl) Q E s := by
  obtain ⟨dx, lc, es, ep, items, a1, a2, a3, a4, a5, a6, a7, a8, a9⟩ := P.out
  exact method_inst F X (inst_of a1 a2) (by k_is) (by k_is) (by k_is) a9 h
end
end
local macro_rules | `(tactic| walk_at "my at") => `(tactic| first | assumption | exact ProfAt.keep (by assumption) (Fr.keep (by assumption)) | exact VoterAt.keep (by assumption) (Fr.keep (by assumption)))
local macro_rules | `(tactic| walk_at "getAttr ref") => `(tactic| ((with_reducible show wpAny _ _ (getAttr (Value.ref _) (PySem.Str.ofString "candidates") _) _ _ _); (refine prof_cands (by assumption) (by assumption) (by walk_at "my at") ?_); intro _ _ _ _ _))
local macro_rules | `(tactic| walk_at "getAttr ref") => `(tactic| ((with_reducible show wpAny _ _ (getAttr (Value.ref _) (PySem.Str.ofString "_voters") _) _ _ _); (refine prof_voters (by assumption) (by assumption) (by walk_at "my at") ?_)))
local macro_rules | `(tactic| walk_at "getAttr ref") => `(tactic| ((with_reducible show wpAny _ _ (getAttr (Value.ref _) (PySem.Str.ofString "approved") _) _ _ _); (refine voter_approved (by assumption) (by assumption) (by walk_at "my at") ?_); intro _ _ _ _))
local macro_rules | `(tactic| walk_at "getAttr ref") => `(tactic| ((with_reducible show wpAny _ _ (getAttr (Value.ref _) (PySem.Str.ofString "weight") _) _ _ _); (refine voter_weight (by assumption) (by assumption) (by walk_at "my at") ?_); intro _))
local macro_rules | `(tactic| walk_at "my ke1") => `(tactic| (intro s' hk'; (with_reducible rename Fr _ _ _ _ => kF); (with_reducible rename News _ _ _ _ => kN); (have F' := fr_ke hk' kF); (have N' := news_ke hk' kN); (clear kF kN); (rw [hk'.eq]); (try dsimp only)))
local macro_rules | `(tactic| walk_at "getAttr ref") => `(tactic| ((with_reducible show wpAny _ _ (getAttr (Value.ref _) (PySem.Str.ofString "num_cand") _) _ _ _); (refine prof_num (by assumption) (by assumption) (by assumption) (by walk_at "my room") (by assumption) (by walk_at "my at") ?_); intro _; walk_at "my ke1"))
local macro_rules | `(tactic| walk_at "getMethod ref") => `(tactic| ((with_reducible show wpAny _ _ (getMethod (Value.ref _) (PySem.Str.ofString "_unique_voter") _) _ _ _); (refine prof_meth (by assumption) (by assumption) (by walk_at "my at") ?_)))
local macro_rules | `(tactic| walk_at "getMethod ref") => `(tactic| ((with_reducible show wpAny _ _ (getMethod (Value.ref _) (PySem.Str.ofString "add_voter") _) _ _ _); (refine prof_meth_add (by assumption) (by assumption) (by walk_at "my at") ?_)))
section
/-- classes of the objects that loops and stores turn -/
def mutCls : Value → Bool
  | .type s => ["list", "list_iterator", "set_iterator", "range_iterator", "cell"].contains s
  | _ => false
/-- objects that the stores of a frame, of a list, of a cell, of an iterator leave alone -/
structure Kd (o : Obj) : Prop where
  cls : mutCls o.cls = false
  cell : ∀ v, o.data ≠ .cell v
  dict : ∀ es ep, o.data = .dict es ep → es = #[] ∨ nsFind es "approved" ≠ none ∨ nsFind es "numerator" ≠ none ∨ nsFind es "candidates" ≠ none ∨ nsFind es "base" ≠ none
/-- what holds of the locals' map of a frame at hand -/
structure Hid (m : Str → Option Value) : Prop where
  a : m "approved" = none
  n : m "numerator" = none
  c : m "candidates" = none
  b : m "base" = none
  e : ∃ y v, m y = some v
theorem Hid.set {m : Str → Option Value} (H : Hid m) {x : Str} {v : Value} (h1 : ("approved" : Str) ≠ x) (h2 : ("numerator" : Str) ≠ x) (h3 : ("candidates" : Str) ≠ x) (h4 : ("base" : Str) ≠ x) : Hid (fun y => if y = x then some v else m y) :=
  ⟨by show (if _ then _ else _) = _; rw [if_neg h1]; exact H.a, by show (if _ then _ else _) = _; rw [if_neg h2]; exact H.n, by show (if _ then _ else _) = _; rw [if_neg h3]; exact H.c, by show (if _ then _ else _) = _; rw [if_neg h4]; exact H.b, x, v, by show (if _ then _ else _) = _; rw [if_pos rfl]⟩
def KC (h h' : Heap) : Prop := ∀ b o, Kd o → h.get? b = some o → h'.get? b = some o
theorem KC.refl (h : Heap) : KC h h := fun _ _ _ e => e
theorem KC.trans {a b c : Heap} (h : KC a b) (k : KC b c) : KC a c := fun x o d e => k x o d (h x o d e)
theorem KC.of {h h' : Heap} (k : ∀ b o, h.get? b = some o → h'.get? b = some o) : KC h h' := fun b o _ e => k b o e
theorem KC.store {h h' : Heap} {L : Addr} {m : Str → Option Value} (hn : h.Ns L m) (H : Hid m) (hs : Heap.SameBut L h h') : KC h h' := fun b o d e => by
  refine (hs.2 b fun q => ?_).trans e
  obtain ⟨oL, es, ep, hL, hd, _, hm⟩ := hn
  rw [q, hL] at e
  cases e
  rcases d.dict es ep hd with c | c | c | c | c
  · subst c
    obtain ⟨y, v, hy⟩ := H.e
    rw [← hm y] at hy
    cases hy
  · exact c ((hm _).trans H.a)
  · exact c ((hm _).trans H.n)
  · exact c ((hm _).trans H.c)
  · exact c ((hm _).trans H.b)
theorem KC.but {h h' : Heap} {l : Addr} (ho : ∀ o, h.get? l = some o → mutCls o.cls = true) (hs : ∀ b o, b ≠ l → h.get? b = some o → h'.get? b = some o) : KC h h' := fun b o d e => by
  refine hs b o (fun q => ?_) e
  rw [q] at e
  have h1 := ho o e
  rw [d.cls] at h1
  cases h1
theorem nsFind_of {es : List DictEntry} {y : Str} {v : Value} (h : getL y es = some (some v)) : nsFind es.toArray y ≠ none := by
  unfold getL at h
  unfold nsFind findBy
  rw [List.find?_toArray]
  cases q : es.find? (·.key.isStr y) with
  | none =>
    rw [q] at h
    dsimp only at h
    split at h <;> cases h
  | some e => intro c; cases c
theorem mut_dict : mutCls (.type "dict") = false := by decide
theorem mut_part : mutCls (.type "functools.partial") = false := by decide
theorem mut_tup : mutCls (.type "tuple") = false := by decide
theorem kd_inst (C dx : Addr) : Kd (instObj C dx) := ⟨rfl, fun _ e => (by cases e), fun _ _ e => (by cases e)⟩
theorem kd_nodict {o : Obj} (hc : mutCls o.cls = false) (hd : ∀ es ep, o.data ≠ .dict es ep) (hl : ∀ v, o.data ≠ .cell v := by intro _ e; cases e) : Kd o := ⟨hc, hl, fun _ _ e => absurd e (hd _ _)⟩
theorem kd_dict {es : List DictEntry} {ep : Nat} (h : es = [] ∨ (∃ v, getL "approved" es = some (some v)) ∨ (∃ v, getL "numerator" es = some (some v)) ∨ (∃ v, getL "candidates" es = some (some v)) ∨ ∃ v, getL "base" es = some (some v)) : Kd (dictOf es ep) :=
  ⟨mut_dict, fun _ e => (by cases e), fun es' ep' e => (by
    cases e
    rcases h with h | ⟨v, h⟩ | ⟨v, h⟩ | ⟨v, h⟩ | ⟨v, h⟩
    · exact .inl (by rw [h])
    · exact .inr (.inl (nsFind_of h))
    · exact .inr (.inr (.inl (nsFind_of h)))
    · exact .inr (.inr (.inr (.inl (nsFind_of h))))
    · exact .inr (.inr (.inr (.inr (nsFind_of h)))))⟩
theorem VoterAt.kc {w : World} {h h' : Heap} {x : Addr} {wt : Int} {C : List Nat} (V : VoterAt w h x wt C) (k : KC h h') : VoterAt w h' x wt C := by
  obtain ⟨dx, S, dS, t, es, ep, a1, a2, a3, a4, ⟨T, ep', a5⟩, a6⟩ := V.out
  exact ⟨dx, S, dS, t, es, ep, k _ _ (kd_inst _ _) a1, k _ _ (kd_dict (.inr (.inl ⟨_, a3⟩))) a2, a3, a4, ⟨T, ep', k _ _ (kd_nodict rfl (fun _ _ e => by cases e)) a5⟩, k _ _ (kd_dict (.inl rfl)) a6⟩
theorem FracAt.kc {h h' : Heap} {x : Addr} {z : Int} (V : FracAt h x z) (k : KC h h') : FracAt h' x z := by
  obtain ⟨n, d, ⟨dx, a, b, c, e, f, g, I1, I2, I3, I4⟩, N⟩ := V
  exact ⟨n, d, ⟨dx, a, b, c, e, f, g, k _ _ (kd_inst _ _) I1, I2, I3, k _ _ (kd_dict (.inr (.inr (.inl ⟨_, by rfl⟩)))) I4⟩, N⟩
theorem NumAt.kc {h h' : Heap} {v : Value} {z : Int} (V : NumAt h v z) (k : KC h h') : NumAt h' v z := by
  rcases V with ⟨i, t, e⟩ | ⟨x, e, f⟩
  · exact .inl ⟨i, t, e⟩
  · exact .inr ⟨x, e, f.kc k⟩
theorem PartAt.kc {h h' : Heap} {pa : Addr} {b : Int} (P : PartAt h pa b) (k : KC h h') : PartAt h' pa b := by
  obtain ⟨tp, kd, hsh, t, u, n, a1, a2, a3, a4⟩ := P
  exact ⟨tp, kd, hsh, t, u, n, k _ _ (kd_nodict mut_part (fun _ _ e => by cases e)) a1, k _ _ (kd_nodict mut_tup (fun _ _ e => by cases e)) a2, k _ _ (kd_dict (es := [⟨hsh, .str "base" t, .int b u⟩]) (.inr (.inr (.inr (.inr ⟨_, by rfl⟩))))) a3, a4⟩
theorem StepAt.kc {h h' : Heap} {q : Nat} {v : Value} (S : StepAt h q v) (k : KC h h') : StepAt h' q v := by
  rcases S with h | h | h | h | h | ⟨e, pa, e', P⟩ | ⟨e, pa, e', P⟩
  · exact .inl h
  · exact .inr (.inl h)
  · exact .inr (.inr (.inl h))
  · exact .inr (.inr (.inr (.inl h)))
  · exact .inr (.inr (.inr (.inr (.inl h))))
  · exact .inr (.inr (.inr (.inr (.inr (.inl ⟨e, pa, e', P.kc k⟩)))))
  · exact .inr (.inr (.inr (.inr (.inr (.inr ⟨e, pa, e', P.kc k⟩)))))
end
section
local macro_rules | `(tactic| walk_at "call ref") => `(tactic| ((with_reducible show wpAny _ _ (call (Value.ref 514) _ _) _ _ _); refine Stopped.go ?_))
section
variable {prog : Program} {w : World} {A : Around} {R : Result → Shared → Prop} {h : Heap} {g : Array GenState} {d : Drawn} {t : Nat} {os : OsState} {p : Program} {loose : List Str} {mg mb : Str → Option Value} {x lv vt : Addr} {n : Nat} {wt : Int} {C : List Nat}
theorem uniq {ps : Array Value} (X : (Mine.hd.heap_39 w.params).In h) (T : TopRead p loose mg mb h) (Bm : BMd mg h) (hc : h.IsCode 56 52 ps) (hA : Room A 28) (P : ProfAt h x n lv) (hn4 : n ≤ 4) (V : VoterAt w h vt wt C)
    (hC : C ∈ subs) (hCn : ∀ c ∈ C, c < n) (hfile : ((prog.main.file : Str) == "/claim/cut.py") = true) (htop : (prog.main.scope.names.lookup ("super" : Str)).isSome = false)
    (hwt : 0 < wt)
    (k : ∀ y s', Kp ⟨h, g, d, t, os⟩ s' → h.get? y = none → VoterAt w s'.heap y wt C → R (.ok (.ret (.ref y))) s') :
    codeAny (model prog w) A (.call (.ref 383) ⟨[.ref x, .ref vt], []⟩) R ⟨h, g, d, t, os⟩ := by
  obtain ⟨op, hop, hok⟩ := codeOk_of hc
  have hok' := hok
  obtain ⟨ps0, hd0, ht0⟩ := hok'
  have Xb : (Mine.hd.heap_39 w.params).In (hide52 h) := in_but X hide52_get
  have Tb := top_but T hide52_get
  have Pb : ProfAt (hide52 h) x n lv := by
    obtain ⟨dx, lc, es, ep, items, a1, a2, a3, a4, ⟨ol, a5, a6, n', a7⟩, a8, a9, a10, a11⟩ := P.out
    refine ⟨dx, lc, es, ep, items, hide52_get _ _ (fun q => ?_) a1, hide52_get _ _ (fun q => ?_) a2, a3, a4, ⟨ol, hide52_get _ _ (fun q => ?_) a5, a6, n', a7⟩, a8, a9, a10, a11⟩
    · rw [q, hop] at a1; cases a1; cases hd0
    · rw [q, hop] at a2; cases a2; cases hd0
    · rw [q, hop] at a5; cases a5; rw [hd0] at a7; cases a7
  have Vb : VoterAt w (hide52 h) vt wt C := V.but fun b o h1 h2 e => hide52_get _ _ (fun q => by
    rw [q, hop] at e
    cases e
    exact h1 _ hd0) e
  have hn5 : 2 ≤ 2 := by decide
  have ⟨dv, Sv, dSv, tv, esv, epv, v1, v2, v3, v4, v5, v6⟩ := Vb.out
  have Iv := inst_of v1 v2
  have h52lt := Heap.lt_size hop
  refine call_led (b := hide52 h) (news := [(52, op)]) (s := ⟨h, g, d, t, os⟩) (binds := [("self", .ref x), ("voter", .ref vt)]) Xb Tb (fun b o e => hide52_of _ _ e) (by rw [hide52_size]; exact Nat.le_refl _) ?hn (by k_is) (by k_is) (Room.lt (n := 0) (by walk_at "my room")) ?hb (locs rfl) ?body rfl rfl rfl (by decide)
  case hn =>
    intro p hp
    rw [List.mem_singleton.mp hp]
    exact ⟨hop, hide52_none h⟩
  case hb =>
    exact BindsTo.of_eq rfl
  case body =>
    intro L h₁ F N
    k_steps
    rename HasSet _ _ _ _ _ _ _ => hS
    rename Fr _ _ _ _ => F2
    rename News _ _ _ _ => N2
    rename Ke _ _ => hk1
    obtain ⟨ps1, hd1, ht1⟩ := id hok
    have hc1 := isCode_re hc (fun o e => F2.keep _ _ (hide52_get _ _ (by decide) e)) (N2 _ (.head _)).1 hd1 ht1
    have Ca : CandsAt w _ _ C := .inr ⟨_, hC, hS⟩
    have Ca2 := Ca.keep hk1.1
    have eI : insAll C [] = C := sub_ext (insAll_sub (by decide)) hC fun x => by rw [mem_insAll (fun c hc => sub_lt hC hc)]; simp
    refine Stopped.on (wpAny_call (make_voter (Xb.keeps F2.keep) (Tb.keeps F2.keep) (bmd_but Bm fun b o n e => F2.keep b o (hide52_get b o n e)) hc1 (by walk_at "my room") Ca2 (fun c hc => sub_lt hC hc) (sub_nodup hC) (.inr ⟨n, _, rfl, fun c hc => by have := hCn c hc; omega⟩) hfile htop hwt (.inr rfl) fun y s' hK hy hV => ?_))
    dsimp only
    obtain ⟨op2, hok2, F3, N3, hgr⟩ := frame_kp (s := ⟨_, g, d, _, os⟩) F2 N2 (fun p hp => by cases hp) hK
    rw [eI] at hV
    refine wpAny_storeName_local rfl F3.ns (fun h4 hns hs => ?_)
    have F4 := F3.set hns hs
    have N4 := N3.set hs
    have V4 := hV.kc (KC.store F3.ns ⟨rfl, rfl, rfl, rfl, "self", _, rfl⟩ hs)
    have hyn : h.get? y = none := by
      cases q : h.get? y with
      | none => rfl
      | some o =>
        by_cases q52 : y = 52
        · rw [q52, (N2 _ (.head _)).1] at hy; cases hy
        · rw [F2.keep _ _ (hide52_get _ _ q52 q)] at hy; cases hy
    obtain ⟨h5, g5, d5, t5, os5⟩ := s'
    have hbr := hK.bare
    have hgr2 : Cd56 h → GrowO op op2 := fun hC => hgr (hC.mono fun o e => F2.keep _ _ (hide52_get _ _ (by decide) e))
    have e1 : d5 = d := hK.drawn
    have e2 : os5 = os := hK.os
    subst e1 e2
    clear F3 N3 F2 N2 hK hV hs hns hy Ca Ca2 hS hk1 hc1
    dsimp only at F4 N4 V4 ⊢
    k_steps
    obtain ⟨ps2, hd2, ht2⟩ := id hok2
    exact k y _ ⟨fun b o n e => F4.keep b o (hide52_get b o n e), ⟨ps2, isCode_re hc (fun o e => F4.keep _ _ (hide52_get _ _ (by decide) e)) (N4 _ (.head _)).1 hd2 ht2⟩, rfl, rfl, hbr, fun hC o o' e e' => by
      cases hop.symm.trans e
      cases e'.symm.trans (N4 _ (.head _)).1
      exact hgr2 hC⟩ hyn V4
end
end
section
inductive Vots (w : World) (h : Heap) : List Addr → List (Int × List Nat) → Prop
  | nil : Vots w h [] []
  | cons {a wt C as V} : VoterAt w h a wt C → Vots w h as V → Vots w h (a :: as) ((wt, C) :: V)
theorem Vots.imp {w : World} {h h' : Heap} (k : ∀ x wt C, VoterAt w h x wt C → VoterAt w h' x wt C) : ∀ {as V}, Vots w h as V → Vots w h' as V
  | _, _, .nil => .nil
  | _, _, .cons v r => .cons (k _ _ _ v) (r.imp k)
theorem Vots.snoc {w : World} {h : Heap} {a : Addr} {wt : Int} {C : List Nat} (v : VoterAt w h a wt C) : ∀ {as V}, Vots w h as V → Vots w h (as ++ [a]) (V ++ [(wt, C)])
  | _, _, .nil => .cons v .nil
  | _, _, .cons x r => .cons x (r.snoc v)
theorem Vots.len {w : World} {h : Heap} : ∀ {as V}, Vots w h as V → as.length = V.length
  | _, _, .nil => rfl
  | _, _, .cons _ r => by simp [r.len]
/-- the list of voters -/
def VotersAt (w : World) (h : Heap) (lv : Addr) (V : List (Int × List Nat)) : Prop := ∃ as n, h.get? lv = some (listOf (as.map Value.ref).toArray n) ∧ Vots w h as V
local macro_rules | `(tactic| walk_at "call ref") => `(tactic| ((with_reducible show wpAny _ _ (call (Value.ref 383) _ _) _ _ _); refine Stopped.go ?_))
local macro_rules | `(tactic| walk_at "call builtin:list.append") => `(tactic| (refine Stopped.go ?_))
section
variable {prog : Program} {w : World} {A : Around} {R : Result → Shared → Prop} {h : Heap} {g : Array GenState} {d : Drawn} {t : Nat} {os : OsState} {p : Program} {loose : List Str} {mg mb : Str → Option Value} {x lv vt : Addr} {n : Nat} {wt : Int} {C : List Nat}
theorem add_voter {ps : Array Value} {V : List (Int × List Nat)} (X : (Mine.hd.heap_39 w.params).In (hideAll h [52, lv])) (T : TopRead p loose mg mb (hideAll h [52, lv])) (Bm : BMd mg (hideAll h [52, lv])) (hc : h.IsCode 56 52 ps) (hA : Room A 34) (P : ProfAt h x n lv) (hn4 : n ≤ 4) (Vt : VoterAt w h vt wt C)
    (Vs : VotersAt w h lv V) (hV4 : V.length ≤ 10)
    (hC : C ∈ subs) (hCn : ∀ c ∈ C, c < n) (hfile : ((prog.main.file : Str) == "/claim/cut.py") = true) (htop : (prog.main.scope.names.lookup ("super" : Str)).isSome = false)
    (hwt : 0 < wt)
    (k : ∀ s', (∀ b o, b ≠ 52 → b ≠ lv → h.get? b = some o → s'.heap.get? b = some o) → (∃ ps, s'.heap.IsCode 56 52 ps) → s'.drawn = d → s'.os = os → (AllBare g → AllBare s'.gens) → (Cd56 h → ∀ o o', h.get? 52 = some o → s'.heap.get? 52 = some o' → GrowO o o') → VotersAt w s'.heap lv (V ++ [(wt, C)]) → R (.ok (.ret .none)) s') :
    codeAny (model prog w) A (.call (.ref 390) ⟨[.ref x, .ref vt], []⟩) R ⟨h, g, d, t, os⟩ := by
  obtain ⟨op, hop, hok⟩ := codeOk_of hc
  have hok' := hok
  obtain ⟨ps0, hd0, ht0⟩ := hok'
  obtain ⟨as, nv, hlv, hVs⟩ := Vs
  have hne : (52 : Nat) ≠ lv := fun q => by rw [← q, hop] at hlv; cases hlv; cases hd0
  have hget : ∀ b o, b ≠ 52 → b ≠ lv → h.get? b = some o → (hideAll h [52, lv]).get? b = some o := fun b o n1 n2 e => hideAll_get [52, lv] e (by simp [n1, n2])
  have hof : ∀ b o, (hideAll h [52, lv]).get? b = some o → h.get? b = some o := fun _ _ e => of_hideAll [52, lv] e
  have Xh := X.keeps hof
  have Th := T.keeps hof
  have Bh : BMd mg h := by
    obtain ⟨bm, ob, b1, b2, b3, b4, b5, b6, b7⟩ := Bm.out
    exact ⟨bm, ob, b1, b2, hof _ _ b3, b4, b5, b6, b7⟩
  have Pb : ProfAt (hideAll h [52, lv]) x n lv := P.but (fun b o n1 n2 e => hget b o (fun q => by rw [q, hop] at e; cases e; exact n2 _ hd0) n1 e) fun o e => by rw [hlv] at e; cases e; exact ⟨_, _, rfl⟩
  have kV : ∀ y wt C, VoterAt w h y wt C → VoterAt w (hideAll h [52, lv]) y wt C := fun y wt C v => v.but fun b o n1 n2 e => hget b o (fun q => by rw [q, hop] at e; cases e; exact n1 _ hd0) (fun q => by rw [q, hlv] at e; cases e; exact n2 _ _ rfl) e
  have Vb := kV _ _ _ Vt
  have h52lt := Heap.lt_size hop
  refine call_led (b := hideAll h [52, lv]) (news := [(52, op), (lv, listOf (as.map Value.ref).toArray nv)]) (s := ⟨h, g, d, t, os⟩) (binds := [("self", .ref x), ("voter", .ref vt)]) X T (fun b o e => hof _ _ e) (by rw [hideAll_size]; exact Nat.le_refl _) ?hn (by k_is) (by k_is) (Room.lt (n := 0) (by walk_at "my room")) ?hb (locs rfl) ?body rfl rfl rfl (by decide)
  case hn =>
    intro p hp
    simp only [List.mem_cons, List.not_mem_nil, or_false] at hp
    rcases hp with rfl | rfl
    · exact ⟨hop, hideAll_none [52, lv] (by simp)⟩
    · exact ⟨hlv, hideAll_none [52, lv] (by simp)⟩
  case hb => exact BindsTo.of_eq rfl
  case body =>
    intro L h₁ F N
    k_steps
    obtain ⟨ps1, hd1, ht1⟩ := id hok
    have hc1 := isCode_re hc (fun o e => F.keep _ _ (hget _ _ (by decide) (fun q => by
      obtain ⟨o56, _, _, _, _, _, _, _, _, _, ho56, hd56, _⟩ := hc
      rw [q, hlv] at ho56; cases ho56; cases hd56) e)) (N _ (.head _)).1 hd1 ht1
    refine Stopped.on (wpAny_call (uniq (h := h₁) (X.keeps F.keep) (T.keeps F.keep) (by
      obtain ⟨bm, ob, b1, b2, b3, b4, b5, b6, b7⟩ := Bm.out
      exact ⟨bm, ob, b1, b2, F.keep _ _ b3, b4, b5, b6, b7⟩) hc1 (by walk_at "my room") (Pb.keep F.keep) hn4 (Vb.keep F.keep) hC hCn hfile htop hwt fun y s' hK hy hV => ?_))
    dsimp only
    obtain ⟨op2, hok2, F2, N2, hgr⟩ := frame_kp (s := ⟨h₁, g, d, _, os⟩) F N (fun p hp => by
      rw [List.mem_singleton.mp hp]; exact Ne.symm hne) hK
    obtain ⟨h5, g5, d5, t5, os5⟩ := s'
    have hbr := hK.bare
    have hgr2 : Cd56 h → GrowO op op2 := fun hC => hgr (hC.mono fun o e => F.keep _ _ (hget _ _ (by decide) (fun q => by
      obtain ⟨o56, _, _, _, _, _, _, _, _, _, ho56, hd56, _⟩ := hc
      rw [q, hlv] at ho56; cases ho56; cases hd56) e))
    have e1 : d5 = d := hK.drawn
    have e2 : os5 = os := hK.os
    subst e1 e2
    dsimp only at F2 N2 hV ⊢
    clear F N hK hc1
    k_steps
    have hlv5 := (N2 (lv, _) (.tail _ (.head _))).1
    refine Stopped.on (append_at (s := ⟨h5, g5, d5, t5, os5⟩) hlv5 (fun h6 hs hg => ?_) ?_)
    · k_steps
      refine k _ (fun b o n1 n2 e => (hs.2 b n2).trans (F2.keep b o (hget b o n1 n2 e))) ?_ rfl rfl hbr (fun hC o o' e e' => by
        cases hop.symm.trans e
        cases e'.symm.trans ((hs.2 52 hne).trans (N2 _ (.head _)).1)
        exact hgr2 hC) ⟨as ++ [y], nv + 1, ?_, ?_⟩
      · obtain ⟨ps2, hd2, ht2⟩ := id hok2
        exact ⟨ps2, isCode_re hc (fun o e => (hs.2 56 (fun q => by
          obtain ⟨o56, _, _, _, _, _, _, _, _, _, ho56, hd56, _⟩ := hc
          rw [← q] at hlv; rw [hlv] at ho56; cases ho56; cases hd56)).trans (F2.keep _ _ (hget _ _ (by decide) (fun q => by
          obtain ⟨o56, _, _, _, _, _, _, _, _, _, ho56, hd56, _⟩ := hc
          rw [← q] at hlv; rw [hlv] at ho56; cases ho56; cases hd56) e))) ((hs.2 52 hne).trans (N2 _ (.head _)).1) hd2 ht2⟩
      · show h6.get? lv = _
        rw [hg]
        simp
      · have kc : ∀ y wt C, VoterAt w h5 y wt C → VoterAt w h6 y wt C := fun y wt C v => v.but fun b o _ n2 e => (hs.2 b (fun q => by rw [q, hlv5] at e; cases e; exact n2 _ _ rfl)).trans e
        exact Vots.snoc (kc _ _ _ hV) (hVs.imp fun y wt C v => kc _ _ _ ((kV _ _ _ v).keep F2.keep))
    · simp only [List.size_toArray, List.length_map]
      rw [hVs.len, sizeLine_eq]
      omega
end
end
section
theorem entry_iter' : entryFor table "iter" = some Builtin.«iter» := entryFor_of_tree (by kernel_rfl)
theorem args_iter' (v : Value) : argsOk "iter" ⟨[v], []⟩ := by unfold argsOk; kernel_rfl
local macro_rules | `(tactic| walk_at "call builtin:iter") => `(tactic| (refine Stopped.go ?_))
section
variable {prog : Program} {w : World} {A : Around} {E : Value → Shared → Prop} {s : Shared} {p : Program} {loose : List Str} {mg mb : Str → Option Value} {h₀ : Heap} {L : Addr} {m : Str → Option Value} {x lv : Addr} {n : Nat} {V : List (Int × List Nat)}
theorem call_iter_list {l : Addr} {items : Array Value} {Q : Value → Shared → Prop} (hl : s.heap.IsList l items) (h : ∀ I s', Ke s s' → s.heap.get? I = none → s'.heap.IsListIter I l 0 → Q (.ref I) s') : wpAny (model prog w) A (call (.builtin "iter") [.ref l]) Q E s := by
  refine Calls.call_function_entry (by decide +kernel) (by decide +kernel) entry_iter' (args_iter' _) ?_
  unfold Builtin.«iter»
  refine wpAny_bind (m := someArgs "iter" 1 2 _) (wpAny_of_eq (a := [Value.ref l]) (by first | rfl | kernel_rfl!) ?_)
  dsimp only
  refine wpAny_bind (wpAny_pyIter_list hl ?_)
  refine wpAny_pure ⟨_, rfl, h _ _ (.of (tk := s.toks) fun b o e => Heap.get?_push_of_some _ e) (no_at _) ⟨_, Heap.get?_push_size _ rfl, rfl, rfl⟩⟩
theorem code_iter {items : Array Value} {R : Result → Shared → Prop} (X : (Mine.hd.heap_39 w.params).In s.heap) (T : TopRead p loose mg mb s.heap) (hA : Room A 3) (P : ProfAt s.heap x n lv) (hl : s.heap.IsList lv items)
    (k : ∀ I s', Ke s s' → s.heap.get? I = none → s'.heap.IsListIter I lv 0 → R (.ok (.ret (.ref I))) s') : codeAny (model prog w) A (.call (.ref 432) ⟨[.ref x], []⟩) R s := by
  walk_at "my enter"
  k_steps
  rename Fr _ _ _ _ => kF
  obtain ⟨ol, hol, r⟩ := hl
  refine Stopped.on (call_iter_list (items := items) ⟨ol, kF.keep _ _ hol, r⟩ fun I s' hk hI hit => ?_)
  refine k I s' (.trans (.of kF.keep) hk) ?_ hit
  cases q : s.heap.get? I with
  | none => rfl
  | some o => rw [kF.keep _ _ q] at hI; cases hI
theorem iter_prof {items : Array Value} {Q : Value → Shared → Prop} (F : Fr h₀ L s.heap m) (X : (Mine.hd.heap_39 w.params).In h₀) (T : TopRead p loose mg mb h₀) (hA : Room A 6) (P : ProfAt s.heap x n lv) (hl : s.heap.IsList lv items)
    (k : ∀ I s', Ke s s' → s.heap.get? I = none → s'.heap.IsListIter I lv 0 → Q (.ref I) s') : wpAny (model prog w) A (pyIter (.ref x)) Q E s := by
  have P' := P
  obtain ⟨dx, lc, es, ep, it2, a1, a2, a3, a4, a5, a6, a7, _, _⟩ := P'.out
  refine owit_iter (f := 432) F X (inst_of a1 a2) (by k_is) (by k_is) ?_
  refine wpAny_call (code_iter (X.keeps F.keep) (T.keeps F.keep) (by walk_at "my room") P hl fun I s' hk hI hit => ?_)
  dsimp only
  unfold OwitIt
  obtain ⟨oi, hoi, hci, hdi⟩ := hit
  exact wpAny_specialOf (name := "__next__") ⟨oi, hoi, hci⟩ slot_listiter_next.lookup (k I s' hk hI ⟨oi, hoi, hci, hdi⟩)
end
end
section
section
variable {prog : Program} {w : World} {A : Around} {E : Value → Shared → Prop} {s : Shared} {env : Env}
/-- a for loop over an iterator, its invariant over the whole state -/
theorem loop_h {R : Result → Shared → Prop} {x : Str} {px : Pos} {body : List Stmt} {I : Addr} {fp wr : List Addr} {n : Nat} {P : Nat → Value → Prop} {St : Nat → Heap → Prop} {J : Nat → Shared → Prop}
    (W : Walks prog w A I fp wr n P St) (h0 : St 0 s.heap) (j0 : J 0 s)
    (stable : ∀ i s₁ h' tk, i ≤ n → St i s₁.heap → J i s₁ → (∀ b o, b ∉ wr → s₁.heap.get? b = some o → h'.get? b = some o) → J i { s₁ with heap := h', toks := tk })
    (step : ∀ i v s₁, i < n → P i v → St (i + 1) s₁.heap → J i s₁ →
      wpAny (model prog w) A (assign (.Name x px) env v) (fun _ s₂ => wpAny (model prog w) A (execs body env) (fun f s₃ => f = .next ∧ St (i + 1) s₃.heap ∧ J (i + 1) s₃) (fun _ _ => False) s₂) (fun _ _ => False) s₁)
    (hR : ∀ s', J n s' → R (.ok .next) s') :
    codeAny (model prog w) A (.forLoop (.Name x px) (.ref I) body [] env) R s := by
  refine codeAny_forLoop (fun k s' => ∃ i, St i s'.heap ∧ J i s' ∧ i ≤ n ∧ k = n + 1 - i) ?_ (n + 1) ⟨0, h0, j0, Nat.zero_le _, rfl⟩
  rintro k s' ⟨i, hst, hJ, hi, rfl⟩
  by_cases hlt : i < n
  · refine W.item i _ _ _ hlt hst fun v h₁ tk₁ hP hst₁ hk₁ => ?_
    refine wpAny_mono (step i v _ hlt hP hst₁ (stable i s' h₁ tk₁ hi hst hJ hk₁)) (fun _ s₂ h₂ => ?_) fun _ _ e => e.elim
    refine wpAny_mono h₂ (fun f s₃ h₃ => ?_) fun _ _ e => e.elim
    obtain ⟨rfl, hst₃, hJ₃⟩ := h₃
    exact ⟨n + 1 - (i + 1), by omega, i + 1, hst₃, hJ₃, hlt, rfl⟩
  · have hin : i = n := by omega
    subst hin
    refine W.done _ _ _ hst fun h₁ tk₁ hk₁ => wpAny_execs_nil ?_
    exact hR _ (stable i s' h₁ tk₁ hi hst hJ hk₁)
theorem For_h {Q : Flow → Shared → Prop} {x : Str} {px pos : Pos} {iter : Expr} {body : List Stmt} 
    (h : wpAny (model prog w) A (eval iter env) (fun xv s₁ => wpAny (model prog w) A (pyIter xv) (fun it s₂ => ∃ (I : Addr) (fp wr : List Addr) (n : Nat) (P : Nat → Value → Prop) (St : Nat → Heap → Prop) (J : Nat → Shared → Prop), it = .ref I ∧ Walks prog w A I fp wr n P St ∧ St 0 s₂.heap ∧ J 0 s₂ ∧
      (∀ (i : Nat) (s₁ : Shared) (h' : Heap) (tk : Nat), i ≤ n → St i s₁.heap → J i s₁ → (∀ b o, b ∉ wr → s₁.heap.get? b = some o → h'.get? b = some o) → J i { s₁ with heap := h', toks := tk }) ∧
      (∀ (i : Nat) (v : Value) (s₁ : Shared), i < n → P i v → St (i + 1) s₁.heap → J i s₁ →
        wpAny (model prog w) A (assign (.Name x px) env v) (fun _ s₂ => wpAny (model prog w) A (execs body env) (fun f s₃ => f = .next ∧ St (i + 1) s₃.heap ∧ J (i + 1) s₃) (fun _ _ => False) s₂) (fun _ _ => False) s₁) ∧
      (∀ s' : Shared, J n s' → Q .next s')) (fun _ _ => False) s₁) (fun _ _ => False) s)
    (hs : ∀ x, foldedSetIterable iter env x = pure x := by intro _; rfl) :
    wpAny (model prog w) A (exec (.For (.Name x px) iter body [] pos) env) Q (fun _ _ => False) s := by
  refine wpAny_For (wpAny_mono h (fun xv s₁ h₁ => wpAny_mono h₁ (fun it s₂ h₂ => ?_) fun _ _ e => e) fun _ _ e => e) hs
  obtain ⟨I, fp, wr, n, P, St, J, rfl, W, hst, hJ, stable, step, hQ⟩ := h₂
  exact loop_h (R := fun r s' => match r with | .ok f => Q f s' | .error e => cameBackBy (model prog w) A env (fun _ _ => False) e s') W hst hJ stable step hQ
end
end
section
theorem mut_lit : mutCls (.type "list_iterator") = true := by decide
theorem mut_sit : mutCls (.type "set_iterator") = true := by decide
theorem mut_rit : mutCls (.type "range_iterator") = true := by decide
theorem mut_list : mutCls (.type "list") = true := by decide
theorem mut_cell : mutCls (.type "cell") = true := by decide
structure ItOk (prog : Program) (w : World) (I : Addr) (fp : List Addr) (n : Nat) (P : Nat → Value → Prop) (St : Nat → Heap → Prop) : Prop where
  W : ∀ A' : Around, A'.handled = none → Walks prog w A' I fp [I] n P St
  turn : ∀ i h, St i h → ∀ o, h.get? I = some o → mutCls o.cls = true
section
variable {prog : Program} {w : World} {A : Around} {E : Value → Shared → Prop} {s : Shared}
theorem itok_list {I l : Addr} (hne : l ≠ I) (items : Array Value) : ItOk prog w I [I, l] items.size (fun i v => items[i]? = some v) (fun i h => h.IsListIter I l i ∧ h.IsList l items) :=
  ⟨fun A' hA' => Walks.list hA' I l hne items, fun i h st o e => by
    obtain ⟨⟨o', h1, h2, _⟩, _⟩ := st
    rw [h1] at e
    cases e
    rw [h2]
    exact mut_lit⟩
theorem it_list {l : Addr} {items : Array Value} {Q : Value → Shared → Prop} (hl : s.heap.IsList l items)
    (h : ∀ I s₂ St, Ke s s₂ → s.heap.get? I = none → ItOk prog w I [I, l] items.size (fun i v => items[i]? = some v) St → St 0 s₂.heap → Q (.ref I) s₂) : wpAny (model prog w) A (pyIter (.ref l)) Q E s := by
  have hls : l < s.heap.objs.size := by obtain ⟨ol, hol, _⟩ := hl; exact Heap.lt_size hol
  refine wpAny_pyIter_list hl ?_
  exact h _ _ _ (.of (tk := s.toks) fun b o e => Heap.get?_push_of_some _ e) (no_at _) (itok_list (Nat.ne_of_lt hls) items) ⟨⟨_, Heap.get?_push_size _ rfl, rfl, rfl⟩, hl.push _⟩
theorem it_set {a : Addr} {B : List Nat} {m mv : Nat} {oa : Obj} {Q : Value → Shared → Prop} (S : IsSet (model prog w) s.heap a) (hB : B ∈ subs) (hm : MM m mv) (ha : HasSet (byText w) m mv oa s.heap a B)
    (h : ∀ I s₂ St (cs : List Nat), Ke s s₂ → s.heap.get? I = none → cs.Perm B → ItOk prog w I [I, a] cs.length (fun i v => ∃ t, v = .int ((cs.getD i 0 : Nat) : Int) t) St → St 0 s₂.heap → Q (.ref I) s₂) : wpAny (model prog w) A (pyIter (.ref a)) Q E s := by
  obtain ⟨T, ep, ho⟩ := ha
  have hls : a < s.heap.objs.size := Heap.lt_size ho
  refine iter_set S hB hm ho rfl ?_
  have p := ord_perm w a ep B T
  obtain ⟨cs, hp, he⟩ : ∃ cs : List Nat, cs.Perm B ∧ ∀ i v, (ordOf w a ep B T)[i]? = some v → i < cs.length ∧ ∃ t, v = .int ((cs.getD i 0 : Nat) : Int) t := by
    refine ⟨(ordOf w a ep B T).map fun v => match v with | .int i _ => i.toNat | _ => 0, ?_, ?_⟩
    · refine (p.map _).trans ?_
      rw [List.map_map]
      refine .of_eq ((List.map_congr_left (g := id) fun c _ => ?_).trans (List.map_id _))
      simp
    · intro i v hi
      have hv := p.mem_iff.mp (List.mem_of_getElem? hi)
      rw [List.mem_map] at hv
      obtain ⟨c, _, rfl⟩ := hv
      have hlt : i < (ordOf w a ep B T).length := by
        rcases Nat.lt_or_ge i (ordOf w a ep B T).length with q | q
        · exact q
        · rw [List.getElem?_eq_none q] at hi; cases hi
      refine ⟨by rw [List.length_map]; exact hlt, T c, ?_⟩
      rw [List.getD_eq_getElem?_getD, List.getElem?_map, hi]
      simp
  have hlen : cs.length = B.length := hp.length_eq
  refine h s.heap.objs.size _ (fun i h => SetItAt h s.heap.objs.size a i (slotOf (byText w) B i) B.length ep ∧ h.get? a = some { oa with data := .set (ents B T) ep (tab (byText w) m mv B) }) cs (.of (tk := s.toks) fun b o e => Heap.get?_push_of_some _ e) (no_at _) hp ?_ ⟨⟨_, Heap.get?_push_size _ rfl, rfl, by rw [slot_zero]; rfl⟩, Heap.get?_push_of_some _ ho⟩
  refine ⟨fun A' hA' => ?_, fun i h st o e => ?_⟩
  · have W := walks_set (prog := prog) (w := w) (A₀ := A') (I := s.heap.objs.size) (o := { oa with data := .set (ents B T) ep (tab (byText w) m mv B) }) hA' hB hm rfl (Nat.ne_of_lt hls)
    rw [hlen]
    exact ⟨W.sub, W.frame, fun i s Q E hi st k => W.item i s Q E hi st fun v s' tk hP => k v s' tk (he i v hP).2, W.done, W.self⟩
  · obtain ⟨⟨o', h1, h2, _⟩, _⟩ := st
    rw [h1] at e
    cases e
    rw [h2]
    exact mut_sit
end
end
section
/-- what a piece of a function leaves: all but the objects in M -/
structure Km (M : List Addr) (s s' : Shared) : Prop where
  kc : KC s.heap s'.heap
  keep : ∀ b o, b ∉ M → s.heap.get? b = some o → s'.heap.get? b = some o
  gens : s'.gens = s.gens
  drawn : s'.drawn = s.drawn
  os : s'.os = s.os
theorem Km.refl (M : List Addr) (s : Shared) : Km M s s := ⟨KC.refl _, fun _ _ _ e => e, rfl, rfl, rfl⟩
theorem Km.trans {M : List Addr} {a b c : Shared} (h : Km M a b) (k : Km M b c) : Km M a c := ⟨h.kc.trans k.kc, fun x o n e => k.keep x o n (h.keep x o n e), k.gens.trans h.gens, k.drawn.trans h.drawn, k.os.trans h.os⟩
theorem Km.of {M : List Addr} {s s' : Shared} (k : Ke s s') : Km M s s' := ⟨KC.of k.1, fun b o _ e => k.1 b o e, k.2.1, k.2.2.1, k.2.2.2⟩
theorem Km.toks {M : List Addr} {s : Shared} {tk : Nat} : Km M s { s with toks := tk } := .of ⟨fun _ _ e => e, rfl, rfl, rfl⟩
theorem Km.ke {M : List Addr} {h₀ : Heap} {L : Addr} {m : Str → Option Value} {s₀ s s' : Shared} (e : s₀.heap = h₀) (k₀ : s.gens = s₀.gens ∧ s.drawn = s₀.drawn ∧ s.os = s₀.os) (k : Km M s s') (F : Fr h₀ L s'.heap m) : Ke s₀ s' := by
  subst e
  exact ⟨F.keep, k.gens.trans k₀.1, k.drawn.trans k₀.2.1, k.os.trans k₀.2.2⟩
def Free (x : Str) : Prop := ("approved" : Str) ≠ x ∧ ("numerator" : Str) ≠ x ∧ ("candidates" : Str) ≠ x ∧ ("base" : Str) ≠ x
section
variable {prog : Program} {w : World} {A : Around} {E : Value → Shared → Prop} {s : Shared} {env : Env} {h₀ : Heap} {m : Str → Option Value}
/-- a store of a local name -/
theorem store_m {L : Addr} (hLe : env.locals = L) {M : List Addr} {x : Str} {v : Value} {Q : Unit → Shared → Prop} (hx : env.kindOf x = some .local) (hf : Free x) (F : Fr h₀ L s.heap m) (H : Hid m) (hL : L ∈ M)
    (hp : (env.scope.kind == .class || (env.scope.kind == .module && env.locals != env.globals)) = false)
    (h : ∀ s', Km M s s' → (∀ b o, b ≠ L → s.heap.get? b = some o → s'.heap.get? b = some o) → Fr h₀ L s'.heap (fun y => if y = x then some v else m y) → Hid (fun y => if y = x then some v else m y) → Q () s') :
    wpAny (model prog w) A (storeName env x v) Q E s := by
  subst hLe
  refine wpAny_storeName_local hx F.ns (fun h₂ hns hs => ?_) hp
  exact h _ ⟨KC.store F.ns H hs, fun b o n e => (hs.2 b (fun q => n (q ▸ hL))).trans e, rfl, rfl, rfl⟩ (fun b o n e => (hs.2 b n).trans e) (F.set hns hs) (H.set hf.1 hf.2.1 hf.2.2.1 hf.2.2.2)
theorem For_m {Q : Flow → Shared → Prop} {x : Str} {px pos : Pos} {iter : Expr} {body : List Stmt} {L : Addr} (hLe : env.locals = L) (M : List Addr) (hLM : L ∈ M) (hM : ∀ b ∈ M, ∃ o, s.heap.get? b = some o)
    (G : Nat → (Str → Option Value) → Heap → Prop) (Gst : ∀ i m h h', G i m h → KC h h' → (∀ b ∈ M, b ≠ L → ∀ o, h.get? b = some o → h'.get? b = some o) → G i m h')
    (hx : env.kindOf x = some .local) (hf : Free x) (hp : (env.scope.kind == .class || (env.scope.kind == .module && env.locals != env.globals)) = false)
    (hev : wpAny (model prog w) A (eval iter env) (fun xv s₁ => wpAny (model prog w) A (pyIter xv) (fun it s₂ => ∃ (I : Addr) (fp : List Addr) (n : Nat) (P : Nat → Value → Prop) (St : Nat → Heap → Prop) (m : Str → Option Value),
      it = .ref I ∧ ItOk prog w I fp n P St ∧ A.handled = none ∧ St 0 s₂.heap ∧ Km M s s₂ ∧ s.heap.get? I = none ∧ (∀ b ∈ fp, b = I ∨ b ∉ M) ∧ (∀ b ∈ M, b ≠ L → ∀ o, s.heap.get? b = some o → s₂.heap.get? b = some o) ∧
      (∀ b o, h₀.get? b = some o → s.heap.get? b = some o) ∧ Fr h₀ L s₂.heap m ∧ Hid m ∧ G 0 m s₂.heap ∧
      (∀ (i : Nat) (v : Value) (s₃ : Shared) (m₃ : Str → Option Value), i < n → P i v → Km M s s₃ → Fr h₀ L s₃.heap (fun y => if y = x then some v else m₃ y) → Hid (fun y => if y = x then some v else m₃ y) → G i m₃ s₃.heap →
        wpAny (model prog w) A (execs body env) (fun f s₄ => f = .next ∧ Km M s₃ s₄ ∧ ∃ m₄, Fr h₀ L s₄.heap m₄ ∧ Hid m₄ ∧ G (i + 1) m₄ s₄.heap) (fun _ _ => False) s₃) ∧
      (∀ (s' : Shared) (m' : Str → Option Value), Km M s s' → Fr h₀ L s'.heap m' → Hid m' → G n m' s'.heap → Q .next s')) (fun _ _ => False) s₁) (fun _ _ => False) s)
    (hs : ∀ x, foldedSetIterable iter env x = pure x := by intro _; rfl) :
    wpAny (model prog w) A (exec (.For (.Name x px) iter body [] pos) env) Q (fun _ _ => False) s := by
  subst hLe
  refine For_h (wpAny_mono hev (fun xv s₁ h₁ => wpAny_mono h₁ (fun it s₂ h₂ => ?_) fun _ _ e => e) fun _ _ e => e) hs
  obtain ⟨I, fp, n, P, St, m, rfl, O, hh, hst, hk, hI, hfp, hM2, hb, F, H, g0, step, hQ⟩ := h₂
  have hIM : I ∉ M := fun q => by obtain ⟨o, e⟩ := hM I q; rw [hI] at e; cases e
  have hIL : env.locals ≠ I := fun q => hIM (q ▸ hLM)
  have hbI : ∀ b o, h₀.get? b = some o → b ≠ I := fun b o e q => by have := hb b o e; rw [q, hI] at this; cases this
  refine ⟨I, fp, [I], n, P, St, fun i s' => Km M s s' ∧ ∃ m, Fr h₀ env.locals s'.heap m ∧ Hid m ∧ G i m s'.heap, rfl, O.W A hh, hst, ⟨hk, m, F, H, g0⟩, ?_, ?_, ?_⟩
  · rintro i s₁ h' tk hi hst₁ ⟨hk₁, m₁, F₁, H₁, g₁⟩ kk
    have kk' : ∀ b o, b ≠ I → s₁.heap.get? b = some o → h'.get? b = some o := fun b o n e => kk b o (by simpa using n) e
    have kc : KC s₁.heap h' := KC.but (O.turn i _ hst₁) kk'
    refine ⟨⟨hk₁.kc.trans kc, fun b o n e => kk' b o (fun q => ?_) (hk₁.keep b o n e), hk₁.gens, hk₁.drawn, hk₁.os⟩, m₁, ⟨F₁.ns.at' fun o e => kk' _ o hIL e, fun b o e => kk' b o (hbI b o e) (F₁.keep b o e), F₁.above⟩, H₁, Gst i m₁ _ _ g₁ kc fun b hb _ o e => kk' b o (fun q => hIM (q ▸ hb)) e⟩
    rw [q, hI] at e; cases e
  · rintro i v s₁ hi hP hst₁ ⟨hk₁, m₁, F₁, H₁, g₁⟩
    refine wpAny_assign_Name (store_m rfl hx hf F₁ H₁ hLM hp fun s₂ k₂ kL F₂ H₂ => ?_)
    have g₂ := Gst i m₁ _ _ g₁ k₂.kc fun b _ n o e => kL b o n e
    have hfpL : ∀ b ∈ fp, b ≠ env.locals := fun b hb q => by
      rcases hfp b hb with e | e
      · exact hIL (q ▸ e)
      · exact e (q ▸ hLM)
    have hst₂ : St (i + 1) s₂.heap := (O.W A hh).frame _ _ _ hst₁ fun b hb o e => kL b o (hfpL b hb) e
    refine wpAny_mono (step i v s₂ m₁ hi hP (hk₁.trans k₂) F₂ H₂ g₂) (fun f s₃ h₃ => ?_) fun _ _ e => e
    obtain ⟨rfl, k₃, m₃, F₃, H₃, g₃⟩ := h₃
    refine ⟨rfl, (O.W A hh).frame _ _ _ hst₂ fun b hb o e => k₃.keep b o ?_ e, (hk₁.trans k₂).trans k₃, m₃, F₃, H₃, g₃⟩
    rcases hfp b hb with q | q
    · rw [q]; exact hIM
    · exact q
  · rintro s' ⟨hk', m', F', H', g'⟩
    exact hQ s' m' hk' F' H' g'
end
end
section
theorem Km.untok {M : List Addr} {h : Heap} {g : Array GenState} {d : Drawn} {t t' : Nat} {os : OsState} {s' : Shared} (k : Km M ⟨h, g, d, t, os⟩ s') : Km M ⟨h, g, d, t', os⟩ s' := ⟨k.kc, k.keep, k.gens, k.drawn, k.os⟩
theorem fr_know {h₀ h : Heap} {L : Addr} {m : Str → Option Value} (F : Fr h₀ L h m) {x : Str} {v : Value} (e : m x = some v) : Fr h₀ L h (fun y => if y = x then some v else m y) := by
  have : (fun y => if y = x then some v else m y) = m := by
    funext y
    by_cases q : y = x
    · rw [if_pos q, q, e]
    · rw [if_neg q]
  rw [this]
  exact F
theorem hid_know {m : Str → Option Value} (H : Hid m) {x : Str} {v : Value} (e : m x = some v) : Hid (fun y => if y = x then some v else m y) := by
  have : (fun y => if y = x then some v else m y) = m := by
    funext y
    by_cases q : y = x
    · rw [if_pos q, q, e]
    · rw [if_neg q]
  rw [this]
  exact H
def S (q : Nat) : Nat → Int
  | 0 => 0
  | k + 1 => S q k + F q ((k : Int) + 1)
def cnt (C cs : List Nat) : Nat := (C.filter fun c => cs.contains c).length
theorem own75 (p : Params) : OwnSet (Mine.hd.heap_39 p) := by
  obtain ⟨c, d, cd, sl, h75, hmro, hname⟩ := cls75 p
  exact ⟨by k_is, by k_is, by k_is, by k_is, by k_is, ⟨cd, by unfold clsIn; rw [h75], hmro⟩⟩
theorem cnt_len {C cs D : List Nat} (hC : C ∈ subs) (hD : D ∈ subs) (hcs : ∀ c ∈ cs, c < 4) (h : ∀ x, x ∈ D ↔ x ∈ insAll cs [] ∧ x ∈ C) : D.length = cnt C cs := by
  unfold cnt
  refine List.Perm.length_eq ((List.perm_ext_iff_of_nodup (sub_nodup hD) ((sub_nodup hC).filter _)).mpr fun x => ?_)
  rw [h x, mem_insAll hcs, List.mem_filter, List.contains_iff_mem]
  simp [and_comm]
/-- the score of cs -/
def scoreV (q : Nat) (V : List (Int × List Nat)) (cs : List Nat) : Int := (V.map fun p => p.1 * S q (cnt p.2 cs)).sum
theorem scoreV_take {q : Nat} {V : List (Int × List Nat)} {cs C : List Nat} {i : Nat} {wt : Int} (h : V[i]? = some (wt, C)) : scoreV q (V.take (i + 1)) cs = scoreV q (V.take i) cs + wt * S q (cnt C cs) := by
  unfold scoreV
  rw [List.take_add_one, h]
  simp
/-- voters as they occur -/
def VOk (V : List (Int × List Nat)) : Prop := ∀ p ∈ V, p.2 ∈ subs ∧ 0 < p.1 ∧ p.1 < 4
/-- a list of small ints -/
def NatsAt (h : Heap) (l : Addr) (cs : List Nat) : Prop := ∃ items, h.IsList l items ∧ IntsAre items.toList (cs.map fun (c : Nat) => (c : Int))
theorem NatsAt.keep {h h' : Heap} {l : Addr} {cs : List Nat} (N : NatsAt h l cs) (k : ∀ b o, h.get? b = some o → h'.get? b = some o) : NatsAt h' l cs := by
  obtain ⟨items, ⟨o, ho, r⟩, hi⟩ := N
  exact ⟨items, ⟨o, k _ _ ho, r⟩, hi⟩
theorem Vots.at {w : World} {h : Heap} : ∀ {as V}, Vots w h as V → ∀ (i : Nat) (a : Addr), as[i]? = some a → ∃ wt C, V[i]? = some (wt, C) ∧ VoterAt w h a wt C
  | _, _, .nil, _, _, e => by cases e
  | _, _, .cons v _, 0, _, e => by cases e; exact ⟨_, _, rfl, v⟩
  | _, _, .cons _ r, i + 1, a, e => r.at i a e
section
variable {prog : Program} {w : World} {A : Around} {E : Value → Shared → Prop} {s : Shared} {env : Env}
theorem keep_part {h : Heap} {pa : Addr} {b : Int} (P : PartAt h pa b) : Looks (model prog w) h (keeperOf (.ref pa)) .caller := by
  obtain ⟨tp, kd, hsh, t, u, n, a1, a2, a3, a4⟩ := P
  refine (Looks.ld (part := none) a1).andThen ?_
  dsimp only
  rw [if_pos (by decide), if_neg (by decide)]
  exact .now
theorem fn292 (p : Params) : ∃ c d fd sl, (Mine.hd.heap_39 p).lookup 292 = some ⟨c, d, .func fd, sl⟩ := by (repeat apply Exists.intro); k_is
theorem fn306 (p : Params) : ∃ c d fd sl, (Mine.hd.heap_39 p).lookup 306 = some ⟨c, d, .func fd, sl⟩ := by (repeat apply Exists.intro); k_is
theorem fn320 (p : Params) : ∃ c d fd sl, (Mine.hd.heap_39 p).lookup 320 = some ⟨c, d, .func fd, sl⟩ := by (repeat apply Exists.intro); k_is
theorem fn313 (p : Params) : ∃ c d fd sl, (Mine.hd.heap_39 p).lookup 313 = some ⟨c, d, .func fd, sl⟩ := by (repeat apply Exists.intro); k_is
theorem fn299 (p : Params) : ∃ c d fd sl, (Mine.hd.heap_39 p).lookup 299 = some ⟨c, d, .func fd, sl⟩ := by (repeat apply Exists.intro); k_is
theorem callWith_step {pos : Pos} {sv : Value} {q : Nat} {e : Expr} {Q : Value → Shared → Prop} (X : (Mine.hd.heap_39 w.params).In s.heap) (St : StepAt s.heap q sv)
    (h : wpAny (model prog w) A (eval e env) (fun v s₁ => Ke s s₁ ∧ wpAny (model prog w) A (call sv [v]) Q E s₁) E s)
    (he : starEach [e] env = (false, eval e env) :: starEach [] env := by rfl) :
    wpAny (model prog w) A (callWith pos sv [] (backTo pos (starEach [e] env)) []) Q E s := by
  have fn : ∀ a : Addr, (∃ c d fd sl, (Mine.hd.heap_39 w.params).lookup a = some ⟨c, d, .func fd, sl⟩) → sv = .ref a → wpAny (model prog w) A (callWith pos sv [] (backTo pos (starEach [e] env)) []) Q E s := by
    rintro a ⟨c, d, fd, sl, e1⟩ rfl
    exact callWith_def (o := ⟨c, d, .func fd, sl⟩) rfl (args_cons (wpAny_mono h (fun v s₁ h₁ => args_nil ⟨h₁.1.1 _ _ (X _ _ e1), h₁.2⟩) fun _ _ e => e) he) he
  have pt : ∀ (pa : Addr) (b : Int), PartAt s.heap pa b → sv = .ref pa → wpAny (model prog w) A (callWith pos sv [] (backTo pos (starEach [e] env)) []) Q E s := by
    rintro pa b P rfl
    rw [he]
    show wpAny (model prog w) A (callWith pos (.ref pa) [] [(false, eval e env)] []) Q E s
    unfold callWith
    have hA : wpAny (model prog w) A (evalArgs (.ref pa) true [(false, eval e env)] []) (fun a s₁ => PartAt s₁.heap pa b ∧ wpAny (model prog w) A (call (.ref pa) ([] ++ a.pos) a.kw) Q E s₁) E s :=
      evalArgs_plain (spliced_cons (wpAny_mono h (fun v s₁ h₁ => spliced_nil ⟨P.keep h₁.1.1, h₁.2⟩) fun _ _ e => e))
    refine wpAny_bind (wpAny_holding (wpAny_mono hA (fun a s₁ h₁ => wpAny_bind (wpAny_standAt ?_)) fun _ _ y => y))
    dsimp only
    refine wpAny_bind ((keep_part h₁.1).here ?_)
    have tail : ∀ {t : Sem Value}, wpAny (model prog w) A t Q E s₁ → wpAny (model prog w) A (t >>= fun r => holding [r] point >>= fun _ => pure r) Q E s₁ :=
      fun ht => wpAny_bind (wpAny_mono ht (fun r s₂ hr => wpAny_bind (wpAny_holding (wpAny_point (wpAny_pure hr)))) fun _ _ y => y)
    exact tail (wpAny_operateT h₁.2)
  rcases St with ⟨_, e⟩ | ⟨_, e⟩ | ⟨_, e⟩ | ⟨_, e⟩ | ⟨_, e⟩ | ⟨_, pa, e, P⟩ | ⟨_, pa, e, P⟩
  · exact fn _ (fn292 _) e
  · exact fn _ (fn306 _) e
  · exact fn _ (fn320 _) e
  · exact fn _ (fn313 _) e
  · exact fn _ (fn299 _) e
  · exact pt pa _ P e
  · exact pt pa _ P e
end
end
section
local macro_rules | `(tactic| walk_at "call builtin:len") => `(tactic| refine Stopped.go ?_)
local macro_rules | `(tactic| walk_at "call type:set") => `(tactic| refine Stopped.go ?_)
local macro_rules | `(tactic| walk_at "storeName") => `(tactic| refine Stopped.go ?_)
local macro_rules | `(tactic| walk_at "exec For Name Name cons nil") => `(tactic| refine Stopped.go ?_)
local macro_rules | `(tactic| walk_at "exec For Name BinOp cons nil") => `(tactic| refine Stopped.go ?_)
local macro_rules | `(tactic| walk_at "binaryOp BitAnd ref ref") => `(tactic| refine Stopped.go ?_)
local macro_rules | `(tactic| walk_at "callWith ref") => `(tactic| ((fail_if_success (with_reducible show wpAny _ _ (callWith _ (Value.ref 271) _ _ _) _ _ _)); (with_reducible show wpAny _ _ (callWith _ (Value.ref _) [] _ []) _ _ _); refine Stopped.go ?_))
local macro_rules | `(tactic| walk_at "call ref") => `(tactic| ((with_reducible show wpAny _ _ (call (Value.ref 271) _) _ _ _); refine Stopped.go ?_))
section
variable {prog : Program} {w : World} {A : Around} {s : Shared} {p : Program} {loose : List Str} {mg mb : Str → Option Value} {R : Result → Shared → Prop}
theorem thiele {q n : Nat} {tq : Tok} {pr lv com : Addr} {cs : List Nat} {V : List (Int × List Nat)} (X : (Mine.hd.heap_39 w.params).In s.heap) (T : TopRead p loose mg mb s.heap) (hA : Room A 40) (hq : q < 7)
    (P : ProfAt s.heap pr n lv) (VV : VotersAt w s.heap lv V) (hV : VOk V) (hC : NatsAt s.heap com cs) (hcs : ∀ c ∈ cs, c < 4) (hlen : cs.length ≤ 10)
    (k : ∀ v s', Ke s s' → NumAt s'.heap v (scoreV q V cs) → R (.ok (.ret v)) s') :
    codeAny (model prog w) A (.call (.ref 278) ⟨[.str (nameQ q) tq, .ref pr, .ref com], []⟩) R s := by
  walk_at "my enter"
  rename_i L h₁ F1 N1
  k_steps
  obtain ⟨items, hl, hi⟩ := hC.keep F1.keep
  have hz := hi.length
  simp only [Array.length_toList, List.length_map] at hz
  refine Stopped.on (call_len_list (items := items) hl (by omega) ?_)
  k_steps
  refine Stopped.on (wpAny_call (get_step2 hq (kx F1 X) (tx F1 T) (by walk_at "my room") fun sv s1 hk1 hS => ?_))
  dsimp only
  have F2 := fr_ke hk1 F1
  have N2 := news_ke hk1 N1
  have S2 := hS
  clear F1 N1
  refine store_m (L := L) rfl (M := [L]) rfl (by unfold Free; decide) F2 ⟨rfl, rfl, rfl, rfl, "profile", _, rfl⟩ (.head _) rfl fun s2 k2 _ F3 H3 => ?_
  have S3 := S2.kc k2.kc
  have N3 : News s.heap L s2.heap [] := News.nil
  clear F2 N2
  obtain ⟨h2, g2, d2, t2, os2⟩ := s2
  dsimp only at F3 N3 S3 ⊢
  k_steps
  refine Stopped.on (store_m (L := L) rfl (M := [L]) rfl (by unfold Free; decide) F3 H3 (.head _) rfl fun s3 k3 _ F4 H4 => ?_)
  have S4 := S3.kc k3.kc
  have k4 := k2.trans (Km.trans .toks k3)
  have N4 : News s.heap L s3.heap [] := News.nil
  clear F3 N3 H3
  obtain ⟨h3, g3, d3, t3, os3⟩ := s3
  dsimp only at F4 N4 S4 ⊢
  k_steps
  obtain ⟨sa, rfl⟩ := S4.ref
  obtain ⟨as, nv, hlv, hVs⟩ := VV
  have hLo : ∃ o, h3.get? L = some o := by obtain ⟨oL, _, _, hL, _⟩ := F4.ns; exact ⟨oL, hL⟩
  refine Stopped.on (For_m (h₀ := s.heap) (L := L) rfl [L] (.head _) (fun b hb => by rw [List.mem_singleton.mp hb]; exact hLo) (fun i m h => m "committee" = some (.ref com) ∧ m "marginal_scorefct" = some (.ref sa) ∧ StepAt h q (.ref sa) ∧ ∃ v, m "score" = some v ∧ NumAt h v (scoreV q (V.take i) cs)) ?Gst rfl (by unfold Free; decide) rfl ?hev)
  case Gst =>
    rintro i m h h' ⟨a, b, c, v, d, e⟩ kc _
    exact ⟨a, b, c.kc kc, v, d, e.kc kc⟩
  case hev =>
    refine wpAny_Name (wpAny_loadName_local rfl rfl F4.ns (by rfl) ?_)
    have hll : Heap.IsList h3 lv (as.map Value.ref).toArray := ⟨_, F4.keep _ _ hlv, rfl, _, rfl⟩
    refine iter_prof F4 X T (by walk_at "my room") (P.keep F4.keep) hll fun I s5 hk5 hI hit => ?_
    have hIlv : lv ≠ I := fun q => by rw [← q, F4.keep _ _ hlv] at hI; cases hI
    refine ⟨I, _, _, _, _, _, rfl, itok_list hIlv (as.map Value.ref).toArray, Room.handled (n := 0) (by walk_at "my room"), ⟨hit, ⟨_, hk5.1 _ _ (F4.keep _ _ hlv), rfl, _, rfl⟩⟩, .of hk5, hI, ?fp, fun b _ _ o e => hk5.1 b o e, F4.keep, fr_ke hk5 F4, H4, ⟨rfl, rfl, S4.keep hk5.1, _, rfl, .inl ⟨0, _, rfl, rfl⟩⟩, ?step, ?done⟩
    case fp =>
      intro b hb
      rcases List.mem_cons.mp hb with e | hb
      · exact .inl e
      · rw [List.mem_singleton.mp hb]
        exact .inr fun q => by rw [List.mem_singleton] at q; rw [q] at hlv; exact absurd (Heap.lt_size hlv) (Nat.not_lt.mpr F4.above)
    case done =>
      rintro s6 m6 k6 F6 H6 ⟨g1, g2, g3, v, g4, g5⟩
      obtain ⟨h6, e6, d6, t6, os6⟩ := s6
      have hke : Ke s ⟨h6, e6, d6, t6, os6⟩ := by
        have kk := (k4.trans (Km.trans .toks k6))
        exact ⟨F6.keep, kk.gens.trans hk1.2.1, kk.drawn.trans hk1.2.2.1, kk.os.trans hk1.2.2.2⟩
      have N6 : News s.heap L h6 [] := News.nil
      dsimp only at F6 g5
      have hsz : (as.map Value.ref).toArray.size = V.length := by simp [hVs.len]
      rw [hsz, List.take_length] at g5
      dsimp only
      replace F6 := fr_know F6 g4
      k_steps
      exact k _ _ hke g5
    case step =>
      rintro i v s6 m6 hi hP k6 F6 H6 ⟨g1, g2, g3, v0, g4, g5⟩
      have hP' : as[i]?.map Value.ref = some v := by simpa using hP
      obtain ⟨a, ha, rfl⟩ := Option.map_eq_some_iff.mp hP'
      obtain ⟨wt, C, hVi, hVa⟩ := hVs.at i a ha
      have N6 : News s.heap L s6.heap [] := News.nil
      obtain ⟨h6, e6, d6, t6, os6⟩ := s6
      dsimp only at F6 N6 g3 g5 ⊢
      k_steps
      refine Stopped.on (store_m (L := L) rfl (M := [L]) rfl (by unfold Free; decide) F6 H6 (.head _) rfl fun s7 k7 _ F7 H7 => ?_)
      have N7 : News s.heap L s7.heap [] := News.nil
      have S7 := g3.kc k7.kc
      have z7 := g5.kc k7.kc
      clear N6
      obtain ⟨h7, e7, d7, t7, os7⟩ := s7
      dsimp only at F7 N7 S7 z7 ⊢
      k_steps
      have hCs := (hV (wt, C) (List.mem_of_getElem? hVi)).1
      have hw0 := (hV (wt, C) (List.mem_of_getElem? hVi)).2
      dsimp only at hCs hw0
      have hLo7 : ∃ o, h7.get? L = some o := by obtain ⟨oL, _, _, hL, _⟩ := F7.ns; exact ⟨oL, hL⟩
      refine Stopped.on (wpAny_mono (Q := fun f s' => f = .next ∧ Km [L] ⟨h7, e7, d7, t7, os7⟩ s' ∧ ∃ m₄, Fr s.heap L s'.heap m₄ ∧ Hid m₄ ∧ m₄ "committee" = some (.ref com) ∧ m₄ "marginal_scorefct" = some (.ref sa) ∧ StepAt s'.heap q (.ref sa) ∧ ∃ v, m₄ "score" = some v ∧ NumAt s'.heap v (scoreV q (V.take i) cs + wt * S q (cnt C cs))) (E := fun _ _ => False) ?_ ?_ fun _ _ e => e)
      · refine For_m (h₀ := s.heap) (L := L) rfl [L] (.head _) (fun b hb => by rw [List.mem_singleton.mp hb]; exact hLo7) (fun j m h => m "committee" = some (.ref com) ∧ m "marginal_scorefct" = some (.ref sa) ∧ m "vote" = some (.ref a) ∧ (∃ t, m "cand_in_com" = some (.int (j : Nat) t)) ∧ StepAt h q (.ref sa) ∧ ∃ v, m "score" = some v ∧ NumAt h v (scoreV q (V.take i) cs + wt * S q j)) ?Gst2 rfl (by unfold Free; decide) rfl ?hev2
        case Gst2 =>
          rintro i m h h' ⟨a, b, c, f, g, v, d, e⟩ kc _
          exact ⟨a, b, c, f, g.kc kc, v, d, e.kc kc⟩
        case hev2 =>
          have hb7 := F7.keep
          replace F7 := fr_know (x := "committee") F7 (by exact g1)
          replace H7 := hid_know (x := "committee") H7 (by exact g1)
          k_steps
          obtain ⟨items7, hl7, hi7⟩ := (hC.keep F7.keep)
          refine Stopped.on (set_of_list (by walk_at "my room") hl7 hi7 hcs fun r h8 tk8 k8 hr hS8 => ?_)
          have F8 : Fr s.heap L h8 _ := fr_ke (s := ⟨h7, e7, d7, t7, os7⟩) (s' := ⟨h8, e7, d7, tk8, os7⟩) ⟨k8, rfl, rfl, rfl⟩ F7
          have N8 : News s.heap L h8 [] := News.nil
          replace F8 := fr_know (x := "vote") F8 (by rfl)
          replace H7 := hid_know (x := "vote") H7 (by rfl)
          clear F7
          dsimp only
          k_steps
          rename HasSet _ _ _ _ _ _ _ => hSo
          have X8 := X.keeps F8.keep
          refine Stopped.on (set_and X8 (own75 _) (insAll_sub (by decide)) hCs (.inl ⟨rfl, rfl⟩) (.inl ⟨rfl, rfl⟩) rfl rfl hS8 hSo fun r9 h9 D k9 hr9 hS9 hD hx => ?_)
          have hlD : D.length = cnt C cs := cnt_len hCs hD hcs hx
          obtain ⟨T9, ep9, ho9⟩ := id hS9
          refine it_set (isSet_plain ho9 rfl) hD (.inl ⟨rfl, rfl⟩) hS9 fun I2 s10 St2 ds hk10 hI2 hperm hit2 hst2 => ?_
          have kA : Ke ⟨h7, e7, d7, t7, os7⟩ s10 := Ke.trans (b := ⟨h9, e7, d7, t7, os7⟩) ⟨fun b o e => k9 b o (k8 b o e), rfl, rfl, rfl⟩ ⟨hk10.1, hk10.2.1, hk10.2.2.1, hk10.2.2.2⟩
          have kB : ∀ b o, h8.get? b = some o → s10.heap.get? b = some o := fun b o e => hk10.1 b o (k9 b o e)
          have F10 : Fr s.heap L s10.heap _ := ⟨F8.ns.keeps kB, fun b o e => kB b o (F8.keep b o e), F8.above⟩
          have hI7 : h7.get? I2 = none := by
            cases q : h7.get? I2 with
            | none => rfl
            | some o => rw [k9 _ _ (k8 _ _ q)] at hI2; cases hI2
          have hr7 : h7.get? r9 = none := by
            cases q : h7.get? r9 with
            | none => rfl
            | some o => rw [k8 _ _ q] at hr9; cases hr9
          have hrL : r9 ≠ L := fun q => by obtain ⟨oL, e⟩ := hLo7; rw [q, e] at hr7; cases hr7
          have hwt1 : wt * S q 0 = 0 := by show wt * 0 = 0; rw [Int.mul_zero]
          refine ⟨I2, _, _, _, _, _, rfl, hit2, Room.handled (n := 0) (by walk_at "my room"), hst2, .of kA, hI7, ?fp2, fun b _ _ o e => kA.1 b o e, hb7, F10, H7, ⟨rfl, by exact g2, rfl, ⟨_, rfl⟩, S7.keep kA.1, v0, by exact g4, by rw [hwt1, Int.add_zero]; exact z7.keep kA.1⟩, ?step2, ?done2⟩
          case fp2 =>
            intro b hb
            rcases List.mem_cons.mp hb with e | hb
            · exact .inl e
            · rw [List.mem_singleton.mp hb]
              exact .inr (by rw [List.mem_singleton]; exact hrL)
          case done2 =>
            rintro s' m' k' F' H' ⟨a1, a2, a3, ⟨t', a4⟩, a5, v', a6, a7⟩
            rw [hperm.length_eq, hlD] at a7
            exact ⟨by first | rfl | trivial, k', m', F', H', a1, a2, a5, v', a6, a7⟩
          case step2 =>
            rintro j v9 s11 m11 hj hP11 k11 F11 H11 ⟨a1, a2, a3, ⟨t', a4⟩, a5, v', a6, a7⟩
            obtain ⟨h11, e11, d11, t11, os11⟩ := s11
            have N11 : News s.heap L h11 [] := News.nil
            dsimp only at F11 a5 a7 ⊢
            replace F11 := fr_know (x := "cand_in_com") F11 (by exact a4)
            replace H11 := hid_know (x := "cand_in_com") H11 (by exact a4)
            k_steps
            refine Stopped.on (store_m (L := L) rfl (M := [L]) rfl (by unfold Free; decide) F11 H11 (.head _) rfl fun s12 k12 _ F12 H12 => ?_)
            have S12 := a5.kc k12.kc
            have z12 := a7.kc k12.kc
            have kk12 : Km [L] ⟨h11, e11, d11, t11, os11⟩ s12 := Km.untok k12
            clear F11 N11
            obtain ⟨h12, e12, d12, t12, os12⟩ := s12
            have N12 : News s.heap L h12 [] := News.nil
            dsimp only at F12 S12 z12 ⊢
            replace F12 := fr_know (x := "score") F12 (by exact a6)
            replace F12 := fr_know (x := "vote") F12 (by exact a3)
            replace F12 := fr_know (x := "marginal_scorefct") F12 (by exact a2)
            replace H12 := hid_know (x := "score") H12 (by exact a6)
            replace H12 := hid_know (x := "vote") H12 (by exact a3)
            replace H12 := hid_know (x := "marginal_scorefct") H12 (by exact a2)
            have hj4 : j < 4 := by
              have h1 := sub_len hD
              have h2 := hperm.length_eq
              omega
            have X12 := X.keeps F12.keep
            have T12 := T.keeps F12.keep
            k_steps
            refine Stopped.on (callWith_step (q := q) X12 S12 (wpAny_Name (wpAny_loadName_local rfl rfl F12.ns (by rfl) ⟨Ke.refl _, call_step (q := q) S12 X12 T12 (by walk_at "my room") (by omega) (by omega) fun u s13 hk13 hu => ?_⟩)))
            refine int_mul_num (X12.keeps hk13.1) (T12.keeps hk13.1) (by walk_at "my room") (by omega) hu fun y s14 hk14 hy => ?_
            have ke14 := hk13.trans hk14
            refine num_iadd (X12.keeps ke14.1) (T12.keeps ke14.1) (by walk_at "my room") (z12.keep ke14.1) hy fun r s15 hk15 hr => ?_
            have ke15 := ke14.trans hk15
            have F15 := fr_ke ke15 F12
            dsimp only
            refine store_m (L := L) rfl (M := [L]) rfl (by unfold Free; decide) F15 H12 (.head _) rfl fun s16 k16 _ F16 H16 => ?_
            refine wpAny_execs_nil ⟨by first | rfl | trivial, (kk12.trans (Km.untok (Km.of ke15))).trans k16, _, F16, H16, by exact a1, by rfl, by rfl, ⟨_, by rfl⟩, (S12.keep ke15.1).kc k16.kc, r, by rfl, ?_⟩
            have e : scoreV q (V.take i) cs + wt * S q (j + 1) = scoreV q (V.take i) cs + wt * S q j + F q ((j : Int) + 1) * wt := by
              show _ + wt * (S q j + F q ((j : Int) + 1)) = _
              rw [Int.mul_add, Int.mul_comm wt (F _ _)]
              omega
            rw [e]
            exact hr.kc k16.kc
      · rintro f s' ⟨rfl, k8, m8, F8, H8, g81, g82, g83, v8, g84, g85⟩
        dsimp only
        refine wpAny_execs_nil ⟨by first | rfl | trivial, Km.trans (Km.untok k7) k8, m8, F8, H8, g81, g82, g83, v8, g84, ?_⟩
        rw [scoreV_take hVi]
        exact g85
end
end
section
/-- a list of n numbers, worth z -/
def NumsAt (h : Heap) (l : Addr) (z : Nat → Int) (n : Nat) : Prop := ∃ items, h.IsList l items ∧ items.size = n ∧ ∀ (c : Nat) v, items[c]? = some v → NumAt h v (z c)
theorem NumsAt.turn {h h' : Heap} {l : Addr} {z : Nat → Int} {n : Nat} (N : NumsAt h l z n) (k : KC h h') (hl : ∀ o, h.get? l = some o → h'.get? l = some o) : NumsAt h' l z n := by
  obtain ⟨items, ⟨o, ho, r⟩, hz, hi⟩ := N
  exact ⟨items, ⟨o, hl _ ho, r⟩, hz, fun c v e => (hi c v e).kc k⟩
theorem NumsAt.keep {h h' : Heap} {l : Addr} {z : Nat → Int} {n : Nat} (N : NumsAt h l z n) (k : ∀ b o, h.get? b = some o → h'.get? b = some o) : NumsAt h' l z n := N.turn (KC.of k) fun o e => k _ o e
theorem NumsAt.eq {h : Heap} {l : Addr} {z z' : Nat → Int} {n : Nat} (N : NumsAt h l z n) (e : ∀ c, c < n → z c = z' c) : NumsAt h l z' n := by
  obtain ⟨items, ho, hz, hi⟩ := N
  refine ⟨items, ho, hz, fun c v hc => ?_⟩
  have : c < items.size := by
    rcases Nat.lt_or_ge c items.size with q | q
    · exact q
    · rw [Array.getElem?_eq_none q] at hc; cases hc
  rw [← e c (by omega)]
  exact hi c v hc
section
variable {prog : Program} {w : World} {A : Around} {E : Value → Shared → Prop} {s : Shared}
theorem nums_get {l : Addr} {z : Nat → Int} {n c : Nat} {t : Tok} {Q : Value → Shared → Prop} (N : NumsAt s.heap l z n) (hc : c < n) (hn : n < 1000) (h : ∀ v, NumAt s.heap v (z c) → Q v s) : wpAny (model prog w) A (getItem (.ref l) (.int (c : Nat) t)) Q E s := by
  obtain ⟨items, hl, hz, hi⟩ := N
  have hx : items[c]? = some items[c] := Array.getElem?_eq_getElem (by omega)
  exact wpAny_getItem_list hl (by omega) (by omega) (by simpa using hx) (h _ (hi c _ hx))
theorem nums_set {l : Addr} {z : Nat → Int} {n c : Nat} {t : Tok} {v : Value} {y : Int} {Q : Unit → Shared → Prop} (N : NumsAt s.heap l z n) (hc : c < n) (hn : n < 1000) (hv : NumAt s.heap v y)
    (h : ∀ s', (∀ b o, b ≠ l → s.heap.get? b = some o → s'.heap.get? b = some o) → KC s.heap s'.heap → s'.gens = s.gens → s'.drawn = s.drawn → s'.os = s.os → NumsAt s'.heap l (fun x => if x = c then y else z x) n → Q () s') :
    wpAny (model prog w) A (setItem (.ref l) (.int (c : Nat) t) v) Q E s := by
  obtain ⟨items, hl, hz, hi⟩ := N
  refine wpAny_setItem_list hl (by omega) (by omega) (by omega) fun h' hl' hs => ?_
  have kc : KC s.heap h' := KC.but (l := l) (fun o e => by
    obtain ⟨o', ho', hc', _⟩ := hl
    rw [ho'] at e; cases e; rw [hc']; exact mut_list) fun b o n e => (hs.2 b n).trans e
  refine h _ (fun b o n e => (hs.2 b n).trans e) kc rfl rfl rfl ⟨_, hl', by simp [hz], fun x v' hx => ?_⟩
  simp only [Int.toNat_natCast] at hx
  show NumAt _ v' (if x = c then y else z x)
  by_cases q : x = c
  · subst q
    rw [if_pos rfl]
    rw [Array.getElem?_setIfInBounds_self_of_lt (by omega)] at hx
    cases hx
    exact hv.kc kc
  · rw [if_neg q]
    rw [Array.getElem?_setIfInBounds_ne (Ne.symm q)] at hx
    exact (hi x v' hx).kc kc
end
def addV (q : Nat) (V : List (Int × List Nat)) (cs : List Nat) (c : Nat) : Int := (V.map fun p => if c ∈ p.2 then p.1 * F q ((cnt p.2 cs : Int) + 1) else 0).sum
def remV (q : Nat) (V : List (Int × List Nat)) (cs : List Nat) (c : Nat) : Int := (V.map fun p => if c ∈ p.2 then p.1 * F q (cnt p.2 cs) else 0).sum
theorem addV_take {q : Nat} {V : List (Int × List Nat)} {cs C : List Nat} {c i : Nat} {wt : Int} (h : V[i]? = some (wt, C)) : addV q (V.take (i + 1)) cs c = addV q (V.take i) cs c + (if c ∈ C then wt * F q ((cnt C cs : Int) + 1) else 0) := by
  unfold addV
  rw [List.take_add_one, h]
  simp
theorem remV_take {q : Nat} {V : List (Int × List Nat)} {cs C : List Nat} {c i : Nat} {wt : Int} (h : V[i]? = some (wt, C)) : remV q (V.take (i + 1)) cs c = remV q (V.take i) cs c + (if c ∈ C then wt * F q (cnt C cs) else 0) := by
  unfold remV
  rw [List.take_add_one, h]
  simp
theorem nums_zero {h : Heap} {l : Addr} {n k : Nat} {t : Tok} {ws : List Value} (e : (List.replicate ((n : Int).toNat) [Value.int 0 t]).flatten = ws) (ho : h.get? l = some (W.listOf ws.toArray k)) : NumsAt h l (fun _ => 0) n := by
  have e2 : ws = List.replicate n (Value.int 0 t) := by
    rw [← e, Int.toNat_natCast]
    clear e
    induction n with
    | zero => rfl
    | succ n ih => rw [List.replicate_succ, List.flatten_cons, ih, List.replicate_succ]; rfl
  subst e2
  refine ⟨_, ⟨_, ho, rfl, _, rfl⟩, by simp, fun c v hc => .inl ⟨0, t, ?_, rfl⟩⟩
  simp only [List.getElem?_toArray, List.getElem?_replicate] at hc
  split at hc
  · cases hc; rfl
  · cases hc
theorem type_set_inter : typeOf (.builtin "set.intersection") = pure (.type "method_descriptor") := by show builtinType _ = _; rw [builtinType_eq_fast]; kernel_rfl
theorem canon_set_ga : Manifest.canonical "set.__getattribute__" = "object.__getattribute__" := by decide +kernel
section
variable {prog : Program} {w : World} {A : Around} {E : Value → Shared → Prop} {s : Shared}
theorem meth_inter {S dS : Addr} {C : List Nat} {pl : Sem Bool} {Q : Value × List Value → Shared → Prop} (X : (Mine.hd.heap_39 w.params).In s.heap) (hS : HasSet (byText w) 7 0 (ownO dS) s.heap S C) (hd : s.heap.get? dS = some emptyDict)
    (h : Q (.builtin "set.intersection", [.ref S]) s) : wpAny (model prog w) A (getMethod (.ref S) "intersection" pl) Q E s := by
  obtain ⟨T, ep, ho⟩ := hS
  have Lt : Looks (model prog w) s.heap (typeOf (.ref S)) (.ref 75) := type_at ho rfl
  have hga : findIn (Mine.hd.heap_39 w.params) (.ref 75) "__getattribute__" = some (some (.builtin "set.__getattribute__")) := by k_is
  have hgr : findIn (Mine.hd.heap_39 w.params) (.ref 75) "__getattr__" = some none := by k_is
  have hin : findIn (Mine.hd.heap_39 w.params) (.ref 75) "intersection" = some (some (.builtin "set.intersection")) := by k_is
  unfold getMethod specialOf
  refine wpAny_bind (wpAny_bind (Lt.here ((looks_findIn X hga).here ?_)))
  dsimp only
  rw [canon_set_ga, if_neg (by decide)]
  refine wpAny_bind (wpAny_bind (Lt.here ((looks_findIn X hgr).here ?_)))
  refine wpAny_bind (wpAny_bind (Lt.here ((looks_findIn X hin).here (wpAny_bind (wpAny_of_eq type_set_inter ?_)))))
  rw [if_neg (by decide +kernel)]
  refine wpAny_bind (wpAny_loadPart ho ?_)
  dsimp only
  refine wpAny_bind (wpAny_bind (wpAny_loadPart hd ?_))
  rw [nsLook_of (r := none) (by rfl)]
  refine wpAny_pure ?_
  exact wpAny_bind (wpAny_rule (wpAny_pure h))
end
section
variable {prog : Program} {w : World} {A : Around} {E : Value → Shared → Prop} {s : Shared} {env : Env} {h₀ : Heap} {m : Str → Option Value}
theorem For_g {Q : Flow → Shared → Prop} {x : Str} {px pos : Pos} {iter : Expr} {body : List Stmt} {L : Addr} (hLe : env.locals = L) (M : List Addr) (hLM : L ∈ M) (hM : ∀ b ∈ M, ∃ o, s.heap.get? b = some o)
    (hx : env.kindOf x = some .local) (hf : Free x) (hp : (env.scope.kind == .class || (env.scope.kind == .module && env.locals != env.globals)) = false)
    (hev : wpAny (model prog w) A (eval iter env) (fun xv s₁ => wpAny (model prog w) A (pyIter xv) (fun it s₂ => ∃ (I : Addr) (fp : List Addr) (n : Nat) (P : Nat → Value → Prop) (St : Nat → Heap → Prop) (m : Str → Option Value) (G : Nat → (Str → Option Value) → Heap → Prop), (∀ i m h h', G i m h → KC h h' → (∀ b ∈ M, b ≠ L → ∀ o, h.get? b = some o → h'.get? b = some o) → G i m h') ∧
      it = .ref I ∧ ItOk prog w I fp n P St ∧ A.handled = none ∧ St 0 s₂.heap ∧ Km M s s₂ ∧ s.heap.get? I = none ∧ (∀ b ∈ fp, b = I ∨ b ∉ M) ∧ (∀ b ∈ M, b ≠ L → ∀ o, s.heap.get? b = some o → s₂.heap.get? b = some o) ∧
      (∀ b o, h₀.get? b = some o → s.heap.get? b = some o) ∧ Fr h₀ L s₂.heap m ∧ Hid m ∧ G 0 m s₂.heap ∧
      (∀ (i : Nat) (v : Value) (s₃ : Shared) (m₃ : Str → Option Value), i < n → P i v → Km M s s₃ → Fr h₀ L s₃.heap (fun y => if y = x then some v else m₃ y) → Hid (fun y => if y = x then some v else m₃ y) → G i m₃ s₃.heap →
        wpAny (model prog w) A (execs body env) (fun f s₄ => f = .next ∧ Km M s₃ s₄ ∧ ∃ m₄, Fr h₀ L s₄.heap m₄ ∧ Hid m₄ ∧ G (i + 1) m₄ s₄.heap) (fun _ _ => False) s₃) ∧
      (∀ (s' : Shared) (m' : Str → Option Value), Km M s s' → Fr h₀ L s'.heap m' → Hid m' → G n m' s'.heap → Q .next s')) (fun _ _ => False) s₁) (fun _ _ => False) s)
    (hs : ∀ x, foldedSetIterable iter env x = pure x := by intro _; rfl) :
    wpAny (model prog w) A (exec (.For (.Name x px) iter body [] pos) env) Q (fun _ _ => False) s := by
  subst hLe
  refine For_h (wpAny_mono hev (fun xv s₁ h₁ => wpAny_mono h₁ (fun it s₂ h₂ => ?_) fun _ _ e => e) fun _ _ e => e) hs
  obtain ⟨I, fp, n, P, St, m, G, Gst, rfl, O, hh, hst, hk, hI, hfp, hM2, hb, F, H, g0, step, hQ⟩ := h₂
  have hIM : I ∉ M := fun q => by obtain ⟨o, e⟩ := hM I q; rw [hI] at e; cases e
  have hIL : env.locals ≠ I := fun q => hIM (q ▸ hLM)
  have hbI : ∀ b o, h₀.get? b = some o → b ≠ I := fun b o e q => by have := hb b o e; rw [q, hI] at this; cases this
  refine ⟨I, fp, [I], n, P, St, fun i s' => Km M s s' ∧ ∃ m, Fr h₀ env.locals s'.heap m ∧ Hid m ∧ G i m s'.heap, rfl, O.W A hh, hst, ⟨hk, m, F, H, g0⟩, ?_, ?_, ?_⟩
  · rintro i s₁ h' tk hi hst₁ ⟨hk₁, m₁, F₁, H₁, g₁⟩ kk
    have kk' : ∀ b o, b ≠ I → s₁.heap.get? b = some o → h'.get? b = some o := fun b o n e => kk b o (by simpa using n) e
    have kc : KC s₁.heap h' := KC.but (O.turn i _ hst₁) kk'
    refine ⟨⟨hk₁.kc.trans kc, fun b o n e => kk' b o (fun q => ?_) (hk₁.keep b o n e), hk₁.gens, hk₁.drawn, hk₁.os⟩, m₁, ⟨F₁.ns.at' fun o e => kk' _ o hIL e, fun b o e => kk' b o (hbI b o e) (F₁.keep b o e), F₁.above⟩, H₁, Gst i m₁ _ _ g₁ kc fun b hb _ o e => kk' b o (fun q => hIM (q ▸ hb)) e⟩
    rw [q, hI] at e; cases e
  · rintro i v s₁ hi hP hst₁ ⟨hk₁, m₁, F₁, H₁, g₁⟩
    refine wpAny_assign_Name (store_m rfl hx hf F₁ H₁ hLM hp fun s₂ k₂ kL F₂ H₂ => ?_)
    have g₂ := Gst i m₁ _ _ g₁ k₂.kc fun b _ n o e => kL b o n e
    have hfpL : ∀ b ∈ fp, b ≠ env.locals := fun b hb q => by
      rcases hfp b hb with e | e
      · exact hIL (q ▸ e)
      · exact e (q ▸ hLM)
    have hst₂ : St (i + 1) s₂.heap := (O.W A hh).frame _ _ _ hst₁ fun b hb o e => kL b o (hfpL b hb) e
    refine wpAny_mono (step i v s₂ m₁ hi hP (hk₁.trans k₂) F₂ H₂ g₂) (fun f s₃ h₃ => ?_) fun _ _ e => e
    obtain ⟨rfl, k₃, m₃, F₃, H₃, g₃⟩ := h₃
    refine ⟨rfl, (O.W A hh).frame _ _ _ hst₂ fun b hb o e => k₃.keep b o ?_ e, (hk₁.trans k₂).trans k₃, m₃, F₃, H₃, g₃⟩
    rcases hfp b hb with q | q
    · rw [q]; exact hIM
    · exact q
  · rintro s' ⟨hk', m', F', H', g'⟩
    exact hQ s' m' hk' F' H' g'
end
end
section
local macro_rules | `(tactic| walk_at "binaryOp Mult ref int") => `(tactic| refine Stopped.go ?_)
local macro_rules | `(tactic| walk_at "call builtin:len") => `(tactic| refine Stopped.go ?_)
local macro_rules | `(tactic| walk_at "call type:set") => `(tactic| refine Stopped.go ?_)
local macro_rules | `(tactic| walk_at "storeName") => `(tactic| refine Stopped.go ?_)
local macro_rules | `(tactic| walk_at "exec For Name Name cons nil") => `(tactic| refine Stopped.go ?_)
local macro_rules | `(tactic| walk_at "exec For Name Attribute cons nil") => `(tactic| refine Stopped.go ?_)
local macro_rules | `(tactic| walk_at "getMethod ref") => `(tactic| ((with_reducible show wpAny _ _ (getMethod (Value.ref _) (PySem.Str.ofString "intersection") _) _ _ _); (refine meth_inter (kx (by assumption) (by assumption)) (by assumption) (by assumption) ?_)))
local macro_rules | `(tactic| walk_at "call builtin:set.intersection") => `(tactic| refine Stopped.go ?_)
local macro_rules | `(tactic| walk_at "callWith ref") => `(tactic| ((with_reducible show wpAny _ _ (callWith _ (Value.ref _) [] _ []) _ _ _); refine Stopped.go ?_))
section
variable {prog : Program} {w : World} {A : Around} {s : Shared} {p : Program} {loose : List Str} {mg mb : Str → Option Value} {R : Result → Shared → Prop}
theorem marg_add {q n : Nat} {sv : Value} {pr lv com : Addr} {cs : List Nat} {V : List (Int × List Nat)} (X : (Mine.hd.heap_39 w.params).In s.heap) (T : TopRead p loose mg mb s.heap) (hA : Room A 40) (hS : StepAt s.heap q sv)
    (P : ProfAt s.heap pr n lv) (hn4 : n ≤ 4) (VV : VotersAt w s.heap lv V) (hV : VOk V) (hVn : ∀ p ∈ V, ∀ c ∈ p.2, c < n) (hC : NatsAt s.heap com cs) (hcs : ∀ c ∈ cs, c < n) (hlen : cs.length ≤ 10)
    (k : ∀ l s', Ke s s' → s.heap.get? l = none → NumsAt s'.heap l (fun c => if c ∈ cs then -45360 else addV q V cs c) n → R (.ok (.ret (.ref l))) s') :
    codeAny (model prog w) A (.call (.ref 334) ⟨[sv, .ref pr, .ref com], []⟩) R s := by
  obtain ⟨sa, rfl⟩ := hS.ref
  walk_at "my enter"
  rename_i L h₁ F1 N1
  k_steps
  rename Fr _ _ _ _ => F2
  rename News _ _ _ _ => N2
  rename Ke _ _ => hk0
  refine Stopped.on (KMa.mul (vs := [_]) F2 N2 (News.isList N2 (.head _)) (by omega) (by omega) (by simp; omega) rfl fun lm h3 F3 N3 lt3 => ?_)
  have Z3 := nums_zero (n := n) rfl (N3 _ (.head _)).1
  have hlmL : lm ≠ L := (N3 _ (.head _)).2.1
  have hlm0 : s.heap.get? lm = none := (N3 _ (.head _)).2.2
  have hlm3 : ∃ o, h3.get? lm = some o := ⟨_, (N3 _ (.head _)).1⟩
  clear N2 F2 N3 lt3
  refine store_m (L := L) rfl (M := [L, lm]) rfl (by unfold Free; decide) F3 ⟨rfl, rfl, rfl, rfl, "profile", _, rfl⟩ (.head _) rfl fun s4 k4 kL4 F4 H4 => ?_
  have Z4 := Z3.turn k4.kc fun o e => kL4 _ o hlmL e
  have hlm4 : ∃ o, s4.heap.get? lm = some o := by obtain ⟨o, e⟩ := hlm3; exact ⟨o, kL4 _ o hlmL e⟩
  have hg4 : s4.gens = s.gens := k4.gens
  have hd4 : s4.drawn = s.drawn := k4.drawn
  have ho4 : s4.os = s.os := k4.os
  clear F3 k4 kL4 Z3 hlm3 hk0
  have N4 : News s.heap L s4.heap [] := News.nil
  obtain ⟨h4, g4, d4, t4, os4⟩ := s4
  dsimp only at F4 N4 Z4 hlm4 hg4 hd4 ho4 ⊢
  k_steps
  obtain ⟨as, nv, hlv, hVs⟩ := VV
  have hLo : ∃ o, h4.get? L = some o := by obtain ⟨oL, _, _, hL, _⟩ := F4.ns; exact ⟨oL, hL⟩
  refine Stopped.on (For_m (h₀ := s.heap) (L := L) rfl [L, lm] (.head _) (fun b hb => by
    rcases List.mem_cons.mp hb with e | hb
    · rw [e]; exact hLo
    · rw [List.mem_singleton.mp hb]; exact hlm4) (fun i m h => m "committee" = some (.ref com) ∧ m "marginal_scorefct" = some (.ref sa) ∧ m "marginal" = some (.ref lm) ∧ NumsAt h lm (fun c => addV q (V.take i) cs c) n) ?Gst rfl (by unfold Free; decide) rfl ?hev)
  case Gst =>
    rintro i m h h' ⟨a, b, c, z⟩ kc hM
    exact ⟨a, b, c, z.turn kc fun o e => hM lm (.tail _ (.head _)) hlmL o e⟩
  case hev =>
    refine wpAny_Name (wpAny_loadName_local rfl rfl F4.ns (by rfl) ?_)
    have hll : Heap.IsList h4 lv (as.map Value.ref).toArray := ⟨_, F4.keep _ _ hlv, rfl, _, rfl⟩
    refine iter_prof F4 X T (by walk_at "my room") (P.keep F4.keep) hll fun I s5 hk5 hI hit => ?_
    have hIlv : lv ≠ I := fun q => by rw [← q, F4.keep _ _ hlv] at hI; cases hI
    refine ⟨I, _, _, _, _, _, rfl, itok_list hIlv (as.map Value.ref).toArray, Room.handled (n := 0) (by walk_at "my room"), ⟨hit, ⟨_, hk5.1 _ _ (F4.keep _ _ hlv), rfl, _, rfl⟩⟩, .of hk5, hI, ?fp, fun b _ _ o e => hk5.1 b o e, F4.keep, fr_ke hk5 F4, H4, ⟨rfl, rfl, rfl, Z4.keep hk5.1⟩, ?step, ?done⟩
    case fp =>
      intro b hb
      rcases List.mem_cons.mp hb with e | hb
      · exact .inl e
      · rw [List.mem_singleton.mp hb]
        refine .inr fun q => ?_
        rcases List.mem_cons.mp q with q | q
        · rw [q] at hlv; exact absurd (Heap.lt_size hlv) (Nat.not_lt.mpr F4.above)
        · rw [List.mem_singleton.mp q, hlm0] at hlv; cases hlv
    case done =>
      rintro s6 m6 k6 F6 H6 ⟨g1, g2, g3, z6⟩
      obtain ⟨h6, e6, d6, t6, os6⟩ := s6
      have N6 : News s.heap L h6 [] := News.nil
      dsimp only at F6 z6 ⊢
      have hsz : (as.map Value.ref).toArray.size = V.length := by simp [hVs.len]
      rw [hsz, List.take_length] at z6
      replace F6 := fr_know (x := "committee") F6 g1
      replace F6 := fr_know (x := "marginal") F6 (by exact g3)
      k_steps
      have hb6 := F6.keep
      replace H6 := hid_know (x := "committee") H6 g1
      replace H6 := hid_know (x := "marginal") H6 (by exact g3)
      have hLo6 : ∃ o, h6.get? L = some o := by obtain ⟨oL, _, _, hL, _⟩ := F6.ns; exact ⟨oL, hL⟩
      have hlm6 : ∃ o, h6.get? lm = some o := by
        obtain ⟨it8, ⟨o8, ho8, _⟩, _⟩ := z6
        exact ⟨o8, ho8⟩
      have hke6 : g4 = s.gens ∧ d4 = s.drawn ∧ os4 = s.os := ⟨hg4, hd4, ho4⟩
      refine Stopped.on (For_g (h₀ := s.heap) (L := L) rfl [L, lm] (.head _) (fun b hb => by
          rcases List.mem_cons.mp hb with e | hb
          · rw [e]; exact hLo6
          · rw [List.mem_singleton.mp hb]; exact hlm6) rfl (by unfold Free; decide) rfl ?hev3)
      case hev3 =>
        refine wpAny_Name (wpAny_loadName_local rfl rfl F6.ns (by rfl) ?_)
        have hC6 := hC
        obtain ⟨itc, hlc0, hic⟩ := hC6
        have hlc : Heap.IsList h6 com itc := by obtain ⟨o, ho, r⟩ := hlc0; exact ⟨o, F6.keep _ _ ho, r⟩
        have hzc : itc.size = cs.length := by have := hic.length; simpa using this
        refine it_list hlc fun I s7 St hk7 hI hit hst => ?_
        refine ⟨I, _, _, _, _, _, fun j m h => m "marginal" = some (.ref lm) ∧ NumsAt h lm (fun c => if c ∈ cs.take j then -45360 else addV q V cs c) n, ?Gst3, rfl, hit, Room.handled (n := 0) (by walk_at "my room"), hst, .of hk7, hI, ?fp3, fun b _ _ o e => hk7.1 b o e, hb6, fr_ke hk7 F6, H6, ⟨rfl, (z6.keep hk7.1).eq fun c _ => by simp⟩, ?step3, ?done3⟩
        case Gst3 =>
          rintro j m h h' ⟨a, z⟩ kc hM
          exact ⟨a, z.turn kc fun o e => hM lm (.tail _ (.head _)) hlmL o e⟩
        case fp3 =>
          intro b hb
          rcases List.mem_cons.mp hb with e | hb
          · exact .inl e
          · rw [List.mem_singleton.mp hb]
            obtain ⟨oc, hoc, _⟩ := hlc0
            refine .inr fun q => ?_
            rcases List.mem_cons.mp q with q | q
            · rw [q] at hoc; exact absurd (Heap.lt_size hoc) (Nat.not_lt.mpr F6.above)
            · rw [List.mem_singleton.mp q, hlm0] at hoc; cases hoc
        case done3 =>
          rintro s8 m8 k8 F8 H8 ⟨a1, z8⟩
          obtain ⟨h8, e8, d8, t8, os8⟩ := s8
          have N8 : News s.heap L h8 [] := News.nil
          dsimp only at F8 z8 ⊢
          replace F8 := fr_know (x := "marginal") F8 a1
          rw [hzc, List.take_length] at z8
          k_steps
          refine k lm _ ⟨F8.keep, ?_, ?_, ?_⟩ hlm0 z8
          · exact (k8.gens.trans k6.gens).trans hg4
          · exact (k8.drawn.trans k6.drawn).trans hd4
          · exact (k8.os.trans k6.os).trans ho4
        case step3 =>
          rintro j v s8 m8 hj hP8 k8 F8 H8 ⟨a1, z8⟩
          have hv' : itc.toList[j]? = some v := by rw [Array.getElem?_toList]; exact hP8
          obtain ⟨tv, ev⟩ := IntsAre.int_at hic j v hv'
          have hj' : j < cs.length := by omega
          have ec : (cs.map fun (c : Nat) => (c : Int)).getD j 0 = ((cs[j] : Nat) : Int) := by simp [List.getD, hj']
          rw [ec] at ev
          subst ev
          have hcn := hcs cs[j] (List.getElem_mem hj')
          obtain ⟨h8, e8, d8, t8, os8⟩ := s8
          have N8 : News s.heap L h8 [] := News.nil
          dsimp only at F8 z8 ⊢
          replace F8 := fr_know (x := "marginal") F8 (by exact a1)
          replace H8 := hid_know (x := "marginal") H8 (by exact a1)
          replace F8 := fr_know (x := "cand") F8 (by rfl)
          replace H8 := hid_know (x := "cand") H8 (by rfl)
          k_steps
          refine nums_set (y := -45360) z8 hcn (by omega) (.inl ⟨-1, _, rfl, rfl⟩) fun s9 kL9 kc9 hg9 hd9 ho9 z9 => ?_
          have hb9 : ∀ b o, s.heap.get? b = some o → b ≠ lm := fun b o e q => by rw [q, hlm0] at e; cases e
          have F9 : Fr s.heap L s9.heap _ := ⟨F8.ns.at' fun o e => kL9 _ o (Ne.symm hlmL) e, fun b o e => kL9 b o (hb9 b o e) (F8.keep b o e), F8.above⟩
          have k9 : Km [L, lm] ⟨h8, e8, d8, t8, os8⟩ s9 := ⟨kc9, fun b o n e => kL9 b o (fun q => n (by rw [q]; exact .tail _ (.head _))) e, hg9, hd9, ho9⟩
          dsimp only
          refine wpAny_execs_nil ⟨by first | rfl | trivial, k9, _, F9, H8, by rfl, z9.eq fun c hc => ?_⟩
          have htk : c ∈ cs.take (j + 1) ↔ c ∈ cs.take j ∨ c = cs[j] := by
            rw [List.take_add_one, List.mem_append, List.getElem?_eq_getElem hj']
            simp
          by_cases q1 : c = cs[j]
          · rw [if_pos q1, if_pos (htk.mpr (.inr q1))]
          · rw [if_neg q1]
            simp only [htk, q1, or_false]
    case step =>
      rintro i v s6 m6 hi hP k6 F6 H6 ⟨g1, g2, g3, z6⟩
      have hP' : as[i]?.map Value.ref = some v := by simpa using hP
      obtain ⟨a, ha, rfl⟩ := Option.map_eq_some_iff.mp hP'
      obtain ⟨wt, C, hVi, hVa⟩ := hVs.at i a ha
      have N6 : News s.heap L s6.heap [] := News.nil
      obtain ⟨h6, e6, d6, t6, os6⟩ := s6
      dsimp only at F6 N6 z6 ⊢
      replace F6 := fr_know (x := "committee") F6 (by exact g1)
      k_steps
      rename HasSet _ _ _ _ _ _ _ => hSo
      have hCs := (hV (wt, C) (List.mem_of_getElem? hVi)).1
      have hw0 := (hV (wt, C) (List.mem_of_getElem? hVi)).2
      have hCn := hVn (wt, C) (List.mem_of_getElem? hVi)
      dsimp only at hCs hw0 hCn
      obtain ⟨itc, hlc, hic⟩ := hC.keep F6.keep
      have X6 := X.keeps F6.keep
      refine Stopped.on (inter_list (own_set X6 hSo) hCs (.inl ⟨rfl, rfl⟩) (by walk_at "my room") hlc hic (fun c hc => by have := hcs c hc; omega) hSo fun r7 h7 tk7 D k7 hr7 hS7 hD hx => ?_)
      have hlD : D.length = cnt C cs := cnt_len hCs hD (fun c hc => by have := hcs c hc; omega) (fun x => by rw [hx x, mem_insAll (fun c hc => by have := hcs c hc; omega)]; simp [and_comm])
      have F7 : Fr s.heap L h7 _ := ⟨F6.ns.keeps k7, fun b o e => k7 b o (F6.keep b o e), F6.above⟩
      have N7 : News s.heap L h7 [] := News.nil
      have Z7 := z6.keep k7
      dsimp only
      clear N6
      k_steps
      obtain ⟨T7, ep7, ho7⟩ := id hS7
      refine Stopped.on (len_set (isSet_plain ho7 rfl) hD (.inl ⟨rfl, rfl⟩) hS7 fun tt tt' => ?_)
      dsimp only
      rw [hlD]
      refine store_m (L := L) rfl (M := [L, lm]) rfl (by unfold Free; decide) F7 (hid_know (x := "committee") H6 (by exact g1)) (.head _) rfl fun s8 k8 kL8 F8 H8 => ?_
      have Z8 := Z7.turn k8.kc fun o e => kL8 _ o hlmL e
      have hlm8 : ∃ o, s8.heap.get? lm = some o := by
        obtain ⟨it8, ⟨o8, ho8, _⟩, _⟩ := Z8
        exact ⟨o8, ho8⟩
      have k68 : Km [L, lm] ⟨h6, e6, d6, t6, os6⟩ s8 := Km.trans (b := ⟨h7, e6, d6, tk7, os6⟩) (.of ⟨k7, rfl, rfl, rfl⟩) ⟨k8.kc, k8.keep, k8.gens, k8.drawn, k8.os⟩
      clear F7 N7 Z7 k8 kL8 F6 z6 hS7 ho7
      obtain ⟨h8, e8, d8, t8, os8⟩ := s8
      have N8 : News s.heap L h8 [] := News.nil
      dsimp only at F8 N8 Z8 hlm8 ⊢
      have hLo8 : ∃ o, h8.get? L = some o := by obtain ⟨oL, _, _, hL, _⟩ := F8.ns; exact ⟨oL, hL⟩
      k_steps
      have hk4 : cnt C cs ≤ 4 := by rw [← hlD]; exact sub_len hD
      refine Stopped.on (wpAny_mono (Q := fun f s' => f = .next ∧ Km [L, lm] ⟨h8, e8, d8, t8, os8⟩ s' ∧ ∃ m₄, Fr s.heap L s'.heap m₄ ∧ Hid m₄ ∧ m₄ "committee" = some (.ref com) ∧ m₄ "marginal_scorefct" = some (.ref sa) ∧ m₄ "marginal" = some (.ref lm) ∧ NumsAt s'.heap lm (fun c => addV q (V.take i) cs c + (if c ∈ C then wt * F q ((cnt C cs : Int) + 1) else 0)) n) (E := fun _ _ => False) ?_ ?_ fun _ _ e => e)
      · refine For_g (h₀ := s.heap) (L := L) rfl [L, lm] (.head _) (fun b hb => by
          rcases List.mem_cons.mp hb with e | hb
          · rw [e]; exact hLo8
          · rw [List.mem_singleton.mp hb]; exact hlm8) rfl (by unfold Free; decide) rfl ?hev2
        case hev2 =>
          have hb8 := F8.keep
          replace F8 := fr_know (x := "voter") F8 (by rfl)
          replace H8 := hid_know (x := "voter") H8 (by rfl)
          k_steps
          rename HasSet _ _ _ _ _ _ _ => hSo8
          refine it_set (own_set (X.keeps F8.keep) hSo8) hCs (.inl ⟨rfl, rfl⟩) hSo8 fun I2 s10 St2 ds hk10 hI2 hperm hit2 hst2 => ?_
          obtain ⟨T8, ep8, ho8⟩ := id hSo8
          have hF10 := fr_ke (s := ⟨h8, e8, d8, _, os8⟩) hk10 F8
          have hI8 : h8.get? I2 = none := hI2
          have kA : Ke ⟨h8, e8, d8, t8, os8⟩ s10 := ⟨hk10.1, hk10.2.1, hk10.2.2.1, hk10.2.2.2⟩
          refine ⟨I2, _, _, _, _, _, fun j m h => m "committee" = some (.ref com) ∧ m "marginal_scorefct" = some (.ref sa) ∧ m "marginal" = some (.ref lm) ∧ m "voter" = some (.ref a) ∧ (∃ t, m "intersectionsize" = some (.int (cnt C cs) t)) ∧ NumsAt h lm (fun c => addV q (V.take i) cs c + (if c ∈ ds.take j then wt * F q ((cnt C cs : Int) + 1) else 0)) n, ?Gst2, rfl, hit2, Room.handled (n := 0) (by walk_at "my room"), hst2, .of kA, hI8, ?fp2, fun b _ _ o e => kA.1 b o e, hb8, hF10, H8, ⟨rfl, by exact g2, by exact g3, rfl, ⟨_, rfl⟩, (Z8.keep kA.1).eq fun c _ => by simp⟩, ?step2, ?done2⟩
          case Gst2 =>
            rintro j m h h' ⟨a, b, c, f, g, z⟩ kc hM
            exact ⟨a, b, c, f, g, z.turn kc fun o e => hM lm (.tail _ (.head _)) hlmL o e⟩
          case fp2 =>
            intro b hb
            rcases List.mem_cons.mp hb with e | hb
            · exact .inl e
            · rw [List.mem_singleton.mp hb]
              refine .inr fun q => ?_
              rcases List.mem_cons.mp q with q | q
              · obtain ⟨oL, es, ep, hL, hd, _⟩ := F8.ns
                rw [q, hL] at ho8
                cases ho8
                cases hd
              · obtain ⟨it8, ⟨o8, h1, _, _, h2⟩, _⟩ := Z8
                rw [List.mem_singleton.mp q, h1] at ho8
                cases ho8
                cases h2
          case done2 =>
            rintro s' m' k' F' H' ⟨a1, a2, a3, a4, a5, z'⟩
            refine ⟨by first | rfl | trivial, k', m', F', H', a1, a2, a3, z'.eq fun c _ => ?_⟩
            rw [List.take_length]
            congr 1
            simp only [hperm.mem_iff]
          case step2 =>
            rintro j v s11 m11 hj ⟨tv, rfl⟩ k11 F11 H11 ⟨a1, a2, a3, a4, ⟨t', a5⟩, z11⟩
            have hdj : ds.getD j 0 ∈ ds := by rw [List.getD_eq_getElem?_getD, List.getElem?_eq_getElem hj]; exact List.getElem_mem hj
            have hcC : ds.getD j 0 ∈ C := hperm.mem_iff.mp hdj
            have hcn := hCn _ hcC
            have hnot : ds.getD j 0 ∉ ds.take j := by
              rw [List.getD_eq_getElem?_getD, List.getElem?_eq_getElem hj]
              have nd := (hperm.nodup_iff).mpr (sub_nodup hCs)
              have h1 := (List.take_append_drop j ds).symm
              rw [List.drop_eq_getElem_cons hj] at h1
              rw [h1] at nd
              have := (List.nodup_append.mp nd).2.2
              intro hm
              exact this _ hm _ (.head _) rfl
            generalize hcd : ds.getD j 0 = c0 at *
            obtain ⟨h11, e11, d11, t11, os11⟩ := s11
            have N11 : News s.heap L h11 [] := News.nil
            dsimp only at F11 z11 ⊢
            replace F11 := fr_know (x := "marginal") F11 (by exact a3)
            replace H11 := hid_know (x := "marginal") H11 (by exact a3)
            replace F11 := fr_know (x := "voter") F11 (by exact a4)
            replace H11 := hid_know (x := "voter") H11 (by exact a4)
            replace F11 := fr_know (x := "marginal_scorefct") F11 (by exact a2)
            replace H11 := hid_know (x := "marginal_scorefct") H11 (by exact a2)
            replace F11 := fr_know (x := "intersectionsize") F11 (by exact a5)
            replace H11 := hid_know (x := "intersectionsize") H11 (by exact a5)
            replace F11 := fr_know (x := "cand") F11 (by rfl)
            replace H11 := hid_know (x := "cand") H11 (by rfl)
            have X11 := X.keeps F11.keep
            have T11 := T.keeps F11.keep
            have S11 := hS.keep F11.keep
            k_steps
            refine nums_get z11 hcn (by omega) fun old hold => ?_
            dsimp only
            k_steps
            refine Stopped.on (callWith_step (q := q) X11 S11 (wpAny_mono (Q := fun v s₁ => Stopped (∃ t tk, v = .int ((cnt C cs : Int) + 1) t ∧ s₁ = ⟨h11, e11, d11, tk, os11⟩)) (E := fun _ _ => False) ?_ ?_ fun _ _ e => e))
            · k_steps
              exact Stopped.on ⟨_, _, rfl, rfl⟩
            · intro v s12 hs12
              obtain ⟨tt, tk12, rfl, rfl⟩ := Stopped.go hs12
              refine ⟨⟨fun _ _ e => e, rfl, rfl, rfl⟩, call_step (q := q) S11 X11 T11 (by walk_at "my room") (by omega) (by omega) fun u s13 hk13 hu => ?_⟩
              refine int_mul_num (X11.keeps hk13.1) (T11.keeps hk13.1) (by walk_at "my room") (by omega) hu fun y s14 hk14 hy => ?_
              have ke14 := hk13.trans hk14
              refine num_iadd (X11.keeps ke14.1) (T11.keeps ke14.1) (by walk_at "my room") (hold.keep ke14.1) hy fun r s15 hk15 hr => ?_
              have ke15 := ke14.trans hk15
              have F15 := fr_ke ke15 F11
              refine nums_set (z11.keep ke15.1) hcn (by omega) hr fun s16 kL16 kc16 hg16 hd16 ho16 z16 => ?_
              have hb16 : ∀ b o, s.heap.get? b = some o → b ≠ lm := fun b o e q => by rw [q, hlm0] at e; cases e
              have F16 : Fr s.heap L s16.heap _ := ⟨F15.ns.at' fun o e => kL16 _ o (Ne.symm hlmL) e, fun b o e => kL16 b o (hb16 b o e) (F15.keep b o e), F15.above⟩
              have k16 : Km [L, lm] s15 s16 := ⟨kc16, fun b o n e => kL16 b o (fun q => n (by rw [q]; exact .tail _ (.head _))) e, hg16, hd16, ho16⟩
              refine wpAny_execs_nil ⟨by first | rfl | trivial, (Km.untok (Km.of ke15)).trans k16, _, F16, H11, by exact a1, by rfl, by rfl, by rfl, ⟨_, by rfl⟩, z16.eq fun c hc => ?_⟩
              have htk : ∀ x, x ∈ ds.take (j + 1) ↔ x ∈ ds.take j ∨ x = c0 := fun x => by
                rw [List.take_add_one, List.mem_append]
                have : ds[j]? = some c0 := by rw [← hcd, List.getD_eq_getElem?_getD, List.getElem?_eq_getElem hj]; rfl
                rw [this]
                simp
              by_cases q1 : c = c0
              · subst q1
                rw [if_pos rfl, if_neg hnot, if_pos ((htk _).mpr (.inr rfl)), Int.mul_comm wt]
                omega
              · rw [if_neg q1]
                congr 1
                simp only [htk, q1, or_false]
      · rintro f s' ⟨rfl, k9, m9, F9, H9, g91, g92, g93, z9⟩
        dsimp only
        refine wpAny_execs_nil ⟨by first | rfl | trivial, Km.trans k68 k9, m9, F9, H9, g91, g92, g93, z9.eq fun c hc => ?_⟩
        rw [addV_take hVi]
end
end
section
section
variable {prog : Program} {w : World} {A : Around} {E : Value → Shared → Prop} {s : Shared} {p : Program} {loose : List Str} {mg mb : Str → Option Value}
def isI (c : Nat) : Value → Bool
  | .int a _ => a == (c : Int)
  | _ => false
theorem any_ints {vs : List Value} {cs : List Nat} {c : Nat} (h : IntsAre vs (cs.map fun (c : Nat) => (c : Int))) : vs.any (isI c) = decide (c ∈ cs) := by
  induction cs generalizing vs with
  | nil => cases h; rfl
  | cons a r ih =>
    rw [List.map_cons] at h
    cases h with
    | cons n t h' =>
      rw [List.any_cons, ih h']
      show ((a : Int) == (c : Int) || decide (c ∈ r)) = decide (c ∈ a :: r)
      rw [Bool.eq_iff_iff]
      simp only [Bool.or_eq_true, beq_iff_eq, decide_eq_true_eq, List.mem_cons]
      constructor
      · rintro (e | e)
        · exact .inl (by omega)
        · exact .inr e
      · rintro (e | e)
        · exact .inl (by omega)
        · exact .inr e
theorem eq_isI {c : Nat} {t : Tok} {vs : List Value} {ns : List Int} (h : IntsAre vs ns) {y : Value} (hy : y ∈ vs) : PySem.SeqAt.EqAt A s y (.int (c : Int) t) (isI c y) := by
  obtain ⟨n, u, rfl⟩ : ∃ n u, y = .int n u := by
    induction h with
    | nil => cases hy
    | cons n u _ ih =>
      rcases List.mem_cons.mp hy with rfl | hy
      · exact ⟨n, u, rfl⟩
      · exact ih hy
  exact (PySem.MeetsSeq.EqGives.int n c u t).at A s
theorem in_nats {l : Addr} {cs : List Nat} {c : Nat} {t : Tok} {Q : Value → Shared → Prop} (N : NatsAt s.heap l cs) (h : Q (.bool (decide (c ∈ cs))) s) : wpAny (model prog w) A (compareOp .In (.int (c : Nat) t) (.ref l)) Q E s := by
  obtain ⟨items, hl, hi⟩ := N
  refine PySem.SeqAt.in_listAt (isI c) hl (fun y hy => eq_isI hi (by simpa using hy)) ?_
  rw [show items.any (isI c) = items.toList.any (isI c) from by simp, any_ints hi]
  exact h
theorem notIn_nats {l : Addr} {cs : List Nat} {c : Nat} {t : Tok} {Q : Value → Shared → Prop} (N : NatsAt s.heap l cs) (h : Q (.bool (!decide (c ∈ cs))) s) : wpAny (model prog w) A (compareOp .NotIn (.int (c : Nat) t) (.ref l)) Q E s := by
  obtain ⟨items, hl, hi⟩ := N
  refine PySem.SeqAt.notIn_listAt (isI c) hl (fun y hy => eq_isI hi (by simpa using hy)) ?_
  rw [show items.any (isI c) = items.toList.any (isI c) from by simp, any_ints hi]
  exact h
/-- what the loops of max and of sum leave: their iterator I and their state S alone are turned -/
theorem max_loop {R : Result → Shared → Prop} {s₀ : Shared} {I S : Addr} {fp : List Addr} {n : Nat} {P : Nat → Value → Prop} {St : Nat → Heap → Prop} {z : Nat → Int} (O : ItOk prog w I fp n P St) (hA : Room A 24) (X : (Mine.hd.heap_39 w.params).In s₀.heap) (T : TopRead p loose mg mb s₀.heap)
    (hz : ∀ i v, P i v → NumAt s₀.heap v (z i)) (hSf : S ∉ fp) (hSI : S ≠ I) (hS0 : s₀.heap.get? S = none) (hI0 : s₀.heap.get? I = none)
    (hR : ∀ v s' b, b < n → P b v → (∀ j, j < n → z j ≤ z b) → Ke s₀ s' → R (.ok (.ret v)) s') :
    ∀ (k j b : Nat) (s : Shared) (vb : Value) (c : Nat), n - (j + 1) = k → j + 1 ≤ n → St (j + 1) s.heap → b ≤ j → P b vb → (∀ j', j' ≤ j → z j' ≤ z b) → Ke s₀ s →
    s.heap.get? S = some { cls := .type "list", dict := none, data := .seq #[vb, vb] c, slots := #[] } →
    codeAny (model prog w) A (.builtin "max.loop" ⟨[.ref I, .none, .ref S], []⟩) R s := by
  have hname : (toString "max" ++ toString ".loop" : String) = "max.loop" := by decide
  have W := O.W A.in1 (Room.handled (n := 0) (by walk_at "my room"))
  have old : ∀ b o, s₀.heap.get? b = some o → b ≠ S := fun b o e q => by rw [q, hS0] at e; cases e
  have oldI : ∀ b o, s₀.heap.get? b = some o → b ∉ [I] := fun b o e q => by rw [List.mem_singleton.mp q, hI0] at e; cases e
  intro k
  induction k with
  | zero =>
    intro j b s vb c hk hj hst hb hPb hbest hke hS
    have hin : j + 1 = n := by omega
    refine codeAny_builtin PySem.F.entry_max_loop ?_
    rw [Around.under_plainId PySem.F.plain_max_loop _]
    show wpAny _ A.in1 (seqItems? (.ref S) >>= _) _ _ s
    refine wpAny_bind (wpAny_seqItems hS rfl ?_)
    show wpAny _ A.in1 (tryCatch (pyNext (.ref I)) _ >>= _) _ _ s
    refine wpAny_bind (wpAny_tryCatch (W.done s _ _ (hin ▸ hst) fun h' tk hk' => ?_))
    have hS' := hk' S _ (by simpa using hSI) hS
    show wpAny _ A.in1 (updateSeq S (fun _ => #[]) >>= _) _ _ _
    refine wpAny_bind ?_
    refine wpAny_updateSeq hS' rfl (wpAny_bind (wpAny_letGo (wpAny_pure ?_)))
    exact hR vb _ b (by omega) hPb (fun j' hj' => hbest j' (by omega)) ⟨fun b o e => (Heap.get?_update_other _ _ (Ne.symm (old b o e))).trans (hk' b o (oldI b o e) (hke.1 b o e)), hke.2⟩
  | succ k ih =>
    intro j b s vb c hk hj hst hb hPb hbest hke hS
    have hlt : j + 1 < n := by omega
    refine codeAny_builtin PySem.F.entry_max_loop ?_
    rw [Around.under_plainId PySem.F.plain_max_loop _]
    show wpAny _ A.in1 (seqItems? (.ref S) >>= _) _ _ s
    refine wpAny_bind (wpAny_seqItems hS rfl ?_)
    show wpAny _ A.in1 (tryCatch (pyNext (.ref I)) _ >>= _) _ _ s
    refine wpAny_bind (wpAny_tryCatch (W.item (j + 1) s _ _ hlt hst fun v h' tk hP hst' hk' => ?_))
    have hS' := hk' S _ (by simpa using hSI) hS
    have ke1 : Ke s₀ { s with heap := h', toks := tk } := ⟨fun b o e => hk' b o (oldI b o e) (hke.1 b o e), hke.2⟩
    show wpAny _ A.in1 (tryCatch (holding [v, v] (richCompare .Gt v vb >>= _)) _ >>= _) _ _ _
    refine wpAny_bind (wpAny_tryCatch (wpAny_holding (wpAny_bind ?_)))
    refine num_gt (A := A.in1) (s := { s with heap := h', toks := tk }) (X.keeps ke1.1) (T.keeps ke1.1) (by walk_at "my room") ((hz _ _ hP).keep ke1.1) ((hz _ _ hPb).keep ke1.1) fun s2 hk2 => ?_
    have ke2 := ke1.trans hk2
    have hS2 := hk2.1 _ _ hS'
    have hst2 := W.frame _ _ _ hst' fun b _ o e => hk2.1 b o e
    refine wpAny_bind (wpAny_holding (wpAny_truthy_bool ?_))
    refine wpAny_bind (wpAny_letGo (wpAny_pure ?_))
    by_cases hb' : z (j + 1) > z b
    · simp only [hb', decide_true, if_true]
      refine wpAny_bind ?_
      refine wpAny_updateSeq hS2 rfl (wpAny_bind (wpAny_letGo ?_))
      rw [hname]
      refine wpAny_pure ⟨plainId_quiet PySem.F.plain_max_loop _, ih (j + 1) (j + 1) _ v _ (by omega) hlt (W.frame _ _ _ hst2 fun b hbf o e => ?_) (Nat.le_refl _) hP (fun j' hj' => ?_) ⟨fun b o e => (Heap.get?_update_other _ _ (Ne.symm (old b o e))).trans (ke2.1 b o e), ke2.2⟩ (Heap.get?_update_self _ hS2 rfl)⟩
      · exact (Heap.get?_update_other _ _ (fun h : S = b => hSf (by rw [h]; exact hbf))).trans e
      · by_cases e : j' = j + 1
        · rw [e]; exact Int.le_refl _
        · have := hbest j' (by omega); omega
    · simp only [hb', decide_false, Bool.false_eq_true, if_false]
      refine wpAny_bind (wpAny_letGo ?_)
      rw [hname]
      refine wpAny_pure ⟨plainId_quiet PySem.F.plain_max_loop _, ih (j + 1) b _ vb c (by omega) hlt hst2 (by omega) hPb (fun j' hj' => ?_) ke2 hS2⟩
      by_cases e : j' = j + 1
      · rw [e]; omega
      · exact hbest j' (by omega)
theorem max_num {l : Addr} {n : Nat} {z : Nat → Int} {Q : Value → Shared → Prop} (hA : Room A 26) (X : (Mine.hd.heap_39 w.params).In s.heap) (T : TopRead p loose mg mb s.heap) (N : NumsAt s.heap l z n) (hn : 0 < n)
    (h : ∀ v s' b, b < n → NumAt s'.heap v (z b) → (∀ j, j < n → z j ≤ z b) → Ke s s' → Q v s') : wpAny (model prog w) A (call (.builtin "max") [.ref l]) Q E s := by
  have hname : (toString "max" ++ toString ".loop" : String) = "max.loop" := by decide
  obtain ⟨items, hl, hz, hi⟩ := N
  refine call_function_tree PySem.F.kind_max PySem.F.plain_max PySem.F.entry_max (PySem.F.args_max1 _) ?_
  show wpAny _ A.in1 (Builtin.Builtins.bindParams "max" ["key", "default"] 0 ⟨[], []⟩ >>= _) _ _ s
  refine wpAny_bind (wpAny_of_eq (show Builtin.Builtins.bindParams "max" ["key", "default"] 0 ⟨[], []⟩ = pure [none, none] from rfl) ?_)
  refine wpAny_bind (wpAny_pure ?_)
  have hls : l < s.heap.objs.size := by obtain ⟨o, ho, _⟩ := hl; exact Heap.lt_size ho
  refine wpAny_bind (wpAny_pyIter_list hl ?_)
  have hI0 := no_at s.heap
  have hlI : l ≠ s.heap.objs.size := Nat.ne_of_lt hls
  have O := itok_list (prog := prog) (w := w) hlI items
  have hIt : (s.heap.push { cls := .type "list_iterator", data := .fields #[.ref l, .int 0 0] }).IsListIter s.heap.objs.size l 0 := ⟨_, Heap.get?_push_size _ rfl, rfl, rfl⟩
  have k1 : ∀ b o, s.heap.get? b = some o → (s.heap.push { cls := .type "list_iterator", data := .fields #[.ref l, .int 0 0] }).get? b = some o := fun b o e => Heap.get?_push_of_some _ e
  have hs1 : (s.heap.push { cls := .type "list_iterator", data := .fields #[.ref l, .int 0 0] }).objs.size = s.heap.objs.size + 1 := Heap.size_push ..
  generalize s.heap.push { cls := .type "list_iterator", data := .fields #[.ref l, .int 0 0] } = h1 at hIt k1 hs1 ⊢
  generalize s.heap.objs.size = I at hI0 hlI O hIt hs1
  refine wpAny_bind (wpAny_newObj_type ?_)
  rw [hname]
  have hSn := no_at h1
  have hS0 : s.heap.get? h1.objs.size = none := by
    cases q : s.heap.get? h1.objs.size with
    | none => rfl
    | some o => rw [k1 _ _ q] at hSn; cases hSn
  have hSI : h1.objs.size ≠ I := by rw [hs1]; exact Nat.succ_ne_self _
  have hSl : h1.objs.size ≠ l := fun q => by obtain ⟨o, ho, _⟩ := hl; rw [q, ho] at hS0; cases hS0
  have k2 : ∀ b o, h1.get? b = some o → (h1.push { cls := .type "list", data := .seq #[] }).get? b = some o := fun b o e => Heap.get?_push_of_some _ e
  have hSg : (h1.push { cls := .type "list", data := .seq #[] }).get? h1.objs.size = some { cls := .type "list", data := .seq #[] } := Heap.get?_push_size _ rfl
  dsimp only
  generalize h1.push { cls := .type "list", data := .seq #[] } = h2 at k2 hSg ⊢
  generalize h1.objs.size = S at hSn hS0 hSI hSl hSg ⊢
  have hl2 : h2.IsList l items := by obtain ⟨o, ho, r⟩ := hl; exact ⟨o, k2 _ _ (k1 _ _ ho), r⟩
  have hIt2 : h2.IsListIter I l 0 := by obtain ⟨o, ho, r⟩ := hIt; exact ⟨o, k2 _ _ ho, r⟩
  have W := O.W A.in1.in1 (Room.handled (n := 0) (by walk_at "my room"))
  refine wpAny_pure ⟨plainId_quiet PySem.F.plain_max_loop _, ?_⟩
  refine codeAny_builtin PySem.F.entry_max_loop ?_
  rw [Around.under_plainId PySem.F.plain_max_loop _]
  show wpAny _ A.in1 (seqItems? (.ref S) >>= _) _ _ _
  refine wpAny_bind (wpAny_seqItems hSg rfl ?_)
  show wpAny _ A.in1 (tryCatch (pyNext (.ref I)) _ >>= _) _ _ _
  refine wpAny_bind (wpAny_tryCatch ((O.W A.in1 (Room.handled (n := 0) (by walk_at "my room"))).item 0 _ _ _ (by omega) ⟨hIt2, hl2⟩ fun v h' tk hP hst' hk' => ?_))
  have hS' := hk' S _ (by simpa using hSI) hSg
  show wpAny _ A.in1 (updateSeq S (fun _ => #[v, v]) >>= _) _ _ _
  refine wpAny_bind ?_
  refine wpAny_updateSeq hS' rfl ?_
  rw [hname]
  have old : ∀ b o, s.heap.get? b = some o → b ≠ S := fun b o e q => by rw [q, hS0] at e; cases e
  have oldI : ∀ b o, s.heap.get? b = some o → b ∉ [I] := fun b o e q => by rw [List.mem_singleton.mp q, hI0] at e; cases e
  refine wpAny_pure ⟨plainId_quiet PySem.F.plain_max_loop _, max_loop (s₀ := s) O (by walk_at "my room") X T hi (by simp [hSI, hSl]) hSI hS0 hI0 (fun v s' b hb hPb hbest hke => ?_) _ 0 0 _ v _ rfl (by omega) ((O.W A.in1 (Room.handled (n := 0) (by walk_at "my room"))).frame _ _ _ hst' fun b hbf o e => ?_) (Nat.le_refl _) hP (fun j' hj' => ?_) ⟨fun b o e => (Heap.get?_update_other _ _ (Ne.symm (old b o e))).trans (hk' b o (oldI b o e) (k2 _ _ (k1 _ _ e))), rfl, rfl, rfl⟩ (Heap.get?_update_self _ hS' rfl)⟩
  · exact h v s' b (by omega) ((hi _ _ hPb).keep hke.1) (fun j hj => hbest j (by omega)) hke
  · exact (Heap.get?_update_other _ _ (fun q : S = b => by rw [← q] at hbf; simp [hSI, hSl] at hbf)).trans e
  · have : j' = 0 := by omega
    rw [this]; exact Int.le_refl _
end
end
section
local macro_rules | `(tactic| walk_at "call builtin:max") => `(tactic| refine Stopped.go ?_)
local macro_rules | `(tactic| walk_at "getAttr ref") => `(tactic| ((with_reducible show wpAny _ _ (getAttr (Value.ref _) (PySem.Str.ofString "candidates") _) _ _ _); refine Stopped.go ?_))
local macro_rules | `(tactic| walk_at "binaryOp Mult ref int") => `(tactic| refine Stopped.go ?_)
local macro_rules | `(tactic| walk_at "call builtin:len") => `(tactic| refine Stopped.go ?_)
local macro_rules | `(tactic| walk_at "call type:set") => `(tactic| refine Stopped.go ?_)
local macro_rules | `(tactic| walk_at "storeName") => `(tactic| refine Stopped.go ?_)
local macro_rules | `(tactic| walk_at "exec For Name Name cons nil") => `(tactic| refine Stopped.go ?_)
local macro_rules | `(tactic| walk_at "exec For Name Attribute cons nil") => `(tactic| refine Stopped.go ?_)
local macro_rules | `(tactic| walk_at "getMethod ref") => `(tactic| ((with_reducible show wpAny _ _ (getMethod (Value.ref _) (PySem.Str.ofString "intersection") _) _ _ _); (refine meth_inter (kx (by assumption) (by assumption)) (by assumption) (by assumption) ?_)))
local macro_rules | `(tactic| walk_at "call builtin:set.intersection") => `(tactic| refine Stopped.go ?_)
local macro_rules | `(tactic| walk_at "callWith ref") => `(tactic| ((with_reducible show wpAny _ _ (callWith _ (Value.ref _) [] _ []) _ _ _); refine Stopped.go ?_))
section
variable {prog : Program} {w : World} {A : Around} {s : Shared} {p : Program} {loose : List Str} {mg mb : Str → Option Value} {R : Result → Shared → Prop}
theorem marg_rem {q n : Nat} {sv : Value} {pr lv com : Addr} {cs : List Nat} {V : List (Int × List Nat)} (X : (Mine.hd.heap_39 w.params).In s.heap) (T : TopRead p loose mg mb s.heap) (hA : Room A 40) (hS : StepAt s.heap q sv)
    (P : ProfAt s.heap pr n lv) (hn4 : n ≤ 4) (VV : VotersAt w s.heap lv V) (hV : VOk V) (hVn : ∀ p ∈ V, ∀ c ∈ p.2, c < n) (hC : NatsAt s.heap com cs) (hcs : ∀ c ∈ cs, c < n) (hlen : cs.length ≤ 10)
    (hn0 : 0 < n) (k : ∀ l s' z, Ke s s' → s.heap.get? l = none → NumsAt s'.heap l z n → (∀ c, c < n → c ∈ cs → z c = remV q V cs c) → (∀ c, c < n → c ∉ cs → ∀ c', c' < n → c' ∈ cs → remV q V cs c' < z c) → R (.ok (.ret (.ref l))) s') :
    codeAny (model prog w) A (.call (.ref 341) ⟨[sv, .ref pr, .ref com], []⟩) R s := by
  obtain ⟨sa, rfl⟩ := hS.ref
  walk_at "my enter"
  rename_i L h₁ F1 N1
  k_steps
  rename Fr _ _ _ _ => F2
  rename News _ _ _ _ => N2
  rename Ke _ _ => hk0
  refine Stopped.on (KMa.mul (vs := [_]) F2 N2 (News.isList N2 (.head _)) (by omega) (by omega) (by simp; omega) rfl fun lm h3 F3 N3 lt3 => ?_)
  have Z3 := nums_zero (n := n) rfl (N3 _ (.head _)).1
  have hlmL : lm ≠ L := (N3 _ (.head _)).2.1
  have hlm0 : s.heap.get? lm = none := (N3 _ (.head _)).2.2
  have hlm3 : ∃ o, h3.get? lm = some o := ⟨_, (N3 _ (.head _)).1⟩
  clear N2 F2 N3 lt3
  refine store_m (L := L) rfl (M := [L, lm]) rfl (by unfold Free; decide) F3 ⟨rfl, rfl, rfl, rfl, "profile", _, rfl⟩ (.head _) rfl fun s4 k4 kL4 F4 H4 => ?_
  have Z4 := Z3.turn k4.kc fun o e => kL4 _ o hlmL e
  have hlm4 : ∃ o, s4.heap.get? lm = some o := by obtain ⟨o, e⟩ := hlm3; exact ⟨o, kL4 _ o hlmL e⟩
  have hg4 : s4.gens = s.gens := k4.gens
  have hd4 : s4.drawn = s.drawn := k4.drawn
  have ho4 : s4.os = s.os := k4.os
  clear F3 k4 kL4 Z3 hlm3 hk0
  have N4 : News s.heap L s4.heap [] := News.nil
  obtain ⟨h4, g4, d4, t4, os4⟩ := s4
  dsimp only at F4 N4 Z4 hlm4 hg4 hd4 ho4 ⊢
  k_steps
  obtain ⟨as, nv, hlv, hVs⟩ := VV
  have hLo : ∃ o, h4.get? L = some o := by obtain ⟨oL, _, _, hL, _⟩ := F4.ns; exact ⟨oL, hL⟩
  refine Stopped.on (For_m (h₀ := s.heap) (L := L) rfl [L, lm] (.head _) (fun b hb => by
    rcases List.mem_cons.mp hb with e | hb
    · rw [e]; exact hLo
    · rw [List.mem_singleton.mp hb]; exact hlm4) (fun i m h => m "committee" = some (.ref com) ∧ m "profile" = some (.ref pr) ∧ m "marginal_scorefct" = some (.ref sa) ∧ m "marg_util_cand" = some (.ref lm) ∧ NumsAt h lm (fun c => remV q (V.take i) cs c) n) ?Gst rfl (by unfold Free; decide) rfl ?hev)
  case Gst =>
    rintro i m h h' ⟨a, pp, b, c, z⟩ kc hM
    exact ⟨a, pp, b, c, z.turn kc fun o e => hM lm (.tail _ (.head _)) hlmL o e⟩
  case hev =>
    refine wpAny_Name (wpAny_loadName_local rfl rfl F4.ns (by rfl) ?_)
    have hll : Heap.IsList h4 lv (as.map Value.ref).toArray := ⟨_, F4.keep _ _ hlv, rfl, _, rfl⟩
    refine iter_prof F4 X T (by walk_at "my room") (P.keep F4.keep) hll fun I s5 hk5 hI hit => ?_
    have hIlv : lv ≠ I := fun q => by rw [← q, F4.keep _ _ hlv] at hI; cases hI
    refine ⟨I, _, _, _, _, _, rfl, itok_list hIlv (as.map Value.ref).toArray, Room.handled (n := 0) (by walk_at "my room"), ⟨hit, ⟨_, hk5.1 _ _ (F4.keep _ _ hlv), rfl, _, rfl⟩⟩, .of hk5, hI, ?fp, fun b _ _ o e => hk5.1 b o e, F4.keep, fr_ke hk5 F4, H4, ⟨rfl, rfl, rfl, rfl, Z4.keep hk5.1⟩, ?step, ?done⟩
    case fp =>
      intro b hb
      rcases List.mem_cons.mp hb with e | hb
      · exact .inl e
      · rw [List.mem_singleton.mp hb]
        refine .inr fun q => ?_
        rcases List.mem_cons.mp q with q | q
        · rw [q] at hlv; exact absurd (Heap.lt_size hlv) (Nat.not_lt.mpr F4.above)
        · rw [List.mem_singleton.mp q, hlm0] at hlv; cases hlv
    case done =>
      rintro s6 m6 k6 F6 H6 ⟨g1, gp, g2, g3, z6⟩
      obtain ⟨h6, e6, d6, t6, os6⟩ := s6
      have N6 : News s.heap L h6 [] := News.nil
      dsimp only at F6 z6 ⊢
      have hsz : (as.map Value.ref).toArray.size = V.length := by simp [hVs.len]
      rw [hsz, List.take_length] at z6
      replace F6 := fr_know (x := "committee") F6 g1
      replace F6 := fr_know (x := "marg_util_cand") F6 (by exact g3)
      k_steps
      have hb6 := F6.keep
      replace H6 := hid_know (x := "committee") H6 g1
      replace H6 := hid_know (x := "marg_util_cand") H6 (by exact g3)
      have hLo6 : ∃ o, h6.get? L = some o := by obtain ⟨oL, _, _, hL, _⟩ := F6.ns; exact ⟨oL, hL⟩
      have hlm6 : ∃ o, h6.get? lm = some o := by
        obtain ⟨it8, ⟨o8, ho8, _⟩, _⟩ := z6
        exact ⟨o8, ho8⟩
      have hke6 : g4 = s.gens ∧ d4 = s.drawn ∧ os4 = s.os := ⟨hg4, hd4, ho4⟩
      refine Stopped.on (For_g (h₀ := s.heap) (L := L) rfl [L, lm] (.head _) (fun b hb => by
          rcases List.mem_cons.mp hb with e | hb
          · rw [e]; exact hLo6
          · rw [List.mem_singleton.mp hb]; exact hlm6) rfl (by unfold Free; decide) rfl ?hev3)
      case hev3 =>
        replace F6 := fr_know (x := "profile") F6 (by exact gp)
        replace H6 := hid_know (x := "profile") H6 (by exact gp)
        have P0 := P
        obtain ⟨dx0, lc0, es0, ep0, itc, q1, q2, q3, q4, q5, hic, q7, _, _⟩ := P0.out
        k_steps
        refine Stopped.on (get_own F6 X (inst_of (F6.keep _ _ q1) (F6.keep _ _ q2)) (by k_is) (by k_is) (by k_is) (by k_is) q3 rfl ?_)
        have hlc : Heap.IsList h6 lc0 itc := by obtain ⟨o, ho, r⟩ := q5; exact ⟨o, F6.keep _ _ ho, r⟩
        have hzc := hic.length
        simp only [Array.length_toList, List.length_map, List.length_range] at hzc
        refine it_list hlc fun I s7 St hk7 hI hit hst => ?_
        have kA : Ke ⟨h6, e6, d6, t6, os6⟩ s7 := ⟨hk7.1, hk7.2.1, hk7.2.2.1, hk7.2.2.2⟩
        refine ⟨I, _, _, _, _, _, fun j m h => m "committee" = some (.ref com) ∧ m "marg_util_cand" = some (.ref lm) ∧ ∃ z, NumsAt h lm z n ∧ (∀ c, c < n → c ∈ cs → z c = remV q V cs c) ∧ (∀ c, c < j → c ∉ cs → ∀ c', c' < n → c' ∈ cs → remV q V cs c' < z c), ?Gst3, rfl, hit, Room.handled (n := 0) (by walk_at "my room"), hst, .of kA, hI, ?fp3, fun b _ _ o e => hk7.1 b o e, hb6, fr_ke (s := ⟨h6, e6, d6, _, os6⟩) hk7 F6, H6, ⟨by rfl, by rfl, _, z6.keep hk7.1, fun c _ _ => rfl, fun c hc => absurd hc (Nat.not_lt_zero _)⟩, ?step3, ?done3⟩
        case Gst3 =>
          rintro j m h h' ⟨a, b, z, Z, y⟩ kc hM
          exact ⟨a, b, z, Z.turn kc fun o e => hM lm (.tail _ (.head _)) hlmL o e, y⟩
        case fp3 =>
          intro b hb
          rcases List.mem_cons.mp hb with e | hb
          · exact .inl e
          · rw [List.mem_singleton.mp hb]
            obtain ⟨oc, hoc, _⟩ := q5
            refine .inr fun q => ?_
            rcases List.mem_cons.mp q with q | q
            · rw [q] at hoc; exact absurd (Heap.lt_size hoc) (Nat.not_lt.mpr F6.above)
            · rw [List.mem_singleton.mp q, hlm0] at hoc; cases hoc
        case done3 =>
          rintro s8 m8 k8 F8 H8 ⟨a0, a1, z, z8, z81, z82⟩
          obtain ⟨h8, e8, d8, t8, os8⟩ := s8
          have N8 : News s.heap L h8 [] := News.nil
          dsimp only at F8 z8 ⊢
          replace F8 := fr_know (x := "marg_util_cand") F8 a1
          k_steps
          refine k lm _ z ⟨F8.keep, ?_, ?_, ?_⟩ hlm0 z8 z81 fun c hc hn => z82 c (by omega) hn
          · exact (k8.gens.trans k6.gens).trans hg4
          · exact (k8.drawn.trans k6.drawn).trans hd4
          · exact (k8.os.trans k6.os).trans ho4
        case step3 =>
          rintro j v s8 m8 hj hP8 k8 F8 H8 ⟨a0, a1, z, z8, z81, z82⟩
          have hv' : itc.toList[j]? = some v := by rw [Array.getElem?_toList]; exact hP8
          obtain ⟨tv, ev⟩ := IntsAre.int_at hic j v hv'
          have hj' : j < n := by omega
          have ec : ((List.range n).map fun (c : Nat) => (c : Int)).getD j 0 = ((j : Nat) : Int) := by simp [List.getD, hj']
          rw [ec] at ev
          subst ev
          obtain ⟨h8, e8, d8, t8, os8⟩ := s8
          have N8 : News s.heap L h8 [] := News.nil
          dsimp only at F8 z8 ⊢
          replace F8 := fr_know (x := "committee") F8 (by exact a0)
          replace H8 := hid_know (x := "committee") H8 (by exact a0)
          replace F8 := fr_know (x := "marg_util_cand") F8 (by exact a1)
          replace H8 := hid_know (x := "marg_util_cand") H8 (by exact a1)
          replace F8 := fr_know (x := "cand") F8 (by rfl)
          replace H8 := hid_know (x := "cand") H8 (by rfl)
          have X8 := X.keeps F8.keep
          have T8 := T.keeps F8.keep
          k_steps
          refine notIn_nats (hC.keep F8.keep) ?_
          refine wpAny_truthy_bool ?_
          by_cases hjc : j ∈ cs
          · rw [decide_eq_true hjc]
            simp only [Bool.not_true, Bool.false_eq_true, if_false]
            refine wpAny_execs_nil ?_
            dsimp only
            refine wpAny_execs_nil ⟨by first | rfl | trivial, .toks, _, F8, H8, by rfl, by rfl, z, z8, z81, fun c hc hn c' hc' hm => ?_⟩
            by_cases q1 : c = j
            · rw [q1] at hn; exact absurd hjc hn
            · exact z82 c (by omega) hn c' hc' hm
          · rw [decide_eq_false hjc]
            simp only [Bool.not_false, if_true]
            k_steps
            refine Stopped.on (max_num (by walk_at "my room") X8 T8 z8 hn0 fun mv s9 b hb hmv hbest hk9 => ?_)
            k_steps
            refine num_add (s := ⟨s9.heap, s9.gens, s9.drawn, s9.toks + 1, s9.os⟩) (X8.keeps hk9.1) (T8.keeps hk9.1) (by walk_at "my room") hmv (.inl ⟨1, _, rfl, rfl⟩) fun r s10 hk10 hr => ?_
            have ke10 : Ke ⟨h8, e8, d8, t8, os8⟩ s10 := ⟨fun b o e => hk10.1 b o (hk9.1 b o e), hk10.2.1.trans hk9.2.1, hk10.2.2.1.trans hk9.2.2.1, hk10.2.2.2.trans hk9.2.2.2⟩
            have F10 := fr_ke ke10 F8
            have z10 := z8.keep ke10.1
            clear N8
            obtain ⟨h10, e10, d10, t10, os10⟩ := s10
            have N10 : News s.heap L h10 [] := News.nil
            dsimp only at F10 z10 hr ⊢
            clear F8
            k_steps
            refine nums_set z10 hj' (by omega) hr fun s11 kL11 kc11 hg11 hd11 ho11 z11 => ?_
            have hb11 : ∀ b o, s.heap.get? b = some o → b ≠ lm := fun b o e q => by rw [q, hlm0] at e; cases e
            have F11 : Fr s.heap L s11.heap _ := ⟨F10.ns.at' fun o e => kL11 _ o (Ne.symm hlmL) e, fun b o e => kL11 b o (hb11 b o e) (F10.keep b o e), F10.above⟩
            have k11 : Km [L, lm] ⟨h10, e10, d10, t10, os10⟩ s11 := ⟨kc11, fun b o n e => kL11 b o (fun q => n (by rw [q]; exact .tail _ (.head _))) e, hg11, hd11, ho11⟩
            refine wpAny_execs_nil ?_
            dsimp only
            refine wpAny_execs_nil ⟨by first | rfl | trivial, (Km.of ke10).trans k11, _, F11, H8, by rfl, by rfl, _, z11, fun c hc hm => ?_, fun c hc hn c' hc' hm => ?_⟩
            · rw [if_neg (fun q1 => by rw [q1] at hm; exact hjc hm)]
              exact z81 c hc hm
            · by_cases q1 : c = j
              · rw [if_pos q1, ← z81 c' hc' hm]
                have := hbest c' hc'
                omega
              · rw [if_neg q1]
                exact z82 c (by omega) hn c' hc' hm
    case step =>
      rintro i v s6 m6 hi hP k6 F6 H6 ⟨g1, gp, g2, g3, z6⟩
      have hP' : as[i]?.map Value.ref = some v := by simpa using hP
      obtain ⟨a, ha, rfl⟩ := Option.map_eq_some_iff.mp hP'
      obtain ⟨wt, C, hVi, hVa⟩ := hVs.at i a ha
      have N6 : News s.heap L s6.heap [] := News.nil
      obtain ⟨h6, e6, d6, t6, os6⟩ := s6
      dsimp only at F6 N6 z6 ⊢
      replace F6 := fr_know (x := "committee") F6 (by exact g1)
      k_steps
      rename HasSet _ _ _ _ _ _ _ => hSo
      have hCs := (hV (wt, C) (List.mem_of_getElem? hVi)).1
      have hw0 := (hV (wt, C) (List.mem_of_getElem? hVi)).2
      have hCn := hVn (wt, C) (List.mem_of_getElem? hVi)
      dsimp only at hCs hw0 hCn
      obtain ⟨itc, hlc, hic⟩ := hC.keep F6.keep
      have X6 := X.keeps F6.keep
      refine Stopped.on (inter_list (own_set X6 hSo) hCs (.inl ⟨rfl, rfl⟩) (by walk_at "my room") hlc hic (fun c hc => by have := hcs c hc; omega) hSo fun r7 h7 tk7 D k7 hr7 hS7 hD hx => ?_)
      have hlD : D.length = cnt C cs := cnt_len hCs hD (fun c hc => by have := hcs c hc; omega) (fun x => by rw [hx x, mem_insAll (fun c hc => by have := hcs c hc; omega)]; simp [and_comm])
      have F7 : Fr s.heap L h7 _ := ⟨F6.ns.keeps k7, fun b o e => k7 b o (F6.keep b o e), F6.above⟩
      have N7 : News s.heap L h7 [] := News.nil
      have Z7 := z6.keep k7
      dsimp only
      clear N6
      k_steps
      obtain ⟨T7, ep7, ho7⟩ := id hS7
      refine Stopped.on (len_set (isSet_plain ho7 rfl) hD (.inl ⟨rfl, rfl⟩) hS7 fun tt tt' => ?_)
      dsimp only
      rw [hlD]
      refine store_m (L := L) rfl (M := [L, lm]) rfl (by unfold Free; decide) F7 (hid_know (x := "committee") H6 (by exact g1)) (.head _) rfl fun s8 k8 kL8 F8 H8 => ?_
      have Z8 := Z7.turn k8.kc fun o e => kL8 _ o hlmL e
      have hlm8 : ∃ o, s8.heap.get? lm = some o := by
        obtain ⟨it8, ⟨o8, ho8, _⟩, _⟩ := Z8
        exact ⟨o8, ho8⟩
      have k68 : Km [L, lm] ⟨h6, e6, d6, t6, os6⟩ s8 := Km.trans (b := ⟨h7, e6, d6, tk7, os6⟩) (.of ⟨k7, rfl, rfl, rfl⟩) ⟨k8.kc, k8.keep, k8.gens, k8.drawn, k8.os⟩
      clear F7 N7 Z7 k8 kL8 F6 z6 hS7 ho7
      obtain ⟨h8, e8, d8, t8, os8⟩ := s8
      have N8 : News s.heap L h8 [] := News.nil
      dsimp only at F8 N8 Z8 hlm8 ⊢
      have hLo8 : ∃ o, h8.get? L = some o := by obtain ⟨oL, _, _, hL, _⟩ := F8.ns; exact ⟨oL, hL⟩
      k_steps
      have hk4 : cnt C cs ≤ 4 := by rw [← hlD]; exact sub_len hD
      refine Stopped.on (wpAny_mono (Q := fun f s' => f = .next ∧ Km [L, lm] ⟨h8, e8, d8, t8, os8⟩ s' ∧ ∃ m₄, Fr s.heap L s'.heap m₄ ∧ Hid m₄ ∧ m₄ "committee" = some (.ref com) ∧ m₄ "profile" = some (.ref pr) ∧ m₄ "marginal_scorefct" = some (.ref sa) ∧ m₄ "marg_util_cand" = some (.ref lm) ∧ NumsAt s'.heap lm (fun c => remV q (V.take i) cs c + (if c ∈ C then wt * F q (cnt C cs) else 0)) n) (E := fun _ _ => False) ?_ ?_ fun _ _ e => e)
      · refine For_g (h₀ := s.heap) (L := L) rfl [L, lm] (.head _) (fun b hb => by
          rcases List.mem_cons.mp hb with e | hb
          · rw [e]; exact hLo8
          · rw [List.mem_singleton.mp hb]; exact hlm8) rfl (by unfold Free; decide) rfl ?hev2
        case hev2 =>
          have hb8 := F8.keep
          replace F8 := fr_know (x := "voter") F8 (by rfl)
          replace H8 := hid_know (x := "voter") H8 (by rfl)
          k_steps
          rename HasSet _ _ _ _ _ _ _ => hSo8
          refine it_set (own_set (X.keeps F8.keep) hSo8) hCs (.inl ⟨rfl, rfl⟩) hSo8 fun I2 s10 St2 ds hk10 hI2 hperm hit2 hst2 => ?_
          obtain ⟨T8, ep8, ho8⟩ := id hSo8
          have hF10 := fr_ke (s := ⟨h8, e8, d8, _, os8⟩) hk10 F8
          have hI8 : h8.get? I2 = none := hI2
          have kA : Ke ⟨h8, e8, d8, t8, os8⟩ s10 := ⟨hk10.1, hk10.2.1, hk10.2.2.1, hk10.2.2.2⟩
          refine ⟨I2, _, _, _, _, _, fun j m h => m "committee" = some (.ref com) ∧ m "profile" = some (.ref pr) ∧ m "marginal_scorefct" = some (.ref sa) ∧ m "marg_util_cand" = some (.ref lm) ∧ m "voter" = some (.ref a) ∧ (∃ t, m "satisfaction" = some (.int (cnt C cs) t)) ∧ NumsAt h lm (fun c => remV q (V.take i) cs c + (if c ∈ ds.take j then wt * F q (cnt C cs) else 0)) n, ?Gst2, rfl, hit2, Room.handled (n := 0) (by walk_at "my room"), hst2, .of kA, hI8, ?fp2, fun b _ _ o e => kA.1 b o e, hb8, hF10, H8, ⟨rfl, by exact gp, by exact g2, by exact g3, rfl, ⟨_, rfl⟩, (Z8.keep kA.1).eq fun c _ => by simp⟩, ?step2, ?done2⟩
          case Gst2 =>
            rintro j m h h' ⟨a, pp, b, c, f, g, z⟩ kc hM
            exact ⟨a, pp, b, c, f, g, z.turn kc fun o e => hM lm (.tail _ (.head _)) hlmL o e⟩
          case fp2 =>
            intro b hb
            rcases List.mem_cons.mp hb with e | hb
            · exact .inl e
            · rw [List.mem_singleton.mp hb]
              refine .inr fun q => ?_
              rcases List.mem_cons.mp q with q | q
              · obtain ⟨oL, es, ep, hL, hd, _⟩ := F8.ns
                rw [q, hL] at ho8
                cases ho8
                cases hd
              · obtain ⟨it8, ⟨o8, h1, _, _, h2⟩, _⟩ := Z8
                rw [List.mem_singleton.mp q, h1] at ho8
                cases ho8
                cases h2
          case done2 =>
            rintro s' m' k' F' H' ⟨a1, ap, a2, a3, a4, a5, z'⟩
            refine ⟨by first | rfl | trivial, k', m', F', H', a1, ap, a2, a3, z'.eq fun c _ => ?_⟩
            rw [List.take_length]
            congr 1
            simp only [hperm.mem_iff]
          case step2 =>
            rintro j v s11 m11 hj ⟨tv, rfl⟩ k11 F11 H11 ⟨a1, ap, a2, a3, a4, ⟨t', a5⟩, z11⟩
            have hdj : ds.getD j 0 ∈ ds := by rw [List.getD_eq_getElem?_getD, List.getElem?_eq_getElem hj]; exact List.getElem_mem hj
            have hcC : ds.getD j 0 ∈ C := hperm.mem_iff.mp hdj
            have hcn := hCn _ hcC
            have hnot : ds.getD j 0 ∉ ds.take j := by
              rw [List.getD_eq_getElem?_getD, List.getElem?_eq_getElem hj]
              have nd := (hperm.nodup_iff).mpr (sub_nodup hCs)
              have h1 := (List.take_append_drop j ds).symm
              rw [List.drop_eq_getElem_cons hj] at h1
              rw [h1] at nd
              have := (List.nodup_append.mp nd).2.2
              intro hm
              exact this _ hm _ (.head _) rfl
            generalize hcd : ds.getD j 0 = c0 at *
            obtain ⟨h11, e11, d11, t11, os11⟩ := s11
            have N11 : News s.heap L h11 [] := News.nil
            dsimp only at F11 z11 ⊢
            replace F11 := fr_know (x := "marg_util_cand") F11 (by exact a3)
            replace H11 := hid_know (x := "marg_util_cand") H11 (by exact a3)
            replace F11 := fr_know (x := "voter") F11 (by exact a4)
            replace H11 := hid_know (x := "voter") H11 (by exact a4)
            replace F11 := fr_know (x := "marginal_scorefct") F11 (by exact a2)
            replace H11 := hid_know (x := "marginal_scorefct") H11 (by exact a2)
            replace F11 := fr_know (x := "satisfaction") F11 (by exact a5)
            replace H11 := hid_know (x := "satisfaction") H11 (by exact a5)
            replace F11 := fr_know (x := "cand") F11 (by rfl)
            replace H11 := hid_know (x := "cand") H11 (by rfl)
            have X11 := X.keeps F11.keep
            have T11 := T.keeps F11.keep
            have S11 := hS.keep F11.keep
            k_steps
            refine nums_get z11 hcn (by omega) fun old hold => ?_
            dsimp only
            k_steps
            refine Stopped.on (callWith_step (q := q) X11 S11 (wpAny_mono (Q := fun v s₁ => Stopped (∃ t tk, v = .int (cnt C cs) t ∧ s₁ = ⟨h11, e11, d11, tk, os11⟩)) (E := fun _ _ => False) ?_ ?_ fun _ _ e => e))
            · k_steps
              exact Stopped.on ⟨_, _, rfl, rfl⟩
            · intro v s12 hs12
              obtain ⟨tt, tk12, rfl, rfl⟩ := Stopped.go hs12
              refine ⟨⟨fun _ _ e => e, rfl, rfl, rfl⟩, call_step (q := q) S11 X11 T11 (by walk_at "my room") (by omega) (by omega) fun u s13 hk13 hu => ?_⟩
              refine int_mul_num (X11.keeps hk13.1) (T11.keeps hk13.1) (by walk_at "my room") (by omega) hu fun y s14 hk14 hy => ?_
              have ke14 := hk13.trans hk14
              refine num_iadd (X11.keeps ke14.1) (T11.keeps ke14.1) (by walk_at "my room") (hold.keep ke14.1) hy fun r s15 hk15 hr => ?_
              have ke15 := ke14.trans hk15
              have F15 := fr_ke ke15 F11
              refine nums_set (z11.keep ke15.1) hcn (by omega) hr fun s16 kL16 kc16 hg16 hd16 ho16 z16 => ?_
              have hb16 : ∀ b o, s.heap.get? b = some o → b ≠ lm := fun b o e q => by rw [q, hlm0] at e; cases e
              have F16 : Fr s.heap L s16.heap _ := ⟨F15.ns.at' fun o e => kL16 _ o (Ne.symm hlmL) e, fun b o e => kL16 b o (hb16 b o e) (F15.keep b o e), F15.above⟩
              have k16 : Km [L, lm] s15 s16 := ⟨kc16, fun b o n e => kL16 b o (fun q => n (by rw [q]; exact .tail _ (.head _))) e, hg16, hd16, ho16⟩
              refine wpAny_execs_nil ⟨by first | rfl | trivial, (Km.untok (Km.of ke15)).trans k16, _, F16, H11, by exact a1, by exact ap, by rfl, by rfl, by rfl, ⟨_, by rfl⟩, z16.eq fun c hc => ?_⟩
              have htk : ∀ x, x ∈ ds.take (j + 1) ↔ x ∈ ds.take j ∨ x = c0 := fun x => by
                rw [List.take_add_one, List.mem_append]
                have : ds[j]? = some c0 := by rw [← hcd, List.getD_eq_getElem?_getD, List.getElem?_eq_getElem hj]; rfl
                rw [this]
                simp
              by_cases q1 : c = c0
              · subst q1
                rw [if_pos rfl, if_neg hnot, if_pos ((htk _).mpr (.inr rfl)), Int.mul_comm wt]
                omega
              · rw [if_neg q1]
                congr 1
                simp only [htk, q1, or_false]
      · rintro f s' ⟨rfl, k9, m9, F9, H9, g91, g9p, g92, g93, z9⟩
        dsimp only
        refine wpAny_execs_nil ⟨by first | rfl | trivial, Km.trans k68 k9, m9, F9, H9, g91, g9p, g92, g93, z9.eq fun c hc => ?_⟩
        rw [remV_take hVi]
end
end
section
section
variable {prog : Program} {w : World} {A : Around} {s : Shared} {K : Frag} {p : Program} {loose : List Str} {mg mb : Str → Option Value} {b : Heap}
  {R : Result → Shared → Prop} {name qual : Str} {params : Arguments} {body : List Stmt} {scope : Scope} {dV kV doc pm cdv ct oc : Value} {an od : Option Addr} {osl : Array (Option Value)} {f : Addr} {args : Args} {x1 n : Str} {v1 v : Value}
/-- a call of a function that takes a cell and a local -/
theorem call_cell (X : K.In s.heap) (T : TopRead p loose mg mb s.heap)
    (ho : K.lookup f = some ⟨oc, od, .func (fnX name qual params body scope [] dV kV doc pm an cdv ct), osl⟩) (hcd : codeIn K cdv qual = true) (hroom : A.depth < recursionLimit)
    (hbind : BindsTo s (fnX name qual params body scope [] dV kV doc pm an cdv ct) args [(n, v), (x1, v1)])
    (k1 : scope.names.lookup x1 = some .local) (kn : scope.names.lookup n = some .cell)
    (hcf : ∀ k, cellsFrom k scope.names [] = [(n, k)]) (hpc : ∀ h, pushCells h scope.names = h.push { cls := .type "cell", data := .cell none })
    (h : ∀ L h₁ tk oc, Fr s.heap L h₁ (fun y => if y = x1 then some v1 else none) → News s.heap L h₁ [(L + 1, oc)] → oc.data = .cell (some v) →
      wpAny (model prog w) (A.deeper (envX qual scope L f cdv [(n, L + 1)])) (execs body (envX qual scope L f cdv [(n, L + 1)]))
        (fun fl s' => R (.ok (.ret (match fl with | .ret v => v | _ => .none))) s')
        (fun _ _ => False)
        { s with heap := h₁, toks := tk })
    (hco : scope.isCoroutine = false) (hgen : scope.isGenerator = false) (hk : scope.kind = .function) : codeAny (model prog w) A (.call (.ref f) args) R s := by
  refine codeAny_call_function hroom (X _ _ ho) rfl hco hgen rfl (codeRec_of X hcd) (hbind _ _ _ _ ?_)
  show wpAny _ _ (newFunctionEnv scope mainGlobals [] _ _ _ _ _ _) _ _ _
  simp only [newFunctionEnv, Option.isSome_none, Bool.false_eq_true, if_false]
  refine wpAny_bind (wpAny_alloc ?_)
  refine wpAny_bind (wpAny_layCells _ (fun name kind cells => by cases hkc : kind == NameKind.cell <;> simp [hkc]) _ _ _ _ ?_)
  rw [show ({ s with heap := s.heap.push { cls := .type "frame", data := .dict #[] } } : Shared).heap.objs.size = s.heap.objs.size + 1 from Heap.size_push .., hcf, hpc]
  have hL : (s.heap.push { cls := .type "frame", data := .dict #[] }).objs.size = s.heap.objs.size + 1 := Heap.size_push ..
  have F0 : Fr s.heap s.heap.objs.size ((s.heap.push { cls := .type "frame", data := .dict #[] }).push { cls := .type "cell", data := .cell none }) (fun _ => none) :=
    ⟨(Heap.Ns.new s.heap (.type "frame")).keeps fun a o e => Heap.get?_push_of_some _ e, fun a o e => Heap.get?_push_of_some _ (Heap.get?_push_of_some _ e), Nat.le_refl _⟩
  have hbn : ∀ a, s.heap.objs.size ≤ a → s.heap.get? a = none := fun a ha => by
    cases q : s.heap.get? a with
    | none => rfl
    | some o => exact absurd (Heap.lt_size q) (Nat.not_lt.mpr ha)
  have N0 : News s.heap s.heap.objs.size ((s.heap.push { cls := .type "frame", data := .dict #[] }).push { cls := .type "cell", data := .cell none }) [(s.heap.objs.size + 1, { cls := .type "cell", data := .cell none })] := by
    intro p hp
    rw [List.mem_singleton.mp hp]
    exact ⟨by rw [← hL]; exact Heap.get?_push_size _ rfl, Nat.succ_ne_self _, hbn _ (Nat.le_succ _)⟩
  generalize hLg : s.heap.objs.size = L at F0 N0 ⊢
  generalize (s.heap.push { cls := .type "frame", data := .dict #[] }).push { cls := .type "cell", data := .cell none } = h0 at F0 N0 ⊢
  have K1 : (envX qual scope L f cdv [(n, L + 1)]).kindOf x1 = some .local := k1
  have Kn : (envX qual scope L f cdv [(n, L + 1)]).kindOf n = some .cell := kn
  have hlk : [(n, L + 1)].lookup n = some (L + 1) := by rw [List.lookup_cons, beq_self_eq_true]
  dsimp only
  rw [List.forIn_cons]
  refine wpAny_bind (wpAny_bind (wpAny_bind (storeX_C (cl := [(n, L + 1)]) (cn := qual) (cs := scope) (a := f) (ccd := cdv) F0 N0 hlk (.head fun p hp => by cases hp) rfl (fun h3 o' F3 N3 hd => wpAny_pure ?_) hk Kn)))
  dsimp only
  rw [List.forIn_cons]
  refine wpAny_bind (wpAny_bind (storeX_L (cl := [(n, L + 1)]) (cn := qual) (cs := scope) (a := f) (ccd := cdv) F3 N3 (fun h1 F1 N1 => wpAny_pure ?_) hk K1))
  dsimp only
  rw [List.forIn_nil]
  refine wpAny_pure (wpAny_pure ⟨(T.keeps F1.keep).nolimit, ks_codeAny_funcAt (PySem.wpAt_of_wpAny ?_)⟩)
  exact wpAny_mono (h L h1 _ o' F1 N1 hd) (fun _ _ q => q) fun _ _ q => q.elim
end
end
section
theorem paired_eq {vs ys : List Value} (h : Paired (fun v y => y = v) vs ys) : ys = vs := by
  induction h with
  | nil => rfl
  | cons h _ ih => rw [h, ih]
/-- ints that pass a test -/
theorem ints_pass {vs : List Value} {n : Nat} {pz : Nat → Bool} (p : Value → Bool) (hlen : vs.length = n) (hP : ∀ (j : Nat) v, vs[j]? = some v → ∃ t, v = .int (j : Nat) t) (hp : ∀ (c : Nat) t, p (.int (c : Int) t) = pz c) :
    IntsAre (vs.filter p) (((List.range n).filter pz).map fun (c : Nat) => (c : Int)) := by
  have key : ∀ (vs : List Value) (k : Nat), (∀ (j : Nat) v, vs[j]? = some v → ∃ t, v = Value.int ((k + j : Nat) : Int) t) → IntsAre (vs.filter p) (((List.range' k vs.length).filter pz).map fun (c : Nat) => (c : Int)) := by
    intro vs
    induction vs with
    | nil => intro k _; exact .nil
    | cons v r ih =>
      intro k hv
      obtain ⟨t, rfl⟩ := hv 0 v rfl
      have ih' := ih (k + 1) fun j v' h' => by
        obtain ⟨t', e⟩ := hv (j + 1) v' (by simpa using h')
        exact ⟨t', by rw [e, show k + (j + 1) = k + 1 + j by omega]⟩
      rw [List.length_cons, List.range'_succ, List.filter_cons, List.filter_cons, Nat.add_zero, hp]
      cases pz k with
      | true => exact .cons _ _ ih'
      | false => exact ih'
  subst hlen
  rw [List.range_eq_range']
  exact key vs 0 fun j v hj => by
    obtain ⟨t, e⟩ := hP j v hj
    exact ⟨t, by rw [e, Nat.zero_add]⟩
local macro_rules | `(tactic| walk_at "eval ListComp") => `(tactic| refine Stopped.go ?_)
local macro_rules | `(tactic| walk_at "eval Name") => `(tactic| ((with_reducible show wpAny _ _ (eval (Expr.Name _ _) (compEnvC _ _ _ _)) _ _ _); first | (refine wpAny_Name (wpAny_loadName_local rfl rfl (by assumption) (by assumption) ?_)) | (refine wpAny_Name (wpAny_loadName_cell rfl rfl rfl ⟨_, by assumption, by assumption⟩ ?_))))
local macro_rules | `(tactic| walk_at "binaryOp FloorDiv int int") => `(tactic| (refine floordiv_int (by omega) ?_ (Or.inl (noPy (by omega) (by omega)))))
section
variable {prog : Program} {w : World} {A : Around} {s : Shared} {p : Program} {loose : List Str} {mg mb : Str → Option Value} {R : Result → Shared → Prop}
def bit (a : Int) (c : Nat) : Bool := (a.fdiv (2 ^ c)).fmod 2 == 1
def bitV (a : Int) : Value → Bool
  | .int c _ => bit a c.toNat
  | _ => false
theorem pow_bd {i : Nat} (hi : i < 4) : (0 : Int) < 2 ^ i ∧ (2 : Int) ^ i < 1152921504606846976 := by
  have : i = 0 ∨ i = 1 ∨ i = 2 ∨ i = 3 := by omega
  rcases this with rfl | rfl | rfl | rfl <;> decide
theorem bit_test {env : Env} {E : Value → Shared → Prop} {i : Nat} {a : Int} {ta ti : Tok} {x1 x2 : Str} {p1 p2 p3 p4 p5 p6 p7 p8 p9 : Pos} {k1 k2 k3 : Nat} {whole : Sem Value} {Q : Bool → Shared → Prop} (hi : i < 4)
    (h1 : ∀ (Q : Value → Shared → Prop) tk, Q (.int a ta) { s with toks := tk } → wpAny (model prog w) A (eval (.Name x1 p1) env) Q E { s with toks := tk })
    (h2 : ∀ (Q : Value → Shared → Prop) tk, Q (.int (i : Nat) ti) { s with toks := tk } → wpAny (model prog w) A (eval (.Name x2 p2) env) Q E { s with toks := tk })
    (h : ∀ tk, Q (bit a i) { s with toks := tk }) :
    wpAny (model prog w) A (isTrue (.Compare (.BinOp (.BinOp (.Name x1 p1) .FloorDiv (.BinOp (.Constant (.int 2) k1 p3) .Pow (.Name x2 p2) p4) p5) .Mod (.Constant (.int 2) k2 p6) p7) [.Eq] [.Constant (.int 1) k3 p8] p9) env whole) Q E s := by
  obtain ⟨b1, b2⟩ := pow_bd hi
  obtain ⟨h0, g, d, t, os⟩ := s
  refine wpAny_isTrue_Compare1 (wpAny_BinOp (wpAny_BinOp (h1 _ _ (wpAny_BinOp (wpAny_Constant_int (h2 _ _ (pow_int_small (by omega) (by omega) (by decide) ?_))))))) 
  rw [Int.toNat_natCast]
  refine floordiv_int (by omega) (wpAny_Constant_int (mod_int' (by decide) (wpAny_Constant_int (PyProof.Rows.eq_int (wpAny_truthy_bool ?_))))) (Or.inl (noPy b1 b2))
  exact h _
theorem law_cands {a : Int} {n : Nat} {ta tn : Tok} (hn : n ≤ 4) (X : (Mine.hd.heap_39 w.params).In s.heap) (T : TopRead p loose mg mb s.heap) (hA : Room A 12)
    (k : ∀ l s', Ke s s' → s.heap.get? l = none → NatsAt s'.heap l ((List.range n).filter (bit a)) → R (.ok (.ret (.ref l))) s') :
    codeAny (model prog w) A (.call (.ref 523) ⟨[.int a ta, .int n tn], []⟩) R s := by
  refine call_cell (n := "number") (x1 := "cands") (v := .int a ta) (v1 := .int n tn) X T (by k_is) (by k_is) (Room.lt (n := 0) (by walk_at "my room")) ?hb rfl rfl (fun _ => rfl) (fun _ => rfl) ?body rfl rfl rfl
  case hb => exact BindsTo.of_eq rfl
  case body =>
    intro L h₁ tk oc F N hd
    k_steps
    refine Stopped.on (comp_range (cl := [("number", L + 1)]) (n := n) (bitV a) (fun v y => y = v) (X.keeps F.keep) (by omega) rfl (by decide) rfl (by decide) rfl (Room.handled (n := 0) (by walk_at "my room")) ?ev ?test ?elt ?fin)
    case ev =>
      k_steps
      rename IsRange _ _ _ _ _ _ _ _ => rg
      exact Stopped.on ⟨_, _, _, _, rfl, rg, .of (by assumption)⟩
    case test =>
      intro C i t' s₃ m₃ E' hi hns hm hk3
      have hcN := hk3 _ _ (N _ (.head _)).1
      rw [List.forIn_cons]
      simp only [if_true]
      obtain ⟨h3, g3, d3, t3, os3⟩ := s₃
      refine wpAny_bind (wpAny_bind (wpAny_mono (Q := fun b s' => Stopped (b = bit a i ∧ ∃ tk, s' = ⟨h3, g3, d3, tk, os3⟩)) (E := fun _ _ => False) ?_ ?_ fun _ _ e => e.elim))
      · refine bit_test (i := i) (a := a) (ta := ta) (ti := t') (by omega) (fun Q tk hq => ?_) (fun Q tk hq => ?_) (fun tk => Stopped.on ⟨rfl, _, rfl⟩)
        · exact wpAny_Name (wpAny_loadName_cell rfl rfl rfl ⟨oc, hcN, hd⟩ hq)
        · exact wpAny_Name (wpAny_loadName_local rfl rfl hns hm hq)
      · intro b s' hb
        obtain ⟨rfl, tk', rfl⟩ := Stopped.go hb
        refine wpAny_pure ?_
        dsimp only
        rw [List.forIn_nil]
        exact wpAny_pure ⟨rfl, h3, tk', rfl, fun _ _ e => e⟩
    case elt =>
      intro C i t' s₃ m₃ E' hi hns hm hk3
      exact wpAny_Name (wpAny_loadName_local rfl rfl hns hm ⟨rfl, s₃.heap, s₃.toks, rfl, fun _ _ e => e⟩)
    case fin =>
      intro D s' ys vs hD hl hlen hP hF hK
      refine k D s' (.trans (.of F.keep) hK) ?_ ⟨ys, hl, ?_⟩
      · cases q : s.heap.get? D with
        | none => rfl
        | some o => rw [F.keep _ _ q] at hD; cases hD
      · rw [paired_eq hF]
        exact ints_pass (bitV a) hlen hP fun c t => by show bit a ((c : Int).toNat) = _; rw [Int.toNat_natCast]
end
end
section
section
variable {prog : Program} {w : World} {A : Around} {E : Value → Shared → Prop} {s : Shared} {p : Program} {loose : List Str} {mg mb : Str → Option Value}
def preS (z : Nat → Int) : Nat → Int
  | 0 => 0
  | k + 1 => preS z k + z k
theorem sum_loop {R : Result → Shared → Prop} {s₀ : Shared} {I S : Addr} {fp : List Addr} {n : Nat} {P : Nat → Value → Prop} {St : Nat → Heap → Prop} {z : Nat → Int} (O : ItOk prog w I fp n P St) (hA : Room A 24) (X : (Mine.hd.heap_39 w.params).In s₀.heap) (T : TopRead p loose mg mb s₀.heap)
    (hz : ∀ i v, P i v → NumAt s₀.heap v (z i)) (hSf : S ∉ fp) (hSI : S ≠ I) (hS0 : s₀.heap.get? S = none) (hI0 : s₀.heap.get? I = none)
    (hR : ∀ v s', NumAt s'.heap v (preS z n) → Ke s₀ s' → R (.ok (.ret v)) s') :
    ∀ (k i : Nat) (s : Shared) (tv : Value) (c : Nat) (stage : Int), n - i = k → i ≤ n → St i s.heap → NumAt s.heap tv (preS z i) → Ke s₀ s → ((stage = 0 ∧ ∃ a t, tv = .int a t) ∨ stage = 2) →
    s.heap.get? S = some { cls := .type "list", dict := none, data := .seq #[tv] c, slots := #[] } →
    codeAny (model prog w) A (.builtin "sum.loop" ⟨[.ref I, .ref S, rawInt stage, rawInt 0], []⟩) R s := by
  have W := O.W A.in1 (Room.handled (n := 0) (by walk_at "my room"))
  have old : ∀ b o, s₀.heap.get? b = some o → b ≠ S := fun b o e q => by rw [q, hS0] at e; cases e
  have oldI : ∀ b o, s₀.heap.get? b = some o → b ∉ [I] := fun b o e q => by rw [List.mem_singleton.mp q, hI0] at e; cases e
  intro k
  induction k with
  | zero =>
    intro i s tv c stage hk hi hst htv hke hsg hS
    have hin : i = n := by omega
    subst hin
    refine codeAny_builtin PySem.F.entry_sum_loop ?_
    rw [Around.under_plainId PySem.F.plain_sum_loop _]
    show wpAny _ A.in1 (seqItems? (.ref S) >>= _) _ _ s
    refine wpAny_bind (wpAny_seqItems hS rfl ?_)
    show wpAny _ A.in1 (tryCatch (pyNext (.ref I)) _ >>= _) _ _ s
    refine wpAny_bind (wpAny_tryCatch (W.done s _ _ hst fun h' tk hk' => ?_))
    have kc : KC s.heap h' := KC.but (O.turn _ _ hst) fun b o n e => hk' b o (by simpa using n) e
    have fin : R (.ok (.ret tv)) { s with heap := h', toks := tk } := hR tv _ (htv.kc kc) ⟨fun b o e => hk' b o (oldI b o e) (hke.1 b o e), hke.2⟩
    rcases htv with ⟨a, t, rfl, _⟩ | ⟨y, rfl, _⟩
    · exact wpAny_pure fin
    · exact wpAny_pure fin
  | succ k ih =>
    intro i s tv c stage hk hi hst htv hke hsg hS
    have hlt : i < n := by omega
    refine codeAny_builtin PySem.F.entry_sum_loop ?_
    rw [Around.under_plainId PySem.F.plain_sum_loop _]
    show wpAny _ A.in1 (seqItems? (.ref S) >>= _) _ _ s
    refine wpAny_bind (wpAny_seqItems hS rfl ?_)
    show wpAny _ A.in1 (tryCatch (pyNext (.ref I)) _ >>= _) _ _ s
    refine wpAny_bind (wpAny_tryCatch (W.item i s _ _ hlt hst fun v h' tk hP hst' hk' => ?_))
    have hS' := hk' S _ (by simpa using hSI) hS
    have kc : KC s.heap h' := KC.but (O.turn _ _ hst) fun b o n e => hk' b o (by simpa using n) e
    have ke1 : Ke s₀ { s with heap := h', toks := tk } := ⟨fun b o e => hk' b o (oldI b o e) (hke.1 b o e), hke.2⟩
    have htv1 := htv.kc kc
    have hv1 := (hz _ _ hP).keep ke1.1
    have hpre : preS z (i + 1) = preS z i + z i := rfl
    /- the slot is set to r and the loop goes on -/
    have goOn : ∀ (r : Value) (s2 : Shared) (st2 : Int), NumAt s2.heap r (preS z (i + 1)) → Ke s₀ s2 → St (i + 1) s2.heap → (∃ c2 tv2, s2.heap.get? S = some { cls := .type "list", dict := none, data := .seq #[tv2] c2, slots := #[] }) → ((st2 = 0 ∧ ∃ a t, r = .int a t) ∨ st2 = 2) →
        wpAny (model prog w) A.in1 (do updateSeq S fun _ => #[r]; again (.builtin "sum.loop" ⟨[.ref I, .ref S, rawInt st2, rawInt 0], []⟩)) (fun fin s' => match fin with | .done f => R (.ok f) s' | .again c' => c'.quiet = true ∧ codeAny (model prog w) A c' R s') (fun e s' => R (.error e) s') s2 := by
      rintro r s2 st2 hr hk2 hst2 ⟨c2, tv2, hS2⟩ hsg2
      refine wpAny_bind (wpAny_updateSeq hS2 rfl ?_)
      have kc2 : KC s2.heap (s2.heap.update S (Obj.mapSeq fun _ => #[r])) := KC.but (l := S) (fun o e => by rw [hS2] at e; cases e; exact mut_list) fun b o n e => (Heap.get?_update_other _ _ (Ne.symm n)).trans e
      refine wpAny_pure ⟨plainId_quiet PySem.F.plain_sum_loop _, ih (i + 1) _ r _ st2 (by omega) hlt (W.frame _ _ _ hst2 fun b hbf o e => ?_) (hr.kc kc2) ⟨fun b o e => (Heap.get?_update_other _ _ (Ne.symm (old b o e))).trans (hk2.1 b o e), hk2.2⟩ hsg2 (Heap.get?_update_self _ hS2 rfl)⟩
      exact (Heap.get?_update_other _ _ (fun h : S = b => hSf (by rw [h]; exact hbf))).trans e
    have plain : ∀ (st2 : Value → Int), (∀ i t, st2 (.int i t) = 2) → (∀ y, st2 (.ref y) = 2) →
        wpAny (model prog w) A.in1 ((holding [v] (binaryOp .Add tv v)).attempt >>= fun x => match x with
          | .ok r => do updateSeq S fun _ => #[r]; letGo [tv, v]; (do updateSeq S fun _ => #[r]; again (.builtin "sum.loop" ⟨[.ref I, .ref S, rawInt (st2 r), rawInt 0], []⟩))
          | .error e => do updateSeq S fun _ => #[]; letGo [tv, v] [e]; throw e) (fun fin s' => match fin with | .done f => R (.ok f) s' | .again c' => c'.quiet = true ∧ codeAny (model prog w) A c' R s') (fun e s' => R (.error e) s') { s with heap := h', toks := tk } := by
      intro st2 e1 e2
      refine wpAny_bind (wpAny_attempt (wpAny_holding ?_))
      refine num_add (A := A.in1) (s := { s with heap := h', toks := tk }) (X.keeps ke1.1) (T.keeps ke1.1) (by walk_at "my room") htv1 hv1 fun r s2 hk2 hr => ?_
      have ke2 := ke1.trans hk2
      have hS2 := hk2.1 _ _ hS'
      have hst2 := W.frame _ _ _ hst' fun b _ o e => hk2.1 b o e
      dsimp only
      refine wpAny_bind (wpAny_updateSeq hS2 rfl (wpAny_bind (wpAny_letGo ?_)))
      have kc2 : KC s2.heap (s2.heap.update S (Obj.mapSeq fun _ => #[r])) := KC.but (l := S) (fun o e => by rw [hS2] at e; cases e; exact mut_list) fun b o n e => (Heap.get?_update_other _ _ (Ne.symm n)).trans e
      refine goOn r _ (st2 r) (hr.kc kc2) ⟨fun b o e => (Heap.get?_update_other _ _ (Ne.symm (old b o e))).trans (ke2.1 b o e), ke2.2⟩ (W.frame _ _ _ hst2 fun b hbf o e => ?_) ⟨_, _, Heap.get?_update_self _ hS2 rfl⟩ (.inr ?_)
      · exact (Heap.get?_update_other _ _ (fun h : S = b => hSf (by rw [h]; exact hbf))).trans e
      · rcases hr with ⟨i, t, rfl, _⟩ | ⟨y, rfl, _⟩
        · exact e1 i t
        · exact e2 y
    rcases hsg with ⟨rfl, a, ta, rfl⟩ | rfl
    · rcases id hv1 with ⟨b, tb, rfl, hb⟩ | ⟨y, rfl, _⟩
      · show wpAny _ A.in1 (if (_ : Bool) = true then (mkInt (a + b) >>= _) else _) _ _ _
        split
        · refine wpAny_bind (wpAny_mkInt ?_)
          rcases htv1 with ⟨a', ta', e, ha⟩ | ⟨y, e, _⟩
          · cases e
            exact goOn (.int (a + b) tk) _ 0 (.inl ⟨a + b, _, rfl, by rw [hpre]; omega⟩) ⟨ke1.1, ke1.2⟩ hst' ⟨_, _, hS'⟩ (.inl ⟨rfl, _, _, rfl⟩)
          · cases e
        · exact wpAny_bind (wpAny_rule (plain (fun _ => 2) (fun _ _ => rfl) fun _ => rfl))
      · exact wpAny_bind (wpAny_rule (plain (fun | .float .. => 1 | _ => 2) (fun _ _ => rfl) fun _ => rfl))
    · rcases id htv1 with ⟨a, ta, rfl, ha⟩ | ⟨y, rfl, _⟩
      · exact plain (fun _ => 2) (fun _ _ => rfl) fun _ => rfl
      · exact plain (fun _ => 2) (fun _ _ => rfl) fun _ => rfl
theorem sum_num {l : Addr} {n : Nat} {z : Nat → Int} {Q : Value → Shared → Prop} (hA : Room A 26) (X : (Mine.hd.heap_39 w.params).In s.heap) (T : TopRead p loose mg mb s.heap) (N : NumsAt s.heap l z n)
    (h : ∀ v s', NumAt s'.heap v (preS z n) → Ke s s' → Q v s') : wpAny (model prog w) A (call (.builtin "sum") [.ref l]) Q E s := by
  obtain ⟨items, hl, hz, hi⟩ := N
  refine call_function_tree PySem.F.kind_sum PySem.F.plain_sum PySem.F.entry_sum (PySem.F.args_sum1 _) ?_
  unfold Builtin.«sum»
  simp only [List.length_cons, List.length_nil]
  rw [if_neg (by decide)]
  refine wpAny_bind (wpAny_of_eq (show Builtin.Builtins.bindParams "sum" ["start"] 0 { } = pure [none] from rfl) ?_)
  have hls : l < s.heap.objs.size := by obtain ⟨o, ho, _⟩ := hl; exact Heap.lt_size ho
  refine wpAny_bind (wpAny_pyIter_list hl ?_)
  have hI0 := no_at s.heap
  have hlI : l ≠ s.heap.objs.size := Nat.ne_of_lt hls
  have O := itok_list (prog := prog) (w := w) hlI items
  have hIt : (s.heap.push { cls := .type "list_iterator", data := .fields #[.ref l, .int 0 0] }).IsListIter s.heap.objs.size l 0 := ⟨_, Heap.get?_push_size _ rfl, rfl, rfl⟩
  have k1 : ∀ b o, s.heap.get? b = some o → (s.heap.push { cls := .type "list_iterator", data := .fields #[.ref l, .int 0 0] }).get? b = some o := fun b o e => Heap.get?_push_of_some _ e
  have hs1 : (s.heap.push { cls := .type "list_iterator", data := .fields #[.ref l, .int 0 0] }).objs.size = s.heap.objs.size + 1 := Heap.size_push ..
  generalize s.heap.push { cls := .type "list_iterator", data := .fields #[.ref l, .int 0 0] } = h1 at hIt k1 hs1 ⊢
  generalize s.heap.objs.size = I at hI0 hlI O hIt hs1
  refine wpAny_bind (wpAny_mkInt ?_)
  refine wpAny_bind (wpAny_pure ?_)
  simp only [List.forIn_cons, List.forIn_nil]
  refine wpAny_bind (wpAny_bind (wpAny_bind (wpAny_isInstance (T := "int") (b := false) (typeIs_int _ _ _) PySem.sub_int_str ?_)))
  simp only [Bool.false_eq_true, if_false]
  refine wpAny_pure (wpAny_bind (wpAny_bind (wpAny_isInstance (T := "int") (b := false) (typeIs_int _ _ _) PySem.sub_int_bytes ?_)))
  simp only [Bool.false_eq_true, if_false]
  refine wpAny_pure (wpAny_bind (wpAny_bind (wpAny_isInstance (T := "int") (b := false) (typeIs_int _ _ _) PySem.sub_int_bytearray ?_)))
  simp only [Bool.false_eq_true, if_false]
  refine wpAny_pure (wpAny_pure ?_)
  refine wpAny_bind (wpAny_newObj_type ?_)
  have hSn := no_at h1
  have hS0 : s.heap.get? h1.objs.size = none := by
    cases q : s.heap.get? h1.objs.size with
    | none => rfl
    | some o => rw [k1 _ _ q] at hSn; cases hSn
  have hSI : h1.objs.size ≠ I := by rw [hs1]; exact Nat.succ_ne_self _
  have hSl : h1.objs.size ≠ l := fun q => by obtain ⟨o, ho, _⟩ := hl; rw [q, ho] at hS0; cases hS0
  refine wpAny_pure ⟨plainId_quiet PySem.F.plain_sum_loop _, sum_loop (s₀ := s) O (by walk_at "my room") X T hi (by simp [hSI, hSl]) hSI hS0 hI0 (fun v s' hv hke => ?_) _ 0 _ (.int 0 s.toks) 0 0 rfl (Nat.zero_le _) ⟨?_, ?_⟩ (.inl ⟨0, _, rfl, rfl⟩) ⟨fun b o e => Heap.get?_push_of_some _ (k1 b o e), rfl, rfl, rfl⟩ (.inl ⟨rfl, _, _, rfl⟩) (Heap.get?_push_size _ rfl)⟩
  · rw [hz] at hv
    exact h v s' hv hke
  · obtain ⟨o, ho, r⟩ := hIt
    exact ⟨o, Heap.get?_push_of_some _ ho, r⟩
  · obtain ⟨o, ho, r⟩ := hl
    exact ⟨o, Heap.get?_push_of_some _ (k1 _ _ ho), r⟩
end
end
section
/-- the law as it lies in the written part -/
noncomputable def lawFd (P : Params) : Option FuncData := match (Mine.hd.heap_39 P).lookup 528 with
  | some ⟨_, _, .func fd, _⟩ => some fd
  | _ => none
noncomputable def lawScope (P : Params) : Scope := match lawFd P with
  | some fd => fd.scope
  | none => default
noncomputable def lawBody (P : Params) : List Stmt := match lawFd P with
  | some fd => match fd.body with
    | .stmts l => l
    | _ => []
  | none => []
noncomputable def lawCode (P : Params) : Value := match lawFd P with
  | some fd => fd.code
  | none => .none
noncomputable def st (n : Nat) (P : Params) : Stmt := (lawBody P).getD n (.Pass default)
def lawCl (L : Addr) : List (Str × Addr) := [("gone", L + 5), ("less", L + 4), ("other", L + 3), ("cand", L + 2), ("great", L + 1)]
/-- objects that the stores of the law's frame and cells leave alone -/
structure Kh (o : Obj) : Prop where
  cell : ∀ v, o.data ≠ .cell v
  dict : ∀ es ep, o.data = .dict es ep → es = #[] ∨ nsFind es "approved" ≠ none ∨ nsFind es "numerator" ≠ none ∨ nsFind es "candidates" ≠ none ∨ nsFind es "base" ≠ none
theorem Kd.kh {o : Obj} (d : Kd o) : Kh o := ⟨d.cell, d.dict⟩
theorem Kh.of {o : Obj} (h1 : ∀ v, o.data ≠ .cell v) (h2 : ∀ es ep, o.data ≠ .dict es ep) : Kh o := ⟨h1, fun es ep e => absurd e (h2 es ep)⟩
def KH (h h' : Heap) : Prop := ∀ b o, Kh o → h.get? b = some o → h'.get? b = some o
theorem KH.refl (h : Heap) : KH h h := fun _ _ _ e => e
theorem KH.trans {a b c : Heap} (h : KH a b) (k : KH b c) : KH a c := fun x o d e => k x o d (h x o d e)
theorem KH.of {h h' : Heap} (k : ∀ b o, h.get? b = some o → h'.get? b = some o) : KH h h' := fun b o _ e => k b o e
theorem KH.kc {h h' : Heap} (k : KH h h') : KC h h' := fun b o d e => k b o d.kh e
theorem KH.frame {h h' : Heap} {L : Addr} {m : Str → Option Value} (hn : h.Ns L m) (H : Hid m) (hs : ∀ b o, b ≠ L → h.get? b = some o → h'.get? b = some o) : KH h h' := fun b o d e => by
  refine hs b o (fun q => ?_) e
  obtain ⟨oL, es, ep, hL, hd, _, hm⟩ := hn
  rw [q, hL] at e
  cases e
  rcases d.dict es ep hd with c | c | c | c | c
  · subst c
    obtain ⟨y, v, hy⟩ := H.e
    rw [← hm y] at hy
    cases hy
  · exact c ((hm _).trans H.a)
  · exact c ((hm _).trans H.n)
  · exact c ((hm _).trans H.c)
  · exact c ((hm _).trans H.b)
theorem KH.store {h h' : Heap} {L : Addr} {m : Str → Option Value} (hn : h.Ns L m) (H : Hid m) (hs : Heap.SameBut L h h') : KH h h' := KH.frame hn H fun b o n e => (hs.2 b n).trans e
theorem KH.cellAt {h h' : Heap} {a : Addr} {v : Option Value} (hv : h.IsCell a v) (hs : Heap.SameBut a h h') : KH h h' := fun b o d e => by
  refine (hs.2 b fun q => ?_).trans e
  obtain ⟨oc, hc, hd⟩ := hv
  rw [q, hc] at e
  cases e
  exact d.cell _ hd
theorem NatsAt.kh {h h' : Heap} {l : Addr} {cs : List Nat} (N : NatsAt h l cs) (k : KH h h') : NatsAt h' l cs := by
  obtain ⟨items, ⟨o, ho, hc, n, hd⟩, hi⟩ := N
  exact ⟨items, ⟨o, k _ _ (.of (fun v e => by rw [hd] at e; cases e) (fun _ _ e => by rw [hd] at e; cases e)) ho, hc, n, hd⟩, hi⟩
theorem NumsAt.kh {h h' : Heap} {l : Addr} {z : Nat → Int} {n : Nat} (N : NumsAt h l z n) (k : KH h h') : NumsAt h' l z n := by
  refine N.turn k.kc fun o e => ?_
  obtain ⟨items, ⟨o', ho, hc, n', hd⟩, _⟩ := N
  cases ho.symm.trans e
  exact k _ _ (.of (fun v e => by rw [hd] at e; cases e) (fun _ _ e => by rw [hd] at e; cases e)) ho
theorem NumAt.kh {h h' : Heap} {v : Value} {z : Int} (V : NumAt h v z) (k : KH h h') : NumAt h' v z := V.kc k.kc
theorem StepAt.kh {h h' : Heap} {q : Nat} {v : Value} (S : StepAt h q v) (k : KH h h') : StepAt h' q v := S.kc k.kc
theorem VotersAt.kh {w : World} {h h' : Heap} {lv : Addr} {V : List (Int × List Nat)} (S : VotersAt w h lv V) (k : KH h h') : VotersAt w h' lv V := by
  obtain ⟨as, n, ho, hV⟩ := S
  exact ⟨as, n, k _ _ (.of (fun v e => by cases e) (fun _ _ e => by cases e)) ho, hV.imp fun _ _ _ v => v.kc k.kc⟩
theorem ProfAt.kh {h h' : Heap} {x : Addr} {n : Nat} {lv : Addr} (P : ProfAt h x n lv) (k : KH h h') : ProfAt h' x n lv := by
  obtain ⟨dx, lc, es, ep, items, a1, a2, a3, a4, ⟨ol, a5, a6, n', a7⟩, a8, a9, a10, a11⟩ := P.out
  exact ⟨dx, lc, es, ep, items, k _ _ (kd_inst _ _).kh a1, k _ _ (kd_dict (.inr (.inr (.inr (.inl ⟨_, a3⟩))))).kh a2, a3, a4, ⟨ol, k _ _ (.of (fun v e => by rw [a7] at e; cases e) (fun _ _ e => by rw [a7] at e; cases e)) a5, a6, n', a7⟩, a8, a9, a10, a11⟩
theorem five {i : Nat} (h1 : 1 ≤ i) (h2 : i ≤ 5) : i = 1 ∨ i = 2 ∨ i = 3 ∨ i = 4 ∨ i = 5 := by omega
theorem ne_add {L i : Nat} (h : 1 ≤ i) : L + i ≠ L := by omega
theorem add_ne {L i j : Nat} (h : i ≠ j) : L + i ≠ L + j := by omega
theorem lt_ne {b L i n : Nat} (h : b < n) (k : n ≤ L) : b ≠ L + i := by omega
/-- what a step of the law leaves of a state -/
structure Ste (s s' : Shared) : Prop where
  kh : KH s.heap s'.heap
  gens : s'.gens = s.gens
  drawn : s'.drawn = s.drawn
  os : s'.os = s.os
theorem Ste.refl (s : Shared) : Ste s s := ⟨KH.refl _, rfl, rfl, rfl⟩
theorem Ste.trans {a b c : Shared} (h : Ste a b) (k : Ste b c) : Ste a c := ⟨h.kh.trans k.kh, k.gens.trans h.gens, k.drawn.trans h.drawn, k.os.trans h.os⟩
theorem Ste.of {s s' : Shared} (k : Ke s s') : Ste s s' := ⟨KH.of k.1, k.2.1, k.2.2.1, k.2.2.2⟩
theorem Ste.toks {s : Shared} {tk : Nat} : Ste s { s with toks := tk } := ⟨KH.refl _, rfl, rfl, rfl⟩
/-- the law's frame and cells -/
structure LI (h₀ : Heap) (L : Addr) (s : Shared) (m : Str → Option Value) (c : Nat → Option Value) : Prop where
  F : Fr h₀ L s.heap m
  H : Hid m
  cells : ∀ i, 1 ≤ i → i ≤ 5 → s.heap.IsCell (L + i) (c i)
  tab : ∃ op ps, s.heap.get? 52 = some op ∧ op.data = .fields ps
def upd (m : Str → Option Value) (x : Str) (v : Value) : Str → Option Value := fun y => if y = x then some v else m y
theorem upd_ne {m : Str → Option Value} {x y : Str} {v : Value} (h : y ≠ x) : upd m x v y = m y := if_neg h
theorem upd_eq {m : Str → Option Value} {x : Str} {v : Value} : upd m x v x = some v := if_pos rfl
def updC (c : Nat → Option Value) (i : Nat) (v : Value) : Nat → Option Value := fun j => if j = i then some v else c j
theorem LI.ke {h₀ : Heap} {L : Addr} {s s' : Shared} {m : Str → Option Value} {c : Nat → Option Value} (I : LI h₀ L s m c) (k : Ke s s') : LI h₀ L s' m c :=
  ⟨fr_ke k I.F, I.H, fun i h1 h2 => (I.cells i h1 h2).keeps k.1, let ⟨op, ps, a, b⟩ := I.tab; ⟨op, ps, k.1 _ _ a, b⟩⟩
theorem LI.toks {h₀ : Heap} {L : Addr} {s : Shared} {m : Str → Option Value} {c : Nat → Option Value} {tk : Nat} (I : LI h₀ L s m c) : LI h₀ L { s with toks := tk } m c := ⟨I.F, I.H, I.cells, I.tab⟩
theorem LI.news {h₀ : Heap} {L : Addr} {s : Shared} {m : Str → Option Value} {c : Nat → Option Value} (I : LI h₀ L s m c) :
    ∃ o1 o2 o3 o4 o5, News h₀ L s.heap [(L + 1, o1), (L + 2, o2), (L + 3, o3), (L + 4, o4), (L + 5, o5)] ∧ o1.data = .cell (c 1) ∧ o2.data = .cell (c 2) ∧ o3.data = .cell (c 3) ∧ o4.data = .cell (c 4) ∧ o5.data = .cell (c 5) := by
  obtain ⟨o1, g1, d1⟩ := I.cells 1 (by decide) (by decide)
  obtain ⟨o2, g2, d2⟩ := I.cells 2 (by decide) (by decide)
  obtain ⟨o3, g3, d3⟩ := I.cells 3 (by decide) (by decide)
  obtain ⟨o4, g4, d4⟩ := I.cells 4 (by decide) (by decide)
  obtain ⟨o5, g5, d5⟩ := I.cells 5 (by decide) (by decide)
  have nb : ∀ i, h₀.get? (L + i) = none := fun i => by
    cases q : h₀.get? (L + i) with
    | none => rfl
    | some o => exact absurd (Heap.lt_size q) (Nat.not_lt.mpr (Nat.le_trans I.F.above (Nat.le_add_right _ _)))
  have ne : ∀ i, 1 ≤ i → L + i ≠ L := fun i h => ne_add h
  refine ⟨o1, o2, o3, o4, o5, fun p hp => ?_, d1, d2, d3, d4, d5⟩
  simp only [List.mem_cons, List.not_mem_nil, or_false] at hp
  rcases hp with rfl | rfl | rfl | rfl | rfl
  · exact ⟨g1, ne _ (by decide), nb _⟩
  · exact ⟨g2, ne _ (by decide), nb _⟩
  · exact ⟨g3, ne _ (by decide), nb _⟩
  · exact ⟨g4, ne _ (by decide), nb _⟩
  · exact ⟨g5, ne _ (by decide), nb _⟩
theorem tab_kh {h h' : Heap} (k : KH h h') (x : ∃ op ps, h.get? 52 = some op ∧ op.data = .fields ps) : ∃ op ps, h'.get? 52 = some op ∧ op.data = .fields ps := by
  obtain ⟨op, ps, a, b⟩ := x
  exact ⟨op, ps, k _ _ (.of (fun v e => by rw [b] at e; cases e) (fun _ _ e => by rw [b] at e; cases e)) a, b⟩
theorem LI.of {h₀ : Heap} {L : Addr} {s : Shared} {m : Str → Option Value} {c : Nat → Option Value} {o1 o2 o3 o4 o5 : Obj} (F : Fr h₀ L s.heap m) (H : Hid m) {more : List (Addr × Obj)}
    (N : News h₀ L s.heap (more ++ [(L + 1, o1), (L + 2, o2), (L + 3, o3), (L + 4, o4), (L + 5, o5)])) (d1 : o1.data = .cell (c 1)) (d2 : o2.data = .cell (c 2)) (d3 : o3.data = .cell (c 3)) (d4 : o4.data = .cell (c 4)) (d5 : o5.data = .cell (c 5)) (ht : ∃ op ps, s.heap.get? 52 = some op ∧ op.data = .fields ps) : LI h₀ L s m c := by
  have N' : News h₀ L s.heap [(L + 1, o1), (L + 2, o2), (L + 3, o3), (L + 4, o4), (L + 5, o5)] := fun p hp => N p (List.mem_append_right _ hp)
  refine ⟨F, H, fun i h1 h2 => ?_, ht⟩
  have hi := five h1 h2
  rcases hi with rfl | rfl | rfl | rfl | rfl
  · exact ⟨o1, (N' _ (.head _)).1, d1⟩
  · exact ⟨o2, (N' _ (.tail _ (.head _))).1, d2⟩
  · exact ⟨o3, (N' _ (.tail _ (.tail _ (.head _)))).1, d3⟩
  · exact ⟨o4, (N' _ (.tail _ (.tail _ (.tail _ (.head _))))).1, d4⟩
  · exact ⟨o5, (N' _ (.tail _ (.tail _ (.tail _ (.tail _ (.head _)))))).1, d5⟩
section
variable {prog : Program} {w : World} {A : Around} {E : Value → Shared → Prop} {s : Shared} {h₀ : Heap} {L : Addr} {m : Str → Option Value} {c : Nat → Option Value} {env : Env}
theorem LI.store_l {x : Str} {v : Value} {Q : Unit → Shared → Prop} (I : LI h₀ L s m c) (hLe : env.locals = L) (hx : env.kindOf x = some .local) (hf : Free x) (hp : (env.scope.kind == .class || (env.scope.kind == .module && env.locals != env.globals)) = false)
    (h : ∀ s', LI h₀ L s' (upd m x v) c → Ste s s' → Q () s') : wpAny (model prog w) A (storeName env x v) Q E s := by
  subst hLe
  refine wpAny_storeName_local hx I.F.ns (fun h₂ hns hs => ?_) hp
  refine h _ ⟨I.F.set hns hs, I.H.set hf.1 hf.2.1 hf.2.2.1 hf.2.2.2, fun i h1 h2 => (I.cells i h1 h2).sameBut hs (ne_add h1), tab_kh (KH.store I.F.ns I.H hs) I.tab⟩ ⟨KH.store I.F.ns I.H hs, rfl, rfl, rfl⟩
theorem LI.store_c {x : Str} {v : Value} {i : Nat} {Q : Unit → Shared → Prop} (I : LI h₀ L s m c) (h1 : 1 ≤ i) (h5 : i ≤ 5) (hk : env.scope.kind = .function) (hl : env.kindOf x = some .cell) (hc : env.cells.lookup x = some (L + i))
    (h : ∀ s', LI h₀ L s' m (updC c i v) → Ste s s' → Q () s') : wpAny (model prog w) A (storeName env x v) Q E s := by
  have hv := I.cells i h1 h5
  refine wpAny_storeName_cell hk hl hc hv fun h' hv' hs => ?_
  have nb : ∀ b o, h₀.get? b = some o → b ≠ L + i := fun b o e => lt_ne (Heap.lt_size e) I.F.above
  refine h _ ⟨⟨I.F.ns.sameBut hs (Ne.symm (ne_add h1)), fun b o e => (hs.2 b (nb b o e)).trans (I.F.keep b o e), I.F.above⟩, I.H, fun j j1 j5 => ?_, tab_kh (KH.cellAt hv hs) I.tab⟩ ⟨KH.cellAt hv hs, rfl, rfl, rfl⟩
  show h'.IsCell (L + j) (if j = i then some v else c j)
  by_cases q : j = i
  · rw [if_pos q, q]; exact hv'
  · rw [if_neg q]; exact (I.cells j j1 j5).sameBut hs (add_ne q)
end
noncomputable abbrev lawEnv (w : World) (L : Addr) : Env := envX "law" (lawScope w.params) L 528 (lawCode w.params) (lawCl L)
/-- one statement of the law, under a name that does not unfold -/
structure Ex (prog : Program) (w : World) (A : Around) (L : Addr) (i : Nat) (Q : Flow → Shared → Prop) (s : Shared) : Prop where
  go : wpAny (model prog w) A (exec (st i w.params) (lawEnv w L)) Q (fun _ _ => False) s
structure Exs (prog : Program) (w : World) (A : Around) (L : Addr) (is : List Nat) (Q : Flow → Shared → Prop) (s : Shared) : Prop where
  go : wpAny (model prog w) A (execs (is.map fun i => st i w.params) (lawEnv w L)) Q (fun _ _ => False) s
theorem Exs.cons {prog : Program} {w : World} {A : Around} {L : Addr} {i : Nat} {is : List Nat} {Q : Flow → Shared → Prop} {s : Shared}
    (h : Ex prog w A L i (fun f s' => match f with | .next => Exs prog w A L is Q s' | f => Q f s') s) : Exs prog w A L (i :: is) Q s := by
  refine Exs.mk ?_
  show wpAny _ _ (execs (st i w.params :: is.map fun i => st i w.params) _) _ _ _
  have h1 := h.go
  refine wpAny_execs_cons (wpAny_mono h1 (fun f s' k => ?_) fun _ _ e => e)
  cases f
  case next => exact Exs.go k
  all_goals exact k
end
section
local macro_rules | `(tactic| walk_at "storeName") => `(tactic| refine Stopped.go ?_)
local macro_rules | `(tactic| walk_at "call ref") => `(tactic| ((with_reducible show wpAny _ _ (call (Value.ref 523) _) _ _ _); refine Stopped.go ?_))
/-- the law's numbers -/
def NosAt (h : Heap) (l : Addr) (ns : Nat → Int) : Prop := ∃ items, h.IsList l items ∧ items.size = 14 ∧ ∀ (i : Nat) v, items[i]? = some v → ∃ t, v = .int (ns i) t
theorem NosAt.kh {h h' : Heap} {l : Addr} {ns : Nat → Int} (N : NosAt h l ns) (k : KH h h') : NosAt h' l ns := by
  obtain ⟨items, ⟨o, ho, hc, n, hd⟩, hi⟩ := N
  exact ⟨items, ⟨o, k _ _ (.of (fun v e => by rw [hd] at e; cases e) (fun _ _ e => by rw [hd] at e; cases e)) ho, hc, n, hd⟩, hi⟩
section
variable {prog : Program} {w : World} {A : Around} {E : Value → Shared → Prop} {s : Shared} {h₀ : Heap} {L : Addr} {m : Str → Option Value} {c : Nat → Option Value} {p : Program} {loose : List Str} {mg mb : Str → Option Value} {Q : Flow → Shared → Prop}
theorem nos_get {l : Addr} {ns : Nat → Int} {i : Nat} {t : Tok} {Q : Value → Shared → Prop} (N : NosAt s.heap l ns) (hi : i < 14) (h : ∀ t, Q (.int (ns i) t) s) : wpAny (model prog w) A (getItem (.ref l) (.int (i : Nat) t)) Q E s := by
  obtain ⟨items, hl, hz, hv⟩ := N
  have hx : items[i]? = some items[i] := Array.getElem?_eq_getElem (by omega)
  obtain ⟨u, hu⟩ := hv i _ hx
  exact wpAny_getItem_list hl (by omega) (by omega) (by simpa using hx) (hu ▸ h u)
theorem nos_sub {l : Addr} {ns : Nat → Int} {i : Int} {t : Tok} {value slice : Expr} {Q : Value → Shared → Prop} (N : NosAt s.heap l ns) (h0 : 0 ≤ i) (hi : i < 14) (h : ∀ t, Q (.int (ns i.toNat) t) s)
    (hs : subscripted slice false (.ref l) (.int i t) = operate [.ref l, .int i t] (getItem (.ref l) (.int i t)) := by with_unfolding_all rfl) (hg : ∀ r, letTemporaryGo value (.ref l) r = pure () := by intro _; with_unfolding_all rfl) : wpAny (model prog w) A (subscriptTail value slice (.ref l) (.int i t)) Q E s := by
  have N' := N
  obtain ⟨items, hl, _⟩ := N'
  refine subscriptTail_builtin hl.typeIs slot_list_getitem.lookup ?_ hs hg
  rw [show i = ((i.toNat : Nat) : Int) by omega]
  exact nos_get N (by omega) h
theorem nums_sub {l : Addr} {z : Nat → Int} {n c : Nat} {t : Tok} {value slice : Expr} {Q : Value → Shared → Prop} (N : NumsAt s.heap l z n) (hc : c < n) (hn : n < 1000) (h : ∀ v, NumAt s.heap v (z c) → Q v s)
    (hs : subscripted slice false (.ref l) (.int (c : Nat) t) = operate [.ref l, .int (c : Nat) t] (getItem (.ref l) (.int (c : Nat) t)) := by with_unfolding_all rfl) (hg : ∀ r, letTemporaryGo value (.ref l) r = pure () := by intro _; with_unfolding_all rfl) : wpAny (model prog w) A (subscriptTail value slice (.ref l) (.int (c : Nat) t)) Q E s := by
  have N' := N
  obtain ⟨items, hl, _⟩ := N'
  exact subscriptTail_builtin hl.typeIs slot_list_getitem.lookup (nums_get N hc hn h) hs hg
local macro_rules | `(tactic| walk_at "subscriptTail") => `(tactic| ((with_reducible show wpAny _ _ (subscriptTail _ _ (Value.ref _) (Value.int _ _)) _ _ _); (refine nos_sub (by assumption) (by decide) (by decide) ?_); intro _))
theorem law_st6 {ns : Nat → Int} {ln : Addr} {n : Nat} {tn : Tok} (hn : n ≤ 4) (X : (Mine.hd.heap_39 w.params).In h₀) (T : TopRead p loose mg mb h₀) (hA : Room A 40) (I : LI h₀ L s m c)
    (m1 : m "numbers" = some (.ref ln)) (m2 : m "cands" = some (.int n tn)) (N : NosAt s.heap ln ns)
    (k : ∀ l s', LI h₀ L s' m (updC c 1 (.ref l)) → Ste s s' → NatsAt s'.heap l ((List.range n).filter (bit (ns 2))) → Q .next s') :
    Ex prog w A L 6 Q s := by
  refine Ex.mk ?_
  conv in (st _ _) => whnf
  unfold lawEnv
  conv in (lawScope _) => whnf
  obtain ⟨o1, o2, o3, o4, o5, N1, d1, d2, d3, d4, d5⟩ := I.news
  have F1 := fr_know (x := "cands") (fr_know I.F m1) (v := .int n tn) m2
  obtain ⟨h, g, d, t, os⟩ := s
  dsimp only at F1 N1 ⊢
  k_steps
  refine Stopped.on (wpAny_call (law_cands hn (X.keeps F1.keep) (T.keeps F1.keep) (by walk_at "my room") fun l s1 hk1 hl1 hN1 => ?_))
  dsimp only
  have I1 := I.ke hk1
  k_steps
  refine Stopped.on (I1.store_c (i := 1) (by decide) (by decide) rfl rfl rfl fun s' I' hs => k l s' I' (Ste.trans (.of hk1) hs) (hN1.kh hs.kh))
theorem law_st8 {ns : Nat → Int} {ln : Addr} {n : Nat} {tn : Tok} (hn : n ≤ 4) (X : (Mine.hd.heap_39 w.params).In h₀) (T : TopRead p loose mg mb h₀) (hA : Room A 40) (I : LI h₀ L s m c)
    (m1 : m "numbers" = some (.ref ln)) (m2 : m "cands" = some (.int n tn)) (N : NosAt s.heap ln ns)
    (k : ∀ l s', LI h₀ L s' m (updC c 3 (.ref l)) → Ste s s' → NatsAt s'.heap l ((List.range n).filter (bit (ns 4))) → Q .next s') :
    Ex prog w A L 8 Q s := by
  refine Ex.mk ?_
  conv in (st _ _) => whnf
  unfold lawEnv
  conv in (lawScope _) => whnf
  obtain ⟨o1, o2, o3, o4, o5, N1, d1, d2, d3, d4, d5⟩ := I.news
  have F1 := fr_know (x := "cands") (fr_know I.F m1) (v := .int n tn) m2
  obtain ⟨h, g, d, t, os⟩ := s
  dsimp only at F1 N1 ⊢
  k_steps
  refine Stopped.on (wpAny_call (law_cands hn (X.keeps F1.keep) (T.keeps F1.keep) (by walk_at "my room") fun l s1 hk1 hl1 hN1 => ?_))
  dsimp only
  have I1 := I.ke hk1
  k_steps
  refine Stopped.on (I1.store_c (i := 3) (by decide) (by decide) rfl rfl rfl fun s' I' hs => k l s' I' (Ste.trans (.of hk1) hs) (hN1.kh hs.kh))
theorem ints_filter {pz : Nat → Bool} (p : Value → Bool) (hp : ∀ (c : Nat) t, p (.int (c : Int) t) = pz c) : ∀ {cs : List Nat} {vs : List Value}, IntsAre vs (cs.map fun (c : Nat) => (c : Int)) → IntsAre (vs.filter p) ((cs.filter pz).map fun (c : Nat) => (c : Int))
  | [], _, h => by cases h; exact .nil
  | c :: cs, _, h => by
    cases h with
    | cons _ t h =>
      rw [List.filter_cons, List.filter_cons, hp]
      cases pz c with
      | true => exact .cons _ _ (ints_filter p hp h)
      | false => exact ints_filter p hp h
def natP (pz : Nat → Bool) : Value → Bool
  | .int c _ => pz c.toNat
  | _ => false
theorem natP_nat {pz : Nat → Bool} (c : Nat) (t : Tok) : natP pz (.int (c : Int) t) = pz c := by show pz ((c : Int).toNat) = _; rw [Int.toNat_natCast]
/-- a comprehension over a list of small ints -/
theorem comp_nats {env : Env} {iter : Expr} {x : Str} {px pe : Pos} {ifs : List Expr} {scope : Scope} {cl : List (Str × Addr)} {pos : Pos} {Q : Value → Shared → Prop} {cs : List Nat} (pz : Nat → Bool) (hcs : ∀ c ∈ cs, c < 4) (hlen : cs.length ≤ 10) (ht : ∃ op ps, s.heap.get? 52 = some op ∧ op.data = .fields ps)
    (hclos : closureFor scope env = pure cl) (hcell : ∀ y ∈ scope.names, y.2 ≠ .cell) (hkind : scope.kind = .function)
    (hnames : ∀ y ∈ scope.names, y.2 = .local → scope.names.lookup y.1 = some .local) (hx : scope.names.lookup x = some .local) (hh : A.handled = none)
    (hev : wpAny (model prog w) A (eval iter env) (fun xv s₁ => Stopped (∃ l, xv = .ref l ∧ NatsAt s₁.heap l cs ∧ Ke s s₁)) E s)
    (htest : ∀ C i t (s₃ : Shared) m₃ E', i ∈ cs → s₃.heap.Ns C m₃ → m₃ x = some (.int (i : Nat) t) → (∀ b o, s.heap.get? b = some o → s₃.heap.get? b = some o) →
        wpAny (model prog w) A (forIn ifs true fun c r => if r = true then do let ok ← isTrue c (compEnvC scope cl C env) (eval c (compEnvC scope cl C env)); pure (ForInStep.yield ok) else pure (ForInStep.yield r))
          (fun ok s₄ => ok = pz i ∧ Keeps s₃ s₄) E' s₃)
    (hQ : ∀ D s', s.heap.get? D = none → NatsAt s'.heap D (cs.filter pz) → Ke s s' → Q (.ref D) s')
    (hs : ∀ x, foldedSetIterable iter env x = pure x := by intro _; rfl) (hd : (x == ("__debug__" : Str)) = false := by decide) :
    wpAny (model prog w) A (eval (.ListComp (.Name x pe) [⟨.Name x px, iter, ifs, 0⟩] scope pos) env) Q E s := by
  refine comp_iters (natP pz) (fun v y => y = v) hclos hcell hkind hnames hx hh (wpAny_mono hev (fun xv s₁ h₁ => ?_) fun _ _ e => e) hs
  obtain ⟨l, rfl, ⟨items, hl, hi⟩, hk⟩ := Stopped.go h₁
  obtain ⟨op, ps, h52, hps⟩ := ht
  have hz : items.size = cs.length := by simpa using hi.length
  have hl2 := hl
  obtain ⟨ol, hol, _, nl, hdl⟩ := hl2
  have hin : ∀ (i : Nat) v, items[i]? = some v → ∃ c ∈ cs, ∃ t, v = Value.int (c : Nat) t := fun i v hv => by
    obtain ⟨n, t, e, hn⟩ := hi.at i v (by simpa using hv)
    rw [List.getElem?_map] at hn
    cases q : cs[i]? with
    | none => rw [q] at hn; cases hn
    | some c =>
      rw [q] at hn
      cases hn
      exact ⟨c, List.mem_of_getElem? q, t, e⟩
  refine ⟨items.size, fun i v => items[i]? = some v, by omega, iters_list hl (fun q => ?_) (Heap.lt_size (hk.1 _ _ h52)), ?_, ?_, ?_⟩
  · rw [q, hk.1 _ _ h52] at hol
    cases hol
    rw [hps] at hdl
    cases hdl
  · intro C i v s₃ m₃ E' hv hns hm kk
    obtain ⟨c, hc, t, rfl⟩ := hin i v hv
    rw [natP_nat]
    exact htest C c t s₃ m₃ E' hc hns hm fun b o e => kk b o (hk.1 _ _ e)
  · intro C i v s₃ m₃ E' hv hp hns hm kk
    exact wpAny_Name (wpAny_loadName_local hkind (show (compEnvC scope cl C env).kindOf x = _ from (lookup_relabel_local hx)) hns hm ⟨rfl, s₃.heap, s₃.toks, rfl, fun _ _ e => e⟩) hd
  · intro D h' tk ys vs hD hys hlen' hvs hP kk
    refine hQ D _ ?_ ⟨ys, hys, ?_⟩ (.trans hk (.of kk))
    · cases q : s.heap.get? D with
      | none => rfl
      | some o => rw [hk.1 _ _ q] at hD; cases hD
    · rw [paired_eq hP]
      have : vs = items.toList := by
        refine List.ext_getElem? fun j => ?_
        rw [show items.toList[j]? = items[j]? from by simp]
        cases q : vs[j]? with
        | none =>
          have := List.getElem?_eq_none_iff.mp q
          exact (Array.getElem?_eq_none (by omega)).symm
        | some v => exact (hvs j v q).symm
      subst this
      exact ints_filter _ natP_nat hi
/-- … stored under a local name -/
theorem assign_comp {env : Env} {iter : Expr} {x y : Str} {px py pe : Pos} {ifs : List Expr} {scope : Scope} {cl : List (Str × Addr)} {pos spos : Pos} {Q : Flow → Shared → Prop} {cs : List Nat} (pz : Nat → Bool) (I : LI h₀ L s m c) (hLe : env.locals = L) (hf : Free y) (hcs : cs.length ≤ 10)
    (hsw : swapsWith (.ListComp (.Name x pe) [⟨.Name x px, iter, ifs, 0⟩] scope pos) (some (.Name y py)) spos.line env = pure true)
    (hclos : closureFor scope env = pure cl) (hcell : ∀ y ∈ scope.names, y.2 ≠ .cell) (hkind : scope.kind = .function)
    (hnames : ∀ y ∈ scope.names, y.2 = .local → scope.names.lookup y.1 = some .local) (hx : scope.names.lookup x = some .local) (hy : env.kindOf y = some .local) (hp : (env.scope.kind == .class || (env.scope.kind == .module && env.locals != env.globals)) = false) (hh : A.handled = none)
    (hev : wpAny (model prog w) A (eval iter env) (fun xv s₁ => Stopped (∃ l, xv = .ref l ∧ NatsAt s₁.heap l cs ∧ Ke s s₁)) E s)
    (htest : ∀ C i t (s₃ : Shared) m₃ E', i ∈ cs → s₃.heap.Ns C m₃ → m₃ x = some (.int (i : Nat) t) → (∀ b o, s.heap.get? b = some o → s₃.heap.get? b = some o) →
        wpAny (model prog w) A (forIn ifs true fun c r => if r = true then do let ok ← isTrue c (compEnvC scope cl C env) (eval c (compEnvC scope cl C env)); pure (ForInStep.yield ok) else pure (ForInStep.yield r))
          (fun ok s₄ => ok = pz i ∧ Keeps s₃ s₄) E' s₃)
    (hQ : ∀ D s', LI h₀ L s' (upd m y (.ref D)) c → Ste s s' → NatsAt s'.heap D (cs.filter pz) → Q .next s')
    (hs : ∀ x, foldedSetIterable iter env x = pure x := by intro _; rfl) (hd : (x == ("__debug__" : Str)) = false := by decide) :
    wpAny (model prog w) A (exec (.Assign [.Name y py] (.ListComp (.Name x pe) [⟨.Name x px, iter, ifs, 0⟩] scope pos) spos) env) Q E s := by
  subst hLe
  refine wpAny_Assign_ListComp_free (natP pz) (fun v y => y = v) hsw hclos hcell hkind hnames hx hy hp (wpAny_mono hev (fun xv s₁ h₁ => ?_) fun _ _ e => e) hs
  obtain ⟨l, rfl, ⟨items, hl, hi⟩, hk⟩ := Stopped.go h₁
  obtain ⟨op, ps, h52, hps⟩ := I.tab
  have hz : items.size = cs.length := by simpa using hi.length
  have hl2 := hl
  obtain ⟨ol, hol, _, nl, hdl⟩ := hl2
  have hin : ∀ (i : Nat) v, items[i]? = some v → ∃ c ∈ cs, ∃ t, v = Value.int (c : Nat) t := fun i v hv => by
    obtain ⟨n, t, e, hn⟩ := hi.at i v (by simpa using hv)
    rw [List.getElem?_map] at hn
    cases q : cs[i]? with
    | none => rw [q] at hn; cases hn
    | some c =>
      rw [q] at hn
      cases hn
      exact ⟨c, List.mem_of_getElem? q, t, e⟩
  refine iters_list hl (fun q => ?_) (Heap.lt_size (hk.1 _ _ h52)) _ _ fun I' fp St h₁ k1 hI W hst hfp _ _ => ?_
  · rw [q, hk.1 _ _ h52] at hol
    cases hol
    rw [hps] at hdl
    cases hdl
  have I1 := I.ke hk
  have Ns1 := I1.F.ns.keeps k1
  have hLI : env.locals ≠ I' := fun q => by obtain ⟨oL, _, _, hL, _⟩ := I1.F.ns; rw [q, hI] at hL; cases hL
  have ks : ∀ b o, s.heap.get? b = some o → h₁.get? b = some o := fun b o e => k1 _ _ (hk.1 _ _ e)
  have kn : ∀ b o, s.heap.get? b = some o → b ≠ I' := fun b o e q => by have := hk.1 _ _ e; rw [q, hI] at this; cases this
  refine ⟨I', fp, [I'], items.size, fun i v => items[i]? = some v, St, m, rfl, W A hh, by rw [sizeLine_eq]; omega, hst, fun b hb => by obtain ⟨o, e⟩ := hfp b hb; exact Heap.lt_size e, by simpa using hLI, Ns1, ?_, ?_⟩
  · refine ⟨fun C i v s₃ m₃ E' _ hP hns hm kk _ => ?_, fun C i v s₃ m₃ E' _ hP hp hns hm kk _ => ?_⟩
    · obtain ⟨c, hc, t, rfl⟩ := hin i v hP
      rw [natP_nat]
      exact htest C c t s₃ m₃ E' hc hns hm fun b o e => kk b o (by simpa using kn b o e) (ks b o e)
    · exact wpAny_Name (wpAny_loadName_local hkind (show (compEnvC scope cl C env).kindOf x = _ from (lookup_relabel_local hx)) hns hm ⟨rfl, s₃.heap, s₃.toks, rfl, fun _ _ e => e⟩) hd
  · intro D h' tk ys vs hD hys _ hlen' hvs hP hns' kk
    have kk' : ∀ b o, b ≠ env.locals → s.heap.get? b = some o → h'.get? b = some o := fun b o n e => kk b o n (by simpa using kn b o e) (ks b o e)
    have kh : KH s.heap h' := KH.frame I.F.ns I.H kk'
    have hbL : ∀ b o, h₀.get? b = some o → b ≠ env.locals := fun b o e => Nat.ne_of_lt (Nat.lt_of_lt_of_le (Heap.lt_size e) I.F.above)
    refine hQ D _ ⟨⟨hns', fun b o e => kk' b o (hbL b o e) (I.F.keep b o e), I.F.above⟩, I.H.set hf.1 hf.2.1 hf.2.2.1 hf.2.2.2, fun i h1 h2 => ?_, tab_kh kh I.tab⟩ ⟨kh, hk.2.1, hk.2.2.1, hk.2.2.2⟩ ⟨ys, hys, ?_⟩
    · obtain ⟨oc, hc, hd⟩ := I.cells i h1 h2
      exact ⟨oc, kk' _ _ (ne_add h1) hc, hd⟩
    · rw [paired_eq hP]
      have : vs = items.toList := by
        refine List.ext_getElem? fun j => ?_
        rw [show items.toList[j]? = items[j]? from by simp]
        cases q : vs[j]? with
        | none =>
          have := List.getElem?_eq_none_iff.mp q
          exact (Array.getElem?_eq_none (by omega)).symm
        | some v => exact (hvs j v q).symm
      subst this
      exact ints_filter _ natP_nat hi
end
end
section
local macro_rules | `(tactic| walk_at "storeName") => `(tactic| refine Stopped.go ?_)
local macro_rules | `(tactic| walk_at "call ref") => `(tactic| ((with_reducible show wpAny _ _ (call (Value.ref 523) _) _ _ _); refine Stopped.go ?_))
local macro_rules | `(tactic| walk_at "call ref") => `(tactic| ((with_reducible show wpAny _ _ (call (Value.ref 334) _) _ _ _); refine Stopped.go ?_))
local macro_rules | `(tactic| walk_at "call ref") => `(tactic| ((with_reducible show wpAny _ _ (call (Value.ref 341) _) _ _ _); refine Stopped.go ?_))
local macro_rules | `(tactic| walk_at "call ref") => `(tactic| ((with_reducible show wpAny _ _ (call (Value.ref 278) _) _ _ _); refine Stopped.go ?_))
local macro_rules | `(tactic| walk_at "call ref") => `(tactic| ((with_reducible show wpAny _ _ (call (Value.ref 271) _) _ _ _); refine Stopped.go ?_))
local macro_rules | `(tactic| walk_at "newTuple") => `(tactic| refine Stopped.go ?_)
local macro_rules | `(tactic| walk_at "eval ListComp") => `(tactic| refine Stopped.go ?_)
local macro_rules | `(tactic| walk_at "subscriptTail") => `(tactic| ((with_reducible show wpAny _ _ (subscriptTail _ _ (Value.ref _) (Value.int _ _)) _ _ _); (refine nos_sub (by assumption) (by decide) (by decide) ?_); intro _))
section
variable {prog : Program} {w : World} {A : Around} {E : Value → Shared → Prop} {s : Shared} {h₀ : Heap} {L : Addr} {m : Str → Option Value} {c : Nat → Option Value} {p : Program} {loose : List Str} {mg mb : Str → Option Value} {Q : Flow → Shared → Prop}
theorem range_lt {n : Nat} {f : Nat → Bool} (hn : n ≤ 4) : ∀ x ∈ (List.range n).filter f, x < 4 := fun x hx => by
  have := List.mem_range.mp (List.mem_filter.mp hx).1
  omega
theorem range_len {n : Nat} {f : Nat → Bool} (hn : n ≤ 4) : ((List.range n).filter f).length ≤ 10 := by
  have := List.length_filter_le f (List.range n)
  rw [List.length_range] at this
  omega
theorem law_st7 {ns : Nat → Int} {ln lg : Addr} {n : Nat} {tn : Tok} {gs : List Nat} (hn : n ≤ 4) (X : (Mine.hd.heap_39 w.params).In h₀) (T : TopRead p loose mg mb h₀) (hA : Room A 40) (I : LI h₀ L s m c)
    (m1 : m "numbers" = some (.ref ln)) (m2 : m "cands" = some (.int n tn)) (N : NosAt s.heap ln ns) (c1 : c 1 = some (.ref lg)) (hg : NatsAt s.heap lg gs)
    (k : ∀ l s', LI h₀ L s' (upd m "part" (.ref l)) c → Ste s s' → NatsAt s'.heap l (((List.range n).filter (bit (ns 3))).filter fun x => decide (x ∈ gs)) → Q .next s') :
    Ex prog w A L 7 Q s := by
  refine Ex.mk ?_
  conv in (st _ _) => whnf
  unfold lawEnv
  conv in (lawScope _) => whnf
  obtain ⟨o1, o2, o3, o4, o5, N1, d1, d2, d3, d4, d5⟩ := I.news
  have F1 := fr_know (x := "cands") (fr_know I.F m1) (v := .int n tn) m2
  obtain ⟨h, g, d, t, os⟩ := s
  dsimp only at F1 N1 ⊢
  refine assign_comp (cl := [("great", L + 1)]) (cs := (List.range n).filter (bit (ns 3))) (fun x => decide (x ∈ gs)) I rfl (by unfold Free; decide) (range_len hn) (by rfl) rfl (by decide) rfl (by decide) rfl rfl rfl (Room.handled (n := 0) (by walk_at "my room")) ?ev ?test ?fin
  case ev =>
    k_steps
    refine Stopped.on (wpAny_call (law_cands hn (X.keeps F1.keep) (T.keeps F1.keep) (by walk_at "my room") fun l s1 hk1 hl1 hN1 => ?_))
    exact Stopped.on ⟨l, rfl, hN1, hk1⟩
  case test =>
    intro C i t' s₃ m₃ E' hi hns hm hk3
    rw [List.forIn_cons]
    simp only [if_true]
    refine wpAny_bind (wpAny_bind (wpAny_isTrue_Compare1 (wpAny_Name (wpAny_loadName_local rfl rfl hns hm (wpAny_Name (wpAny_loadName_cell rfl rfl rfl ⟨o1, hk3 _ _ (N1 _ (.head _)).1, d1.trans (congrArg _ c1)⟩ (in_nats (hg.keep hk3) (wpAny_truthy_bool ?_))))))))
    refine wpAny_pure ?_
    dsimp only
    rw [List.forIn_nil]
    exact wpAny_pure ⟨rfl, s₃.heap, _, rfl, fun _ _ e => e⟩
  case fin =>
    intro D s1 I1 hs1 hN
    exact k D s1 I1 hs1 hN
/-- what the law has built -/
structure Built (w : World) (h : Heap) (q n : Nat) (sv : Value) (pr lv : Addr) (V : List (Int × List Nat)) : Prop where
  q7 : q < 7
  n2 : 2 ≤ n
  n4 : n ≤ 4
  S : StepAt h q sv
  P : ProfAt h pr n lv
  VV : VotersAt w h lv V
  hV : VOk V
  hVn : ∀ p ∈ V, ∀ c ∈ p.2, c < n
theorem Built.kh {w : World} {h h' : Heap} {q n : Nat} {sv : Value} {pr lv : Addr} {V : List (Int × List Nat)} (B : Built w h q n sv pr lv V) (k : KH h h') : Built w h' q n sv pr lv V :=
  ⟨B.q7, B.n2, B.n4, B.S.kh k, B.P.kh k, B.VV.kh k, B.hV, B.hVn⟩
structure Com (n : Nat) (cs : List Nat) : Prop where
  lt : ∀ c ∈ cs, c < n
  len : cs.length ≤ 10
theorem law_st10 {q n : Nat} {sv : Value} {pr lv lg : Addr} {V : List (Int × List Nat)} {gs : List Nat} (X : (Mine.hd.heap_39 w.params).In h₀) (T : TopRead p loose mg mb h₀) (hA : Room A 44) (I : LI h₀ L s m c) (B : Built w s.heap q n sv pr lv V)
    (m1 : m "step" = some sv) (m2 : m "profile" = some (.ref pr)) (c1 : c 1 = some (.ref lg)) (hg : NatsAt s.heap lg gs) (Cg : Com n gs)
    (k : ∀ l s' z, LI h₀ L s' m (updC c 5 (.ref l)) → Ste s s' → NumsAt s'.heap l z n → (∀ c, c < n → c ∈ gs → z c = remV q V gs c) → (∀ c, c < n → c ∉ gs → ∀ c', c' < n → c' ∈ gs → remV q V gs c' < z c) → Q .next s') :
    Ex prog w A L 10 Q s := by
  refine Ex.mk ?_
  conv in (st _ _) => whnf
  unfold lawEnv
  conv in (lawScope _) => whnf
  obtain ⟨o1, o2, o3, o4, o5, N1, d1, d2, d3, d4, d5⟩ := I.news
  rw [c1] at d1
  obtain ⟨sa, rfl⟩ := B.S.ref
  have F1 := fr_know (x := "profile") (fr_know I.F m1) (v := .ref pr) m2
  obtain ⟨h, g, d, t, os⟩ := s
  dsimp only at F1 N1 ⊢
  k_steps
  refine Stopped.on (wpAny_call (marg_rem (X.keeps F1.keep) (T.keeps F1.keep) (by walk_at "my room") B.S B.P B.n4 B.VV B.hV B.hVn hg Cg.lt Cg.len (by have := B.n2; omega) fun l s1 z hk1 hl1 hN hz1 hz2 => ?_))
  dsimp only
  have I1 := I.ke hk1
  k_steps
  refine Stopped.on (I1.store_c (i := 5) (by decide) (by decide) rfl rfl rfl fun s' I' hs => k l s' z I' (Ste.trans (.of hk1) hs) (hN.kh hs.kh) hz1 hz2)
theorem law_st11 {q n : Nat} {sv : Value} {tq : Tok} {pr lv lg : Addr} {V : List (Int × List Nat)} {gs : List Nat} (X : (Mine.hd.heap_39 w.params).In h₀) (T : TopRead p loose mg mb h₀) (hA : Room A 44) (I : LI h₀ L s m c) (B : Built w s.heap q n sv pr lv V)
    (m1 : m "name" = some (.str (nameQ q) tq)) (m2 : m "profile" = some (.ref pr)) (c1 : c 1 = some (.ref lg)) (hg : NatsAt s.heap lg gs) (Cg : Com n gs)
    (k : ∀ v s', LI h₀ L s' (upd m "score" v) c → Ste s s' → NumAt s'.heap v (scoreV q V gs) → Q .next s') :
    Ex prog w A L 11 Q s := by
  refine Ex.mk ?_
  conv in (st _ _) => whnf
  unfold lawEnv
  conv in (lawScope _) => whnf
  obtain ⟨o1, o2, o3, o4, o5, N1, d1, d2, d3, d4, d5⟩ := I.news
  rw [c1] at d1
  have F1 := fr_know (x := "profile") (fr_know I.F m1) (v := .ref pr) m2
  obtain ⟨h, g, d, t, os⟩ := s
  dsimp only at F1 N1 ⊢
  k_steps
  refine Stopped.on (wpAny_call (thiele (X.keeps F1.keep) (T.keeps F1.keep) (by walk_at "my room") B.q7 B.P B.VV B.hV hg (fun c hc => Nat.lt_of_lt_of_le (Cg.lt c hc) B.n4) Cg.len fun v s1 hk1 hN => ?_))
  dsimp only
  have I1 := I.ke hk1
  k_steps
  refine Stopped.on (I1.store_l (x := "score") rfl rfl (by unfold Free; decide) rfl fun s' I' hs => k v s' I' (Ste.trans (.of hk1) hs) (hN.kh hs.kh))
theorem law_st9 {q n : Nat} {sv : Value} {pr lv lg lp : Addr} {V : List (Int × List Nat)} {gs ps : List Nat} (X : (Mine.hd.heap_39 w.params).In h₀) (T : TopRead p loose mg mb h₀) (hA : Room A 44) (I : LI h₀ L s m c) (B : Built w s.heap q n sv pr lv V)
    (m1 : m "step" = some sv) (m2 : m "profile" = some (.ref pr)) (c1 : c 1 = some (.ref lg)) (hg : NatsAt s.heap lg gs) (Cg : Com n gs) (m3 : m "part" = some (.ref lp)) (hp : NatsAt s.heap lp ps) (Cp : Com n ps)
    (k : ∀ lm ll s', LI h₀ L s' (upd m "more" (.ref lm)) (updC c 4 (.ref ll)) → Ste s s' → NumsAt s'.heap lm (fun c => if c ∈ ps then -45360 else addV q V ps c) n → NumsAt s'.heap ll (fun c => if c ∈ gs then -45360 else addV q V gs c) n → Q .next s') :
    Ex prog w A L 9 Q s := by
  refine Ex.mk ?_
  conv in (st _ _) => whnf
  unfold lawEnv
  conv in (lawScope _) => whnf
  obtain ⟨o1, o2, o3, o4, o5, N1, d1, d2, d3, d4, d5⟩ := I.news
  rw [c1] at d1
  obtain ⟨sa, rfl⟩ := B.S.ref
  have F1 := fr_know (x := "part") (fr_know (x := "profile") (fr_know I.F m1) (v := .ref pr) m2) (v := .ref lp) m3
  obtain ⟨h, g, d, t, os⟩ := s
  dsimp only at F1 N1 ⊢
  k_steps
  refine Stopped.on (wpAny_call (marg_add (X.keeps F1.keep) (T.keeps F1.keep) (by walk_at "my room") B.S B.P B.n4 B.VV B.hV B.hVn hp Cp.lt Cp.len fun lm s1 hk1 hl1 hN1 => ?_))
  dsimp only
  have I1 := I.ke hk1
  have B1 := B.kh (KH.of hk1.1)
  have F2 := fr_ke hk1 F1
  have N2 := news_ke hk1 N1
  have hg1 := hg.keep hk1.1
  clear F1 N1
  obtain ⟨h1, g1, e1, t1, os1⟩ := s1
  dsimp only at F2 N2 I1 B1 hN1 hg1 ⊢
  k_steps
  refine Stopped.on (wpAny_call (marg_add (X.keeps F2.keep) (T.keeps F2.keep) (by walk_at "my room") B1.S B1.P B1.n4 B1.VV B1.hV B1.hVn hg1 Cg.lt Cg.len fun ll s2 hk2 hl2 hN2 => ?_))
  dsimp only
  have I2 := I1.ke hk2
  obtain ⟨h2, g2, e2, t2, os2⟩ := s2
  have F3 := fr_ke hk2 F2
  have N3 := news_ke hk2 N2
  have hN1' := hN1.keep hk2.1
  clear F2 N2
  dsimp only at F3 N3 I2 hN1' hN2 ⊢
  k_steps
  refine Stopped.on (wpAny_newTuple ?_)
  refine assign_Tuple_tuple (items := #[.ref lm, .ref ll]) (Room.handled (n := 0) (by walk_at "my room")) ⟨_, Heap.get?_push_size _ rfl, rfl, _, rfl⟩ rfl rfl fun h3 he => ?_
  have k3 : ∀ b o, h2.get? b = some o → h3.get? b = some o := fun b o e => by
    have e' : (h2.push { cls := .type "tuple", data := .seq [Value.ref lm, Value.ref ll].toArray }).get? b = some o := Heap.get?_push_of_some _ e
    exact he b o (Nat.ne_of_lt (Heap.lt_size e')) e'
  have hk3 : Ke ⟨h2, g2, e2, t2, os2⟩ ⟨h3, g2, e2, t2, os2⟩ := .of k3
  have I3 := I2.ke hk3
  clear F3 N3
  refine wpAny_bind (wpAny_holding (wpAny_assign_Name (I3.store_l (x := "more") rfl rfl (by unfold Free; decide) rfl fun s4 I4 hs4 => ?_)))
  refine wpAny_bind (wpAny_holding (wpAny_assign_Name (I4.store_c (i := 4) (by decide) (by decide) rfl rfl rfl fun s5 I5 hs5 => ?_)))
  have ht : Ste ⟨h2, g2, e2, t2, os2⟩ s5 := (Ste.of hk3).trans (hs4.trans hs5)
  exact wpAny_pure (k lm ll s5 I5 ((Ste.of hk1).trans ((Ste.of hk2).trans ht)) (hN1'.kh ht.kh) (hN2.kh ht.kh))
end
end
section
local macro_rules | `(tactic| walk_at "storeName") => `(tactic| refine Stopped.go ?_)
local macro_rules | `(tactic| walk_at "call ref") => `(tactic| ((with_reducible show wpAny _ _ (call (Value.ref 523) _) _ _ _); refine Stopped.go ?_))
local macro_rules | `(tactic| walk_at "call ref") => `(tactic| ((with_reducible show wpAny _ _ (call (Value.ref 334) _) _ _ _); refine Stopped.go ?_))
local macro_rules | `(tactic| walk_at "call ref") => `(tactic| ((with_reducible show wpAny _ _ (call (Value.ref 341) _) _ _ _); refine Stopped.go ?_))
local macro_rules | `(tactic| walk_at "call ref") => `(tactic| ((with_reducible show wpAny _ _ (call (Value.ref 278) _) _ _ _); refine Stopped.go ?_))
local macro_rules | `(tactic| walk_at "call ref") => `(tactic| ((with_reducible show wpAny _ _ (call (Value.ref 271) _) _ _ _); refine Stopped.go ?_))
local macro_rules | `(tactic| walk_at "newTuple") => `(tactic| refine Stopped.go ?_)
local macro_rules | `(tactic| walk_at "eval ListComp") => `(tactic| refine Stopped.go ?_)
local macro_rules | `(tactic| walk_at "subscriptTail") => `(tactic| ((with_reducible show wpAny _ _ (subscriptTail _ _ (Value.ref _) (Value.int _ _)) _ _ _); (refine nos_sub (by assumption) (by decide) (by decide) ?_); intro _))
local macro_rules | `(tactic| walk_at "call type:set") => `(tactic| refine Stopped.go ?_)
local macro_rules | `(tactic| walk_at "binaryOp BitOr ref ref") => `(tactic| refine Stopped.go ?_)
local macro_rules | `(tactic| walk_at "call builtin:sorted") => `(tactic| refine Stopped.go ?_)
section
variable {prog : Program} {w : World} {A : Around} {E : Value → Shared → Prop} {s : Shared} {h₀ : Heap} {L : Addr} {m : Str → Option Value} {c : Nat → Option Value} {p : Program} {loose : List Str} {mg mb : Str → Option Value} {Q : Flow → Shared → Prop}
theorem law_st5 {q : Nat} {tq : Tok} (hq : q < 7) (X : (Mine.hd.heap_39 w.params).In h₀) (T : TopRead p loose mg mb h₀) (hA : Room A 44) (I : LI h₀ L s m c)
    (m1 : m "name" = some (.str (nameQ q) tq))
    (k : ∀ v s', LI h₀ L s' (upd m "step" v) c → Ste s s' → StepAt s'.heap q v → Q .next s') :
    Ex prog w A L 5 Q s := by
  refine Ex.mk ?_
  conv in (st _ _) => whnf
  unfold lawEnv
  conv in (lawScope _) => whnf
  obtain ⟨o1, o2, o3, o4, o5, N1, d1, d2, d3, d4, d5⟩ := I.news
  have F1 := fr_know I.F m1
  obtain ⟨h, g, d, t, os⟩ := s
  dsimp only at F1 N1 ⊢
  k_steps
  refine Stopped.on (wpAny_call (get_step1 hq (X.keeps F1.keep) (T.keeps F1.keep) (by walk_at "my room") fun v s1 hk1 hS => ?_))
  dsimp only
  have I1 := I.ke hk1
  k_steps
  refine Stopped.on (I1.store_l (x := "step") rfl rfl (by unfold Free; decide) rfl fun s' I' hs => k v s' I' (Ste.trans (.of hk1) hs) (hS.kh hs.kh))
theorem nats_of {out : List Value} {ns : List Int} {A : List Nat} (hi : IntsAre out ns) (hp : ns.Perm (A.map fun (c : Nat) => (c : Int))) : ∃ bs : List Nat, IntsAre out (bs.map fun (c : Nat) => (c : Int)) ∧ bs.Perm A := by
  refine ⟨ns.map Int.toNat, ?_, ?_⟩
  · rw [List.map_map]
    have : ∀ x ∈ ns, ((fun (c : Nat) => (c : Int)) ∘ Int.toNat) x = x := fun x hx => by
      obtain ⟨c, _, rfl⟩ := List.mem_map.mp (hp.mem_iff.mp hx)
      simp
    rw [List.map_congr_left this, List.map_id']
    exact hi
  · have := hp.map Int.toNat
    rw [List.map_map] at this
    rw [show (Int.toNat ∘ fun (c : Nat) => (c : Int)) = id from by funext c; simp, List.map_id] at this
    exact this
theorem law_st13 {n : Nat} {lg lo : Addr} {gs os : List Nat} (hn4 : n ≤ 4) (X : (Mine.hd.heap_39 w.params).In h₀) (T : TopRead p loose mg mb h₀) (hA : Room A 44) (I : LI h₀ L s m c)
    (c1 : c 1 = some (.ref lg)) (hg : NatsAt s.heap lg gs) (Cg : Com n gs) (c3 : c 3 = some (.ref lo)) (ho : NatsAt s.heap lo os) (Co : Com n os)
    (k : ∀ l bs s', LI h₀ L s' (upd m "both" (.ref l)) c → Ste s s' → NatsAt s'.heap l bs → Com n bs → (∀ x, x ∈ bs ↔ x ∈ gs ∨ x ∈ os) → Q .next s') :
    Ex prog w A L 13 Q s := by
  refine Ex.mk ?_
  conv in (st _ _) => whnf
  unfold lawEnv
  conv in (lawScope _) => whnf
  obtain ⟨o1, o2, o3, o4, o5, N1, d1, d2, d3, d4, d5⟩ := I.news
  rw [c1] at d1
  rw [c3] at d3
  have F1 := I.F
  have hg4 : ∀ x ∈ gs, x < 4 := fun x hx => Nat.lt_of_lt_of_le (Cg.lt x hx) hn4
  have ho4 : ∀ x ∈ os, x < 4 := fun x hx => Nat.lt_of_lt_of_le (Co.lt x hx) hn4
  obtain ⟨gi, hgl, hgi⟩ := id hg
  obtain ⟨h, g, d, t, oss⟩ := s
  dsimp only at F1 N1 hgl ⊢
  k_steps
  refine Stopped.on (set_of_list (by walk_at "my room") hgl hgi hg4 fun r1 h1 tk1 k1 hr1 hS1 => ?_)
  dsimp only
  have hk1 : Ke ⟨h, g, d, t, oss⟩ ⟨h1, g, d, tk1, oss⟩ := .of k1
  have F2 := fr_ke hk1 F1
  have N2 := news_ke hk1 N1
  obtain ⟨oi, hol, hoi⟩ := ho.keep k1
  clear F1 N1
  dsimp only at F2 N2 hol ⊢
  k_steps
  refine Stopped.on (set_of_list (by walk_at "my room") hol hoi ho4 fun r2 h2 tk2 k2 hr2 hS2 => ?_)
  dsimp only
  have hk2 : Ke ⟨h, g, d, t, oss⟩ ⟨h2, g, d, tk2, oss⟩ := .of fun b o e => k2 _ _ (k1 _ _ e)
  have F3 := fr_ke (s := ⟨h1, g, d, tk1, oss⟩) (s' := ⟨h2, g, d, tk2, oss⟩) (.of k2) F2
  have N3 := news_ke (s := ⟨h1, g, d, tk1, oss⟩) (s' := ⟨h2, g, d, tk2, oss⟩) (.of k2) N2
  obtain ⟨T1, ep1, g1⟩ := hS1
  have hne : r2 ≠ r1 := fun q => by rw [q, g1] at hr2; cases hr2
  clear F2 N2
  dsimp only at F3 N3 ⊢
  k_steps
  refine Stopped.on (set_or (insAll_sub (by decide)) (insAll_sub (by decide)) rfl rfl hne ⟨T1, ep1, k2 _ _ g1⟩ hS2 fun r3 h3 tk3 C mm mv hM k3 hr3 hS3 hC hx => ?_)
  dsimp only
  have F4 := fr_ke (s := ⟨h2, g, d, tk2, oss⟩) (s' := ⟨h3, g, d, tk3, oss⟩) (.of k3) F3
  have N4 := news_ke (s := ⟨h2, g, d, tk2, oss⟩) (s' := ⟨h3, g, d, tk3, oss⟩) (.of k3) N3
  obtain ⟨T3, ep3, g3⟩ := hS3
  clear F3 N3
  dsimp only at F4 N4 ⊢
  k_steps
  refine Stopped.on (sorted_set hC (by walk_at "my room") hM g3 rfl rfl fun l h4 tk4 out ns' k4 hl4 hl hi hp _ => ?_)
  dsimp only
  have hk4 : Ke ⟨h, g, d, t, oss⟩ ⟨h4, g, d, tk4, oss⟩ := .of fun b o e => k4 _ _ (k3 _ _ (k2 _ _ (k1 _ _ e)))
  have I4 := I.ke hk4
  clear F4 N4
  obtain ⟨bs, hb, hbp⟩ := nats_of hi hp
  have hmem : ∀ x, x ∈ bs ↔ x ∈ gs ∨ x ∈ os := fun x => by
    rw [hbp.mem_iff, hx, mem_insAll hg4, mem_insAll ho4]
    simp
  k_steps
  refine Stopped.on (I4.store_l (x := "both") rfl rfl (by unfold Free; decide) rfl fun s' I' hs => k l bs s' I' (Ste.trans (.of hk4) hs) (NatsAt.kh ⟨out, hl, hb⟩ hs.kh) ⟨fun x hx' => ?_, ?_⟩ hmem)
  · rcases (hmem x).mp hx' with q | q
    · exact Cg.lt x q
    · exact Co.lt x q
  · rw [hbp.length_eq]
    have := sub_len hC
    omega
theorem law_st14 {n : Nat} {lg lo : Addr} {gs os : List Nat} (hn4 : n ≤ 4) (hA : Room A 44) (I : LI h₀ L s m c)
    (c1 : c 1 = some (.ref lg)) (hg : NatsAt s.heap lg gs) (Cg : Com n gs) (c3 : c 3 = some (.ref lo)) (ho : NatsAt s.heap lo os)
    (k : ∀ l s', LI h₀ L s' (upd m "common" (.ref l)) c → Ste s s' → NatsAt s'.heap l (gs.filter fun x => decide (x ∈ os)) → Q .next s') :
    Ex prog w A L 14 Q s := by
  refine Ex.mk ?_
  conv in (st _ _) => whnf
  unfold lawEnv
  conv in (lawScope _) => whnf
  obtain ⟨o1, o2, o3, o4, o5, N1, d1, d2, d3, d4, d5⟩ := I.news
  rw [c1] at d1
  rw [c3] at d3
  obtain ⟨h, g, d, t, oss⟩ := s
  refine assign_comp (cl := [("other", L + 3)]) (cs := gs) (fun x => decide (x ∈ os)) I rfl (by unfold Free; decide) Cg.len (by rfl) rfl (by decide) rfl (by decide) rfl rfl rfl (Room.handled (n := 0) (by walk_at "my room")) ?ev ?test ?fin
  case ev =>
    exact nameX_C N1 rfl (by k_mem) d1 (Stopped.on ⟨lg, rfl, hg, Ke.refl _⟩)
  case test =>
    intro C i t' s₃ m₃ E' hi hns hm hk3
    rw [List.forIn_cons]
    simp only [if_true]
    refine wpAny_bind (wpAny_bind (wpAny_isTrue_Compare1 (wpAny_Name (wpAny_loadName_local rfl rfl hns hm (wpAny_Name (wpAny_loadName_cell rfl rfl rfl ⟨o3, hk3 _ _ (N1 _ (.tail _ (.tail _ (.head _)))).1, d3⟩ (in_nats (ho.keep hk3) (wpAny_truthy_bool ?_))))))))
    refine wpAny_pure ?_
    dsimp only
    rw [List.forIn_nil]
    exact wpAny_pure ⟨rfl, s₃.heap, _, rfl, fun _ _ e => e⟩
  case fin =>
    intro D s1 I1 hs1 hN
    exact k D s1 I1 hs1 hN
theorem law_st15 {q n : Nat} {sv : Value} {tq : Tok} {pr lv lb : Addr} {V : List (Int × List Nat)} {bs : List Nat} (X : (Mine.hd.heap_39 w.params).In h₀) (T : TopRead p loose mg mb h₀) (hA : Room A 44) (I : LI h₀ L s m c) (B : Built w s.heap q n sv pr lv V)
    (m1 : m "name" = some (.str (nameQ q) tq)) (m2 : m "profile" = some (.ref pr)) (m3 : m "both" = some (.ref lb)) (hg : NatsAt s.heap lb bs) (Cg : Com n bs)
    (k : ∀ v s', LI h₀ L s' (upd m "whole" v) c → Ste s s' → NumAt s'.heap v (scoreV q V bs) → Q .next s') :
    Ex prog w A L 15 Q s := by
  refine Ex.mk ?_
  conv in (st _ _) => whnf
  unfold lawEnv
  conv in (lawScope _) => whnf
  obtain ⟨o1, o2, o3, o4, o5, N1, d1, d2, d3, d4, d5⟩ := I.news
  have F1 := fr_know (x := "both") (fr_know (x := "profile") (fr_know I.F m1) (v := .ref pr) m2) (v := .ref lb) m3
  obtain ⟨h, g, d, t, os⟩ := s
  dsimp only at F1 N1 ⊢
  k_steps
  refine Stopped.on (wpAny_call (thiele (X.keeps F1.keep) (T.keeps F1.keep) (by walk_at "my room") B.q7 B.P B.VV B.hV hg (fun c hc => Nat.lt_of_lt_of_le (Cg.lt c hc) B.n4) Cg.len fun v s1 hk1 hN => ?_))
  dsimp only
  have I1 := I.ke hk1
  k_steps
  refine Stopped.on (I1.store_l (x := "whole") rfl rfl (by unfold Free; decide) rfl fun s' I' hs => k v s' I' (Ste.trans (.of hk1) hs) (hN.kh hs.kh))
end
end
section
local macro_rules | `(tactic| walk_at "storeName") => `(tactic| refine Stopped.go ?_)
local macro_rules | `(tactic| walk_at "call ref") => `(tactic| ((with_reducible show wpAny _ _ (call (Value.ref 523) _) _ _ _); refine Stopped.go ?_))
local macro_rules | `(tactic| walk_at "call ref") => `(tactic| ((with_reducible show wpAny _ _ (call (Value.ref 334) _) _ _ _); refine Stopped.go ?_))
local macro_rules | `(tactic| walk_at "call ref") => `(tactic| ((with_reducible show wpAny _ _ (call (Value.ref 341) _) _ _ _); refine Stopped.go ?_))
local macro_rules | `(tactic| walk_at "call ref") => `(tactic| ((with_reducible show wpAny _ _ (call (Value.ref 278) _) _ _ _); refine Stopped.go ?_))
local macro_rules | `(tactic| walk_at "call ref") => `(tactic| ((with_reducible show wpAny _ _ (call (Value.ref 271) _) _ _ _); refine Stopped.go ?_))
local macro_rules | `(tactic| walk_at "newTuple") => `(tactic| refine Stopped.go ?_)
local macro_rules | `(tactic| walk_at "eval ListComp") => `(tactic| refine Stopped.go ?_)
local macro_rules | `(tactic| walk_at "subscriptTail") => `(tactic| ((with_reducible show wpAny _ _ (subscriptTail _ _ (Value.ref _) (Value.int _ _)) _ _ _); (refine nos_sub (by assumption) (by decide) (by decide) ?_); intro _))
section
variable {prog : Program} {w : World} {A : Around} {E : Value → Shared → Prop} {s : Shared} {h₀ : Heap} {L : Addr} {m : Str → Option Value} {c : Nat → Option Value} {p : Program} {loose : List Str} {mg mb : Str → Option Value} {Q : Flow → Shared → Prop}
theorem law_st16 {q n : Nat} {sv wv kv : Value} {tq : Tok} {pr lv lc lo : Addr} {V : List (Int × List Nat)} {cs os : List Nat} {zw zs : Int} (X : (Mine.hd.heap_39 w.params).In h₀) (T : TopRead p loose mg mb h₀) (hA : Room A 44) (I : LI h₀ L s m c) (B : Built w s.heap q n sv pr lv V)
    (m1 : m "name" = some (.str (nameQ q) tq)) (m2 : m "profile" = some (.ref pr)) (m3 : m "common" = some (.ref lc)) (hc : NatsAt s.heap lc cs) (Cc : Com n cs) (c3 : c 3 = some (.ref lo)) (ho : NatsAt s.heap lo os) (Co : Com n os)
    (m4 : m "whole" = some wv) (hw : NumAt s.heap wv zw) (m5 : m "score" = some kv) (hk : NumAt s.heap kv zs)
    (hle : zw + scoreV q V cs ≤ zs + scoreV q V os)
    (k : ∀ s', LI h₀ L s' m c → Ste s s' → Q .next s') :
    Ex prog w A L 16 Q s := by
  refine Ex.mk ?_
  conv in (st _ _) => whnf
  unfold lawEnv
  conv in (lawScope _) => whnf
  obtain ⟨o1, o2, o3, o4, o5, N1, d1, d2, d3, d4, d5⟩ := I.news
  rw [c3] at d3
  have F1 := fr_know (x := "score") (fr_know (x := "whole") (fr_know (x := "common") (fr_know (x := "profile") (fr_know I.F m1) (v := .ref pr) m2) (v := .ref lc) m3) (v := wv) m4) (v := kv) m5
  obtain ⟨h, g, d, t, oss⟩ := s
  have N0 := N1
  have F0 := F1
  clear N1 F1
  have K0 : Ke ⟨h, g, d, t, oss⟩ ⟨h, g, d, t, oss⟩ := Ke.refl _
  dsimp only at F0 N0 ⊢
  k_steps
  refine Stopped.on (wpAny_call (thiele (X.keeps F0.keep) (T.keeps F0.keep) (by walk_at "my room") B.q7 (B.P.keep K0.1) (VotersAt.kh B.VV (KH.of K0.1)) B.hV (hc.keep K0.1) (fun c hc => Nat.lt_of_lt_of_le (Cc.lt c hc) B.n4) Cc.len fun v1 s1 k1 n1 => ?_))
  try dsimp only
  have K1 := K0.trans k1
  have F1 := fr_ke k1 F0
  have N1 := news_ke k1 N0
  clear F0 N0
  obtain ⟨h1, g1, e1, t1, os1⟩ := s1
  try dsimp only at F1 N1 n1 ⊢
  k_steps
  refine num_add (X.keeps F1.keep) (T.keeps F1.keep) (by walk_at "my room") (hw.keep K1.1) (n1) fun v2 s2 k2 n2 => ?_
  try dsimp only
  have K2 := K1.trans k2
  have F2 := fr_ke k2 F1
  have N2 := news_ke k2 N1
  clear F1 N1
  obtain ⟨h2, g2, e2, t2, os2⟩ := s2
  try dsimp only at F2 N2 n2 ⊢
  k_steps
  refine Stopped.on (wpAny_call (thiele (X.keeps F2.keep) (T.keeps F2.keep) (by walk_at "my room") B.q7 (B.P.keep K2.1) (VotersAt.kh B.VV (KH.of K2.1)) B.hV (ho.keep K2.1) (fun c hc => Nat.lt_of_lt_of_le (Co.lt c hc) B.n4) Co.len fun v3 s3 k3 n3 => ?_))
  try dsimp only
  have K3 := K2.trans k3
  have F3 := fr_ke k3 F2
  have N3 := news_ke k3 N2
  clear F2 N2
  obtain ⟨h3, g3, e3, t3, os3⟩ := s3
  try dsimp only at F3 N3 n3 ⊢
  k_steps
  refine num_add (X.keeps F3.keep) (T.keeps F3.keep) (by walk_at "my room") (hk.keep K3.1) (n3) fun v4 s4 k4 n4 => ?_
  try dsimp only
  have K4 := K3.trans k4
  have F4 := fr_ke k4 F3
  have N4 := news_ke k4 N3
  clear F3 N3
  obtain ⟨h4, g4, e4, t4, os4⟩ := s4
  try dsimp only at F4 N4 n4 ⊢
  k_steps
  refine num_gt (X.keeps F4.keep) (T.keeps F4.keep) (by walk_at "my room") (n2.keep (k3.trans k4).1) (n4) fun s5 k5 => ?_
  try dsimp only
  have K5 := K4.trans k5
  have F5 := fr_ke k5 F4
  have N5 := news_ke k5 N4
  clear F4 N4
  obtain ⟨h5, g5, e5, t5, os5⟩ := s5
  try dsimp only at F5 N5 ⊢
  rw [show decide (zw + scoreV q V cs > zs + scoreV q V os) = false from decide_eq_false (by omega)]
  k_steps
  refine k _ (I.ke ?_) (.of ?_) <;> exact K5
end
end
section
section
variable {prog : Program} {w : World} {A : Around} {E : Value → Shared → Prop} {s : Shared} {h₀ : Heap} {L : Addr} {m : Str → Option Value} {c : Nat → Option Value} {p : Program} {loose : List Str} {mg mb : Str → Option Value}
theorem paired_len {α β : Type} {F : α → β → Prop} {vs : List α} {ys : List β} (h : Paired F vs ys) : ys.length = vs.length := by
  induction h with
  | nil => rfl
  | cons _ _ ih => simp [ih]
theorem paired_at {F : Value → Value → Prop} {vs ys : List Value} (h : Paired F vs ys) : ∀ (i : Nat) (y : Value), ys[i]? = some y → ∃ v, vs[i]? = some v ∧ F v y := by
  induction h with
  | nil => intro i y e; cases e
  | cons hf _ ih =>
    intro i y e
    cases i with
    | zero => cases e; exact ⟨_, rfl, hf⟩
    | succ i => exact ih i y e
/-- a comprehension over a list of small ints, its elements in R -/
theorem comp_map {env : Env} {elt iter : Expr} {x : Str} {px : Pos} {ifs : List Expr} {scope : Scope} {cl : List (Str × Addr)} {pos : Pos} {Q : Value → Shared → Prop} {cs : List Nat} (pz : Nat → Bool) (R : Nat → Value → Prop) (hlen : cs.length ≤ 10) (ht : ∃ op ps, s.heap.get? 52 = some op ∧ op.data = .fields ps)
    (hclos : closureFor scope env = pure cl) (hcell : ∀ y ∈ scope.names, y.2 ≠ .cell) (hkind : scope.kind = .function)
    (hnames : ∀ y ∈ scope.names, y.2 = .local → scope.names.lookup y.1 = some .local) (hx : scope.names.lookup x = some .local) (hh : A.handled = none)
    (hev : wpAny (model prog w) A (eval iter env) (fun xv s₁ => Stopped (∃ l, xv = .ref l ∧ NatsAt s₁.heap l cs ∧ Ke s s₁)) E s)
    (htest : ∀ C i t (s₃ : Shared) m₃ E', i ∈ cs → s₃.heap.Ns C m₃ → m₃ x = some (.int (i : Nat) t) → (∀ b o, s.heap.get? b = some o → s₃.heap.get? b = some o) →
        wpAny (model prog w) A (forIn ifs true fun c r => if r = true then do let ok ← isTrue c (compEnvC scope cl C env) (eval c (compEnvC scope cl C env)); pure (ForInStep.yield ok) else pure (ForInStep.yield r))
          (fun ok s₄ => ok = pz i ∧ Keeps s₃ s₄) E' s₃)
    (helt : ∀ C i t (s₃ : Shared) m₃ E', i ∈ cs → s₃.heap.Ns C m₃ → m₃ x = some (.int (i : Nat) t) → (∀ b o, s.heap.get? b = some o → s₃.heap.get? b = some o) →
        wpAny (model prog w) A (eval elt (compEnvC scope cl C env)) (fun y s₄ => R i y ∧ Keeps s₃ s₄) E' s₃)
    (hQ : ∀ D s' ys, s.heap.get? D = none → s'.heap.IsList D ys → ys.size = (cs.filter pz).length → (∀ (i : Nat) y, ys[i]? = some y → ∃ c, (cs.filter pz)[i]? = some c ∧ R c y) → Ke s s' → Q (.ref D) s')
    (hs : ∀ x, foldedSetIterable iter env x = pure x := by intro _; rfl) :
    wpAny (model prog w) A (eval (.ListComp elt [⟨.Name x px, iter, ifs, 0⟩] scope pos) env) Q E s := by
  refine comp_iters (natP pz) (fun v y => ∃ c t, v = .int (c : Nat) t ∧ R c y) hclos hcell hkind hnames hx hh (wpAny_mono hev (fun xv s₁ h₁ => ?_) fun _ _ e => e) hs
  obtain ⟨l, rfl, ⟨items, hl, hi⟩, hk⟩ := Stopped.go h₁
  obtain ⟨op, ps, h52, hps⟩ := ht
  have hz : items.size = cs.length := by simpa using hi.length
  have hl2 := hl
  obtain ⟨ol, hol, _, nl, hdl⟩ := hl2
  have hin : ∀ (i : Nat) v, items[i]? = some v → ∃ c ∈ cs, ∃ t, v = Value.int (c : Nat) t := fun i v hv => by
    obtain ⟨n, t, e, hn⟩ := hi.at i v (by simpa using hv)
    rw [List.getElem?_map] at hn
    cases q : cs[i]? with
    | none => rw [q] at hn; cases hn
    | some c =>
      rw [q] at hn
      cases hn
      exact ⟨c, List.mem_of_getElem? q, t, e⟩
  refine ⟨items.size, fun i v => items[i]? = some v, by omega, iters_list hl (fun q => ?_) (Heap.lt_size (hk.1 _ _ h52)), ?_, ?_, ?_⟩
  · rw [q, hk.1 _ _ h52] at hol
    cases hol
    rw [hps] at hdl
    cases hdl
  · intro C i v s₃ m₃ E' hv hns hm kk
    obtain ⟨c, hc, t, rfl⟩ := hin i v hv
    rw [natP_nat]
    exact htest C c t s₃ m₃ E' hc hns hm fun b o e => kk b o (hk.1 _ _ e)
  · intro C i v s₃ m₃ E' hv hp hns hm kk
    obtain ⟨c, hc, t, rfl⟩ := hin i v hv
    exact wpAny_mono (helt C c t s₃ m₃ E' hc hns hm fun b o e => kk b o (hk.1 _ _ e)) (fun y s₄ h => ⟨⟨c, t, rfl, h.1⟩, h.2⟩) fun _ _ e => e
  · intro D h' tk ys vs hD hys hlen' hvs hP kk
    have e : vs = items.toList := by
      refine List.ext_getElem? fun j => ?_
      rw [show items.toList[j]? = items[j]? from by simp]
      cases q : vs[j]? with
      | none =>
        have := List.getElem?_eq_none_iff.mp q
        exact (Array.getElem?_eq_none (by omega)).symm
      | some v => exact (hvs j v q).symm
    subst e
    have hI := ints_filter (pz := pz) (natP pz) natP_nat hi
    refine hQ D _ ys ?_ hys ?_ (fun i y hy => ?_) (.trans hk (.of kk))
    · cases q : s.heap.get? D with
      | none => rfl
      | some o => rw [hk.1 _ _ q] at hD; cases hD
    · have h1 := paired_len hP
      have h2 := hI.length
      simp only [Array.length_toList, List.length_map] at h1 h2
      omega
    · obtain ⟨v, hv, c, t, rfl, hr⟩ := paired_at hP i y (by simpa using hy)
      obtain ⟨n, t', e, hn⟩ := hI.at i _ hv
      rw [List.getElem?_map] at hn
      cases q : (cs.filter pz)[i]? with
      | none => rw [q] at hn; cases hn
      | some c' =>
        rw [q] at hn
        cases hn
        cases e
        exact ⟨c, rfl, hr⟩
theorem preS_take {z : Nat → Int} (l : List Nat) : ∀ k, k ≤ l.length → preS (fun i => (l.map z).getD i 0) k = ((l.take k).map z).sum
  | 0, _ => rfl
  | k + 1, h => by
    have hk : k < l.length := h
    show preS _ k + (l.map z).getD k 0 = _
    rw [preS_take l k (by omega), List.take_add_one, List.getElem?_eq_getElem hk, List.map_append, List.sum_append]
    simp [List.getD, hk]
theorem preS_map {z : Nat → Int} (l : List Nat) : preS (fun i => (l.map z).getD i 0) l.length = (l.map z).sum := by
  rw [preS_take l _ (Nat.le_refl _), List.take_length]
theorem sub_eval {env : Env} {x1 x2 : Str} {p1 p2 p3 : Pos} {hb : Heap} {l : Addr} {z : Nat → Int} {n i : Nat} {t : Tok} {Q : Value → Shared → Prop} (N : NumsAt hb l z n) (kk : ∀ b o, hb.get? b = some o → s.heap.get? b = some o) (hi : i < n) (hn : n < 1000) (h1 : ∀ Q : Value → Shared → Prop, Q (.ref l) s → wpAny (model prog w) A (eval (.Name x1 p1) env) Q E s) (h2 : ∀ Q : Value → Shared → Prop, Q (.int (i : Nat) t) s → wpAny (model prog w) A (eval (.Name x2 p2) env) Q E s)
    (h : ∀ v, NumAt hb v (z i) → Q v s) : wpAny (model prog w) A (eval (.Subscript (.Name x1 p1) (.Name x2 p2) p3) env) Q E s := by
  obtain ⟨items, ⟨ol, hol, r⟩, hz, hv⟩ := N
  have hl : s.heap.IsList l items := ⟨ol, kk _ _ hol, r⟩
  have hx : items[i]? = some items[i] := Array.getElem?_eq_getElem (by omega)
  refine Subscript_ (h1 _ (h2 _ (subscriptTail_builtin hl.typeIs slot_list_getitem.lookup ?_ (by with_unfolding_all rfl) (by intro _; with_unfolding_all rfl))))
  exact wpAny_getItem_list hl (by omega) (by omega) (by simpa using hx) (h _ (hv i _ hx))
/-- a comprehension of numbers -/
theorem nums_of_map {h : Heap} {D : Addr} {ys : Array Value} {cs : List Nat} {z : Nat → Int} (hl : h.IsList D ys) (hz : ys.size = cs.length) (hy : ∀ (i : Nat) y, ys[i]? = some y → ∃ c, cs[i]? = some c ∧ NumAt h y (z c)) : NumsAt h D (fun i => (cs.map z).getD i 0) cs.length := by
  refine ⟨ys, hl, hz, fun i y e => ?_⟩
  obtain ⟨c, hc, hn⟩ := hy i y e
  show NumAt h y ((cs.map z).getD i 0)
  rw [List.getD, List.getElem?_map, hc]
  exact hn
end
local macro_rules | `(tactic| walk_at "storeName") => `(tactic| refine Stopped.go ?_)
local macro_rules | `(tactic| walk_at "call ref") => `(tactic| ((with_reducible show wpAny _ _ (call (Value.ref 523) _) _ _ _); refine Stopped.go ?_))
local macro_rules | `(tactic| walk_at "call ref") => `(tactic| ((with_reducible show wpAny _ _ (call (Value.ref 334) _) _ _ _); refine Stopped.go ?_))
local macro_rules | `(tactic| walk_at "call ref") => `(tactic| ((with_reducible show wpAny _ _ (call (Value.ref 341) _) _ _ _); refine Stopped.go ?_))
local macro_rules | `(tactic| walk_at "call ref") => `(tactic| ((with_reducible show wpAny _ _ (call (Value.ref 278) _) _ _ _); refine Stopped.go ?_))
local macro_rules | `(tactic| walk_at "call ref") => `(tactic| ((with_reducible show wpAny _ _ (call (Value.ref 271) _) _ _ _); refine Stopped.go ?_))
local macro_rules | `(tactic| walk_at "newTuple") => `(tactic| refine Stopped.go ?_)
local macro_rules | `(tactic| walk_at "eval ListComp") => `(tactic| refine Stopped.go ?_)
local macro_rules | `(tactic| walk_at "subscriptTail") => `(tactic| ((with_reducible show wpAny _ _ (subscriptTail _ _ (Value.ref _) (Value.int _ _)) _ _ _); (refine nos_sub (by assumption) (by decide) (by decide) ?_); intro _))
local macro_rules | `(tactic| walk_at "call builtin:sum") => `(tactic| refine Stopped.go ?_)
section
variable {prog : Program} {w : World} {A : Around} {E : Value → Shared → Prop} {s : Shared} {h₀ : Heap} {L : Addr} {m : Str → Option Value} {c : Nat → Option Value} {p : Program} {loose : List Str} {mg mb : Str → Option Value} {Q : Flow → Shared → Prop}
theorem law_st17 {n : Nat} {wv kv : Value} {lg lo ll lz : Addr} {gs os : List Nat} {zw zs : Int} {zl zg : Nat → Int} (hn4 : n ≤ 4) (X : (Mine.hd.heap_39 w.params).In h₀) (T : TopRead p loose mg mb h₀) (hA : Room A 44) (I : LI h₀ L s m c)
    (c1 : c 1 = some (.ref lg)) (hg : NatsAt s.heap lg gs) (Cg : Com n gs) (c3 : c 3 = some (.ref lo)) (ho : NatsAt s.heap lo os) (Co : Com n os)
    (c4 : c 4 = some (.ref ll)) (hl : NumsAt s.heap ll zl n) (c5 : c 5 = some (.ref lz)) (hz : NumsAt s.heap lz zg n)
    (m4 : m "whole" = some wv) (hw : NumAt s.heap wv zw) (m5 : m "score" = some kv) (hk : NumAt s.heap kv zs)
    (hle : zw ≤ zs + ((os.filter fun x => !decide (x ∈ gs)).map zl).sum) (hle2 : (gs.map zg).sum ≤ zs)
    (k : ∀ s', LI h₀ L s' m c → Ste s s' → Q .next s') :
    Ex prog w A L 17 Q s := by
  refine Ex.mk ?_
  conv in (st _ _) => whnf
  unfold lawEnv
  conv in (lawScope _) => whnf
  obtain ⟨o1, o2, o3, o4, o5, N0, d1, d2, d3, d4, d5⟩ := I.news
  rw [c1] at d1
  rw [c3] at d3
  rw [c4] at d4
  rw [c5] at d5
  have F0 := fr_know (x := "score") (fr_know (x := "whole") I.F (v := wv) m4) (v := kv) m5
  obtain ⟨h, g, d, t, oss⟩ := s
  have K0 : Ke ⟨h, g, d, t, oss⟩ ⟨h, g, d, t, oss⟩ := Ke.refl _
  dsimp only at F0 N0 ⊢
  k_steps
  refine Stopped.on (comp_map (cl := [("less", L + 4), ("great", L + 1)]) (cs := os) (fun x => !decide (x ∈ gs)) (fun i y => NumAt h y (zl i)) Co.len I.tab rfl (by decide) rfl (by decide) rfl (Room.handled (n := 0) (by walk_at "my room")) ?ev ?test ?elt ?fin)
  case ev => exact nameX_C N0 rfl (by k_mem) d3 (Stopped.on ⟨lo, rfl, ho, Ke.refl _⟩)
  case test =>
    intro C i t' s₃ m₃ E' hi hns hm hk3
    rw [List.forIn_cons]
    simp only [if_true]
    refine wpAny_bind (wpAny_bind (wpAny_isTrue_Compare1 (wpAny_Name (wpAny_loadName_local rfl rfl hns hm (wpAny_Name (wpAny_loadName_cell rfl rfl rfl ⟨o1, hk3 _ _ (N0 (L + 1, o1) (by k_mem)).1, d1⟩ (notIn_nats (hg.keep hk3) (wpAny_truthy_bool ?_))))))))
    refine wpAny_pure ?_
    dsimp only
    rw [List.forIn_nil]
    exact wpAny_pure ⟨rfl, s₃.heap, _, rfl, fun _ _ e => e⟩
  case elt =>
    intro C i t' s₃ m₃ E' hi hns hm hk3
    refine sub_eval (l := ll) (i := i) (t := t') hl hk3 (Co.lt i hi) (by omega) (fun Q hq => wpAny_Name (wpAny_loadName_cell rfl rfl rfl ⟨o4, hk3 _ _ (N0 (L + 4, o4) (by k_mem)).1, d4⟩ hq)) (fun Q hq => wpAny_Name (wpAny_loadName_local rfl rfl hns hm hq)) fun v hv => ?_
    exact ⟨hv, s₃.heap, s₃.toks, rfl, fun _ _ e => e⟩
  case fin =>
    intro D s1 ys hD hys hsz hat k1
    have n1 := nums_of_map (z := zl) hys hsz fun i y e => by obtain ⟨c, a, b⟩ := hat i y e; exact ⟨c, a, b.keep k1.1⟩
    try dsimp only
    have K1 := K0.trans k1
    have F1 := fr_ke k1 F0
    have N1 := news_ke k1 N0
    clear F0 N0
    obtain ⟨h1, g1, e1, t1, os1⟩ := s1
    try dsimp only at F1 N1 n1 ⊢
    k_steps
    refine Stopped.on (sum_num (by walk_at "my room") (X.keeps F1.keep) (T.keeps F1.keep) n1 fun v2 s2 n2 k2 => ?_)
    rw [preS_map] at n2
    try dsimp only
    have K2 := K1.trans k2
    have F2 := fr_ke k2 F1
    have N2 := news_ke k2 N1
    clear F1 N1
    obtain ⟨h2, g2, e2, t2, os2⟩ := s2
    try dsimp only at F2 N2 n2 ⊢
    k_steps
    refine num_add (X.keeps F2.keep) (T.keeps F2.keep) (by walk_at "my room") (hk.keep K2.1) (n2) fun v3 s3 k3 n3 => ?_
    try dsimp only
    have K3 := K2.trans k3
    have F3 := fr_ke k3 F2
    have N3 := news_ke k3 N2
    clear F2 N2
    obtain ⟨h3, g3, e3, t3, os3⟩ := s3
    try dsimp only at F3 N3 n3 ⊢
    k_steps
    refine num_gt (X.keeps F3.keep) (T.keeps F3.keep) (by walk_at "my room") (hw.keep K3.1) (n3) fun s4 k4 => ?_
    try dsimp only
    have K4 := K3.trans k4
    have F4 := fr_ke k4 F3
    have N4 := news_ke k4 N3
    clear F3 N3
    obtain ⟨h4, g4, e4, t4, os4⟩ := s4
    try dsimp only at F4 N4 ⊢
    rw [show decide (zw > zs + ((os.filter fun x => !decide (x ∈ gs)).map zl).sum) = false from decide_eq_false (by omega)]
    k_steps
    refine Stopped.on (comp_map (cl := [("gone", L + 5)]) (cs := gs) (fun x => true) (fun i y => NumAt h4 y (zg i)) Cg.len (I.ke K4).tab rfl (by decide) rfl (by decide) rfl (Room.handled (n := 0) (by walk_at "my room")) ?ev ?test ?elt ?fin)
    case ev => exact nameX_C N4 rfl (by k_mem) d1 (Stopped.on ⟨lg, rfl, hg.keep K4.1, Ke.refl _⟩)
    case test =>
      intro C i t' s₃ m₃ E' hi hns hm hk3
      rw [List.forIn_nil]
      exact wpAny_pure ⟨rfl, s₃.heap, _, rfl, fun _ _ e => e⟩
    case elt =>
      intro C i t' s₃ m₃ E' hi hns hm hk3
      refine sub_eval (l := lz) (i := i) (t := t') (hz.keep K4.1) hk3 (Cg.lt i hi) (by omega) (fun Q hq => wpAny_Name (wpAny_loadName_cell rfl rfl rfl ⟨o5, hk3 _ _ (N4 (L + 5, o5) (by k_mem)).1, d5⟩ hq)) (fun Q hq => wpAny_Name (wpAny_loadName_local rfl rfl hns hm hq)) fun v hv => ?_
      exact ⟨hv, s₃.heap, s₃.toks, rfl, fun _ _ e => e⟩
    case fin =>
      intro D2 s5 ys2 hD2 hys2 hsz2 hat2 k5
      rw [show gs.filter (fun _ => true) = gs from by simp] at hsz2 hat2
      have n5 := nums_of_map (z := zg) hys2 hsz2 fun i y e => by obtain ⟨c, a, b⟩ := hat2 i y e; exact ⟨c, a, b.keep k5.1⟩
      try dsimp only
      have K5 := K4.trans k5
      have F5 := fr_ke k5 F4
      have N5 := news_ke k5 N4
      clear F4 N4
      obtain ⟨h5, g5, e5, t5, os5⟩ := s5
      try dsimp only at F5 N5 n5 ⊢
      k_steps
      refine Stopped.on (sum_num (by walk_at "my room") (X.keeps F5.keep) (T.keeps F5.keep) n5 fun v6 s6 n6 k6 => ?_)
      rw [preS_map] at n6
      try dsimp only
      have K6 := K5.trans k6
      have F6 := fr_ke k6 F5
      have N6 := news_ke k6 N5
      clear F5 N5
      obtain ⟨h6, g6, e6, t6, os6⟩ := s6
      try dsimp only at F6 N6 n6 ⊢
      k_steps
      refine num_gt (X.keeps F6.keep) (T.keeps F6.keep) (by walk_at "my room") (n6) (hk.keep K6.1) fun s7 k7 => ?_
      try dsimp only
      have K7 := K6.trans k7
      have F7 := fr_ke k7 F6
      have N7 := news_ke k7 N6
      clear F6 N6
      obtain ⟨h7, g7, e7, t7, os7⟩ := s7
      try dsimp only at F7 N7 ⊢
      rw [show decide ((gs.map zg).sum > zs) = false from decide_eq_false (by omega)]
      k_steps
      refine k _ (I.ke ?_) (.of ?_) <;> exact K7
end
end
section
local macro_rules | `(tactic| walk_at "storeName") => `(tactic| refine Stopped.go ?_)
local macro_rules | `(tactic| walk_at "call ref") => `(tactic| ((with_reducible show wpAny _ _ (call (Value.ref 523) _) _ _ _); refine Stopped.go ?_))
local macro_rules | `(tactic| walk_at "call ref") => `(tactic| ((with_reducible show wpAny _ _ (call (Value.ref 334) _) _ _ _); refine Stopped.go ?_))
local macro_rules | `(tactic| walk_at "call ref") => `(tactic| ((with_reducible show wpAny _ _ (call (Value.ref 341) _) _ _ _); refine Stopped.go ?_))
local macro_rules | `(tactic| walk_at "call ref") => `(tactic| ((with_reducible show wpAny _ _ (call (Value.ref 278) _) _ _ _); refine Stopped.go ?_))
local macro_rules | `(tactic| walk_at "call ref") => `(tactic| ((with_reducible show wpAny _ _ (call (Value.ref 271) _) _ _ _); refine Stopped.go ?_))
local macro_rules | `(tactic| walk_at "newTuple") => `(tactic| refine Stopped.go ?_)
local macro_rules | `(tactic| walk_at "eval ListComp") => `(tactic| refine Stopped.go ?_)
local macro_rules | `(tactic| walk_at "subscriptTail") => `(tactic| ((with_reducible show wpAny _ _ (subscriptTail _ _ (Value.ref _) (Value.int _ _)) _ _ _); (refine nos_sub (by assumption) (by decide) (by decide) ?_); intro _))
local macro_rules | `(tactic| walk_at "call type:list") => `(tactic| refine Stopped.go ?_)
section
variable {prog : Program} {w : World} {A : Around} {E : Value → Shared → Prop} {s : Shared} {h₀ : Heap} {L : Addr} {m : Str → Option Value} {c : Nat → Option Value} {p : Program} {loose : List Str} {mg mb : Str → Option Value} {Q : Flow → Shared → Prop}
theorem law_st18 {q n : Nat} {sv wv kv : Value} {tq tn : Tok} {pr lv lp : Addr} {V : List (Int × List Nat)} {ps : List Nat} {zw zs : Int} (X : (Mine.hd.heap_39 w.params).In h₀) (T : TopRead p loose mg mb h₀) (hA : Room A 44) (I : LI h₀ L s m c) (B : Built w s.heap q n sv pr lv V)
    (m1 : m "name" = some (.str (nameQ q) tq)) (m2 : m "profile" = some (.ref pr)) (m3 : m "part" = some (.ref lp)) (hp : NatsAt s.heap lp ps) (Cp : Com n ps) (m0 : m "cands" = some (.int n tn))
    (m4 : m "whole" = some wv) (hw : NumAt s.heap wv zw) (m5 : m "score" = some kv) (hk : NumAt s.heap kv zs)
    (le1 : scoreV q V ps ≤ zs) (le2 : zs ≤ zw) (le3 : zw ≤ scoreV q V (List.range n))
    (k : ∀ s', LI h₀ L s' m c → Ste s s' → Q (.ret (.bool true)) s') :
    Ex prog w A L 18 Q s := by
  refine Ex.mk ?_
  conv in (st _ _) => whnf
  unfold lawEnv
  conv in (lawScope _) => whnf
  obtain ⟨o1, o2, o3, o4, o5, N0, d1, d2, d3, d4, d5⟩ := I.news
  have F0 := fr_know (x := "cands") (fr_know (x := "score") (fr_know (x := "whole") (fr_know (x := "part") (fr_know (x := "profile") (fr_know I.F m1) (v := .ref pr) m2) (v := .ref lp) m3) (v := wv) m4) (v := kv) m5) (v := .int n tn) m0
  obtain ⟨h, g, d, t, oss⟩ := s
  have K0 : Ke ⟨h, g, d, t, oss⟩ ⟨h, g, d, t, oss⟩ := Ke.refl _
  dsimp only at F0 N0 ⊢
  k_steps
  refine Stopped.on (wpAny_call (thiele (X.keeps F0.keep) (T.keeps F0.keep) (by walk_at "my room") B.q7 (B.P.keep K0.1) (VotersAt.kh B.VV (KH.of K0.1)) B.hV (hp.keep K0.1) (fun c hc => Nat.lt_of_lt_of_le (Cp.lt c hc) B.n4) Cp.len fun v1 s1 k1 n1 => ?_))
  try dsimp only
  have K1 := K0.trans k1
  have F1 := fr_ke k1 F0
  have N1 := news_ke k1 N0
  clear F0 N0
  obtain ⟨h1, g1, e1, t1, os1⟩ := s1
  try dsimp only at F1 N1 n1 ⊢
  k_steps
  refine num_le (X.keeps F1.keep) (T.keeps F1.keep) (by walk_at "my room") (n1) (hk.keep K1.1) fun s2 k2 => ?_
  try dsimp only
  have K2 := K1.trans k2
  have F2 := fr_ke k2 F1
  have N2 := news_ke k2 N1
  clear F1 N1
  obtain ⟨h2, g2, e2, t2, os2⟩ := s2
  try dsimp only at F2 N2 ⊢
  rw [show decide (scoreV q V ps ≤ zs) = true from decide_eq_true le1]
  k_steps
  refine chain_link ?_
  k_steps
  refine num_le (X.keeps F2.keep) (T.keeps F2.keep) (by walk_at "my room") (hk.keep K2.1) (hw.keep K2.1) fun s3 k3 => ?_
  try dsimp only
  have K3 := K2.trans k3
  have F3 := fr_ke k3 F2
  have N3 := news_ke k3 N2
  clear F2 N2
  obtain ⟨h3, g3, e3, t3, os3⟩ := s3
  try dsimp only at F3 N3 ⊢
  rw [show decide (zs ≤ zw) = true from decide_eq_true le2]
  k_steps
  rename IsRange _ _ _ _ _ _ _ _ => rg
  rename Fr _ _ _ _ => F4
  rename News _ _ _ _ => N4
  obtain ⟨sm, rs⟩ := rng_small (n := n) (by have := B.n4; omega)
  refine Stopped.on (call_list_range (n := n) (Room.handled (n := 0) (by walk_at "my room")) rg sm rs (by have := B.n4; omega) ?_)
  intro h4 tk4 acc c4 hk4 hl4 hacc
  rename ∀ (b : Addr) (o : Obj), h3.get? b = some o → _ => kr
  have k4 : Ke ⟨h3, g3, e3, t3, os3⟩ ⟨h4, g3, e3, tk4, os3⟩ := .of fun b o e => hk4 _ _ (kr _ _ e)
  have K4 := K3.trans k4
  have F5 := fr_ke (Ke.of (s := ⟨_, g3, e3, t3, os3⟩) (h' := h4) (tk := tk4) hk4) F4
  have N5 := news_ke (Ke.of (s := ⟨_, g3, e3, t3, os3⟩) (h' := h4) (tk := tk4) hk4) N4
  have n4 : NatsAt h4 _ (List.range n) := ⟨acc, ⟨_, hl4, rfl, _, rfl⟩, ints_of_items hacc⟩
  have Cr : Com n (List.range n) := ⟨fun c hc => List.mem_range.mp hc, by rw [List.length_range]; have := B.n4; omega⟩
  clear F4 N4 rg
  have F4 := F5
  have N4 := N5
  clear F5 N5
  rename Fr _ _ h3 _ => Fo
  clear Fo
  try dsimp only at F4 N4 n4 ⊢
  k_steps
  refine Stopped.on (wpAny_call (thiele (X.keeps F4.keep) (T.keeps F4.keep) (by walk_at "my room") B.q7 (B.P.keep K4.1) (VotersAt.kh B.VV (KH.of K4.1)) B.hV (n4) (fun c hc => Nat.lt_of_lt_of_le (Cr.lt c hc) B.n4) Cr.len fun v5 s5 k5 n5 => ?_))
  try dsimp only
  have K5 := K4.trans k5
  have F5 := fr_ke k5 F4
  have N5 := news_ke k5 N4
  clear F4 N4
  obtain ⟨h5, g5, e5, t5, os5⟩ := s5
  try dsimp only at F5 N5 n5 ⊢
  k_steps
  refine num_le (X.keeps F5.keep) (T.keeps F5.keep) (by walk_at "my room") (hw.keep K5.1) (n5) fun s6 k6 => ?_
  try dsimp only
  have K6 := K5.trans k6
  have F6 := fr_ke k6 F5
  have N6 := news_ke k6 N5
  clear F5 N5
  obtain ⟨h6, g6, e6, t6, os6⟩ := s6
  try dsimp only at F6 N6 ⊢
  rw [show decide (zw ≤ scoreV q V (List.range n)) = true from decide_eq_true le3]
  k_steps
  refine k _ (I.ke ?_) (.of ?_) <;> exact K6
end
end
section
/-- what the tail of the law works on -/
structure TV where
  q : Nat
  n : Nat
  tq : Tok
  tn : Tok
  sv : Addr
  pr : Addr
  lv : Addr
  V : List (Int × List Nat)
  gs : List Nat
  ps : List Nat
  os : List Nat
  lg : Addr
  lp : Addr
  lo : Addr
  lm : Addr
  ll : Addr
  lz : Addr
  scv : Value
  zg : Nat → Int
structure Tail (w : World) (h₀ : Heap) (L : Addr) (v : TV) (s : Shared) (m : Str → Option Value) (c : Nat → Option Value) : Prop where
  I : LI h₀ L s m c
  B : Built w s.heap v.q v.n (.ref v.sv) v.pr v.lv v.V
  m1 : m "name" = some (.str (nameQ v.q) v.tq)
  m2 : m "profile" = some (.ref v.pr)
  m3 : m "part" = some (.ref v.lp)
  m4 : m "step" = some (.ref v.sv)
  m5 : m "more" = some (.ref v.lm)
  m6 : m "score" = some v.scv
  m7 : m "cands" = some (.int v.n v.tn)
  c1 : c 1 = some (.ref v.lg)
  c3 : c 3 = some (.ref v.lo)
  c4 : c 4 = some (.ref v.ll)
  c5 : c 5 = some (.ref v.lz)
  hg : NatsAt s.heap v.lg v.gs
  hp : NatsAt s.heap v.lp v.ps
  ho : NatsAt s.heap v.lo v.os
  hm : NumsAt s.heap v.lm (fun c => if c ∈ v.ps then -45360 else addV v.q v.V v.ps c) v.n
  hl : NumsAt s.heap v.ll (fun c => if c ∈ v.gs then -45360 else addV v.q v.V v.gs c) v.n
  hz : NumsAt s.heap v.lz v.zg v.n
  hs : NumAt s.heap v.scv (scoreV v.q v.V v.gs)
  Cg : Com v.n v.gs
  Cp : Com v.n v.ps
  Co : Com v.n v.os
  z1 : ∀ c, c < v.n → c ∈ v.gs → v.zg c = remV v.q v.V v.gs c
  z2 : ∀ c, c < v.n → c ∉ v.gs → ∀ c', c' < v.n → c' ∈ v.gs → remV v.q v.V v.gs c' < v.zg c
def tailNames : List Str := ["name", "profile", "part", "step", "more", "score", "cands"]
theorem Tail.mono {w : World} {h₀ : Heap} {L : Addr} {v : TV} {s s' : Shared} {m m' : Str → Option Value} {c c' : Nat → Option Value} (T : Tail w h₀ L v s m c) (h : Ste s s') (I' : LI h₀ L s' m' c') (hm : ∀ y ∈ tailNames, m' y = m y) (hc : c' 1 = c 1 ∧ c' 3 = c 3 ∧ c' 4 = c 4 ∧ c' 5 = c 5) : Tail w h₀ L v s' m' c' :=
  ⟨I', T.B.kh h.kh, (hm _ (by decide)).trans T.m1, (hm _ (by decide)).trans T.m2, (hm _ (by decide)).trans T.m3, (hm _ (by decide)).trans T.m4, (hm _ (by decide)).trans T.m5, (hm _ (by decide)).trans T.m6, (hm _ (by decide)).trans T.m7,
   hc.1.trans T.c1, hc.2.1.trans T.c3, hc.2.2.1.trans T.c4, hc.2.2.2.trans T.c5, T.hg.kh h.kh, T.hp.kh h.kh, T.ho.kh h.kh, T.hm.kh h.kh, T.hl.kh h.kh, T.hz.kh h.kh, T.hs.kh h.kh, T.Cg, T.Cp, T.Co, T.z1, T.z2⟩
theorem Tail.store {w : World} {h₀ : Heap} {L : Addr} {v : TV} {s s' : Shared} {m : Str → Option Value} {c : Nat → Option Value} {x : Str} {a : Value} (T : Tail w h₀ L v s m c) (h : Ste s s') (I' : LI h₀ L s' (upd m x a) c) (hx : ∀ y ∈ tailNames, y ≠ x) : Tail w h₀ L v s' (upd m x a) c :=
  T.mono h I' (fun y hy => upd_ne (hx y hy)) ⟨rfl, rfl, rfl, rfl⟩
theorem Tail.cand {w : World} {h₀ : Heap} {L : Addr} {v : TV} {s s' : Shared} {m : Str → Option Value} {c : Nat → Option Value} {a : Value} (T : Tail w h₀ L v s m c) (h : Ste s s') (I' : LI h₀ L s' m (updC c 2 a)) : Tail w h₀ L v s' m (updC c 2 a) :=
  T.mono h I' (fun _ _ => rfl) ⟨rfl, rfl, rfl, rfl⟩
theorem Tail.ke {w : World} {h₀ : Heap} {L : Addr} {v : TV} {s s' : Shared} {m : Str → Option Value} {c : Nat → Option Value} (T : Tail w h₀ L v s m c) (h : Ke s s') : Tail w h₀ L v s' m c :=
  T.mono (.of h) (T.I.ke h) (fun _ _ => rfl) ⟨rfl, rfl, rfl, rfl⟩
theorem Tail.fr {w : World} {h₀ : Heap} {L : Addr} {v : TV} {s : Shared} {m : Str → Option Value} {c : Nat → Option Value} (T : Tail w h₀ L v s m c) :
    Fr h₀ L s.heap (fun y => if y = "cands" then some (.int v.n v.tn) else if y = "score" then some v.scv else if y = "more" then some (.ref v.lm) else if y = "step" then some (.ref v.sv) else if y = "part" then some (.ref v.lp) else if y = "profile" then some (.ref v.pr) else if y = "name" then some (.str (nameQ v.q) v.tq) else m y) :=
  fr_know (x := "cands") (fr_know (x := "score") (fr_know (x := "more") (fr_know (x := "step") (fr_know (x := "part") (fr_know (x := "profile") (fr_know T.I.F T.m1) (v := .ref v.pr) T.m2) (v := .ref v.lp) T.m3) (v := .ref v.sv) T.m4) (v := .ref v.lm) T.m5) (v := v.scv) T.m6) (v := .int v.n v.tn) T.m7
theorem Tail.news {w : World} {h₀ : Heap} {L : Addr} {v : TV} {s : Shared} {m : Str → Option Value} {c : Nat → Option Value} (T : Tail w h₀ L v s m c) :
    ∃ o1 o2 o3 o4 o5, News h₀ L s.heap [(L + 1, o1), (L + 2, o2), (L + 3, o3), (L + 4, o4), (L + 5, o5)] ∧ o1.data = .cell (some (.ref v.lg)) ∧ o2.data = .cell (c 2) ∧ o3.data = .cell (some (.ref v.lo)) ∧ o4.data = .cell (some (.ref v.ll)) ∧ o5.data = .cell (some (.ref v.lz)) := by
  obtain ⟨o1, o2, o3, o4, o5, N0, d1, d2, d3, d4, d5⟩ := T.I.news
  exact ⟨o1, o2, o3, o4, o5, N0, d1.trans (congrArg _ T.c1), d2, d3.trans (congrArg _ T.c3), d4.trans (congrArg _ T.c4), d5.trans (congrArg _ T.c5)⟩
/-- the body of the law's loop over all candidates -/
noncomputable def body12 (P : Params) : List Stmt := match st 12 P with
  | .For _ _ b _ _ => b
  | _ => []
/-- what is asked of a member -/
structure MemOk (v : TV) (i : Nat) : Prop where
  added : remV v.q v.V v.gs i ≤ addV v.q v.V (v.ps.filter fun x => !decide (x = i)) i
  nonneg : 0 ≤ remV v.q v.V v.gs i
  gone : remV v.q v.V v.gs i = scoreV v.q v.V v.gs - scoreV v.q v.V (v.gs.filter fun x => !decide (x = i))
/-- what is asked of the others -/
structure OutOk (v : TV) (i : Nat) : Prop where
  part : i ∉ v.ps
  more : addV v.q v.V v.gs i ≤ addV v.q v.V v.ps i
  nonneg : 0 ≤ addV v.q v.V v.gs i
  less : addV v.q v.V v.gs i = scoreV v.q v.V (v.gs ++ [i]) - scoreV v.q v.V v.gs
section
variable {prog : Program} {w : World} {A : Around} {E : Value → Shared → Prop} {s : Shared}
theorem nums_subR {l : Addr} {z : Nat → Int} {n c : Nat} {t : Tok} {value slice : Expr} {Q : Value → Shared → Prop} (N : NumsAt s.heap l z n) (hc : c < n) (hn : n < 1000) (h : ∀ v, NumAt s.heap v (z c) → Q v s)
    (hs : subscripted slice false (.ref l) (.int (c : Nat) t) = operate [.ref l, .int (c : Nat) t] (getItem (.ref l) (.int (c : Nat) t)) := by with_unfolding_all rfl) : wpAny (model prog w) A (subscriptTail value slice (.ref l) (.int (c : Nat) t)) Q E s := by
  obtain ⟨items, hl, hz, hi⟩ := N
  have hx : items[c]? = some items[c] := Array.getElem?_eq_getElem (by omega)
  exact subscriptTail_builtinR hl.typeIs slot_list_getitem.lookup (wpAny_getItem_list hl (by omega) (by omega) (by simpa using hx) ⟨rfl, h _ (hi c _ hx)⟩) hs
end
theorem bne_nat {j i : Nat} : ((j : Int) != (i : Int)) = !decide (j = i) := by
  show (!((j : Int) == (i : Int))) = _
  congr 1
  rw [Bool.eq_iff_iff]
  simp only [beq_iff_eq, decide_eq_true_eq]
  exact ⟨fun h => by exact_mod_cast h, fun h => by rw [h]⟩
end
section
local macro_rules | `(tactic| walk_at "compareOp In int ref") => `(tactic| refine Stopped.go ?_)
local macro_rules | `(tactic| walk_at "exec Assign cons ListComp") => `(tactic| refine Stopped.go ?_)
local macro_rules | `(tactic| walk_at "subscriptTail") => `(tactic| refine Stopped.go ?_)
local macro_rules | `(tactic| walk_at "storeName") => `(tactic| refine Stopped.go ?_)
local macro_rules | `(tactic| walk_at "call ref") => `(tactic| ((with_reducible show wpAny _ _ (call (Value.ref 523) _) _ _ _); refine Stopped.go ?_))
local macro_rules | `(tactic| walk_at "call ref") => `(tactic| ((with_reducible show wpAny _ _ (call (Value.ref 334) _) _ _ _); refine Stopped.go ?_))
local macro_rules | `(tactic| walk_at "call ref") => `(tactic| ((with_reducible show wpAny _ _ (call (Value.ref 341) _) _ _ _); refine Stopped.go ?_))
local macro_rules | `(tactic| walk_at "call ref") => `(tactic| ((with_reducible show wpAny _ _ (call (Value.ref 278) _) _ _ _); refine Stopped.go ?_))
local macro_rules | `(tactic| walk_at "call ref") => `(tactic| ((with_reducible show wpAny _ _ (call (Value.ref 271) _) _ _ _); refine Stopped.go ?_))
local macro_rules | `(tactic| walk_at "newTuple") => `(tactic| refine Stopped.go ?_)
local macro_rules | `(tactic| walk_at "eval ListComp") => `(tactic| refine Stopped.go ?_)
section
variable {prog : Program} {w : World} {A : Around} {E : Value → Shared → Prop} {s : Shared} {h₀ : Heap} {L : Addr} {m : Str → Option Value} {c : Nat → Option Value} {p : Program} {loose : List Str} {mg mb : Str → Option Value} {Q : Flow → Shared → Prop}
theorem law_mem {v : TV} {i : Nat} {ti : Tok} (X : (Mine.hd.heap_39 w.params).In h₀) (Tp : TopRead p loose mg mb h₀) (hA : Room A 44) (T : Tail w h₀ L v s m c) (c2 : c 2 = some (.int i ti)) (hi : i < v.n) (him : i ∈ v.gs) (hM : MemOk v i)
    (k : ∀ s' m', Tail w h₀ L v s' m' c → Ste s s' → Q .next s') :
    wpAny (model prog w) A (execs (body12 w.params) (lawEnv w L)) Q (fun _ _ => False) s := by
  conv in (body12 _) => whnf
  unfold lawEnv
  conv in (lawScope _) => whnf
  obtain ⟨o1, o2, o3, o4, o5, N0, d1, d2, d3, d4, d5⟩ := T.news
  rw [c2] at d2
  have F0 := T.fr
  obtain ⟨h, g, d, t, oss⟩ := s
  have K0 : Ke ⟨h, g, d, t, oss⟩ ⟨h, g, d, t, oss⟩ := Ke.refl _
  dsimp only at F0 N0 ⊢
  k_steps
  refine Stopped.on (in_nats T.hg ?_)
  rw [decide_eq_true him]
  k_steps
  refine Stopped.on (assign_comp (cl := [("cand", L + 2)]) (cs := v.ps) (fun x => !decide (x = i)) T.I rfl (by unfold Free; decide) T.Cp.len (by rfl) rfl (by decide) rfl (by decide) rfl rfl rfl (Room.handled (n := 0) (by walk_at "my room")) ?ev ?test ?fin)
  case ev => exact nameX_L F0 rfl (Stopped.on ⟨v.lp, rfl, T.hp, Ke.refl _⟩)
  case test =>
    intro C j t' s₃ m₃ E' hj hns hm hk3
    rw [List.forIn_cons]
    simp only [if_true]
    refine wpAny_bind (wpAny_bind (wpAny_isTrue_Compare1 (wpAny_Name (wpAny_loadName_local rfl rfl hns hm (wpAny_Name (wpAny_loadName_cell rfl rfl rfl ⟨o2, hk3 _ _ (N0 (L + 2, o2) (by k_mem)).1, d2⟩ (ne_int (wpAny_truthy_bool ?_))))))))
    refine wpAny_pure ?_
    dsimp only
    rw [List.forIn_nil]
    refine wpAny_pure ⟨?_, s₃.heap, _, rfl, fun _ _ e => e⟩
    exact bne_nat
  case fin =>
    intro lw s0 I0 hs0 hN
    have T0 := T.store hs0 I0 (by decide)
    have Cw : Com v.n (v.ps.filter fun x => !decide (x = i)) := ⟨fun c hc => T.Cp.lt c (List.mem_filter.mp hc).1, Nat.le_trans (List.length_filter_le _ _) T.Cp.len⟩
    clear F0 N0 K0
    obtain ⟨o1, o2, o3, o4, o5, N0, d1, d2, d3, d4, d5⟩ := T0.news
    rw [c2] at d2
    have F0 := fr_know (x := "without") T0.fr (v := .ref lw) (show upd m "without" (.ref lw) "without" = _ from upd_eq)
    obtain ⟨h, g, d, t, oss⟩ := s0
    have K0 : Ke ⟨h, g, d, t, oss⟩ ⟨h, g, d, t, oss⟩ := Ke.refl _
    dsimp only at F0 N0 ⊢
    k_steps
    refine Stopped.on (wpAny_call (marg_add (X.keeps F0.keep) (Tp.keeps F0.keep) (by walk_at "my room") T0.B.S T0.B.P T0.B.n4 T0.B.VV T0.B.hV T0.B.hVn hN Cw.lt Cw.len fun la s1 k1 hl1 n1 => ?_))
    try dsimp only
    have K1 := K0.trans k1
    have F1 := fr_ke k1 F0
    have N1 := news_ke k1 N0
    clear F0 N0
    obtain ⟨h1, g1, e1, t1, os1⟩ := s1
    try dsimp only at F1 N1 n1 ⊢
    k_steps
    refine Stopped.on (nums_subR n1 hi (by have := T0.B.n4; omega) fun va na => ?_)
    rw [if_neg (by simp)] at na
    k_steps
    refine Stopped.on ((T0.ke K1).I.store_l (x := "added") rfl rfl (by unfold Free; decide) rfl fun s2 I2 hs2 => ?_)
    have T2 := (T0.ke K1).store hs2 I2 (by decide)
    have na2 := na.kh hs2.kh
    clear F1 N1 n1 na
    obtain ⟨o1, o2, o3, o4, o5, N0, d1, d2, d3, d4, d5⟩ := T2.news
    rw [c2] at d2
    have F0 := fr_know (x := "added") T2.fr (v := va) (show upd (upd m "without" (.ref lw)) "added" va "added" = _ from upd_eq)
    obtain ⟨h, g, d, t, oss⟩ := s2
    have K0 : Ke ⟨h, g, d, t, oss⟩ ⟨h, g, d, t, oss⟩ := Ke.refl _
    dsimp only at F0 N0 ⊢
    k_steps
    refine Stopped.on (nums_sub (T2.hl.keep K0.1) hi (by have := T2.B.n4; omega) fun v1 n1 => ?_)
    rw [if_pos him] at n1
    k_steps
    refine num_ne (X.keeps F0.keep) (Tp.keeps F0.keep) (by walk_at "my room") (n1) (.inl ⟨-1, _, rfl, rfl⟩) fun s2 k2 => ?_
    try dsimp only
    have K2 := K0.trans k2
    have F2 := fr_ke k2 F0
    have N2 := news_ke k2 N0
    clear F0 N0
    obtain ⟨h2, g2, e2, t2, os2⟩ := s2
    try dsimp only at F2 N2 ⊢
    rw [show (!decide ((-45360 : Int) = 45360 * (-1))) = false from by decide]
    k_steps
    refine Stopped.on (nums_sub (T2.hz.keep K2.1) hi (by have := T2.B.n4; omega) fun v3 n3 => ?_)
    rw [T2.z1 i hi him] at n3
    k_steps
    refine num_lt (X.keeps F2.keep) (Tp.keeps F2.keep) (by walk_at "my room") (n3) (.inl ⟨0, _, rfl, rfl⟩) fun s4 k4 => ?_
    try dsimp only
    have K4 := K2.trans k4
    have F4 := fr_ke k4 F2
    have N4 := news_ke k4 N2
    clear F2 N2
    obtain ⟨h4, g4, e4, t4, os4⟩ := s4
    try dsimp only at F4 N4 ⊢
    rw [show decide (remV v.q v.V v.gs i < 45360 * 0) = false from decide_eq_false (by have := hM.nonneg; omega)]
    k_steps
    refine Stopped.on (nums_sub (T2.hz.keep K4.1) hi (by have := T2.B.n4; omega) fun v5 n5 => ?_)
    rw [T2.z1 i hi him] at n5
    k_steps
    refine num_lt (X.keeps F4.keep) (Tp.keeps F4.keep) (by walk_at "my room") (na2.keep K4.1) (n5) fun s6 k6 => ?_
    try dsimp only
    have K6 := K4.trans k6
    have F6 := fr_ke k6 F4
    have N6 := news_ke k6 N4
    clear F4 N4
    obtain ⟨h6, g6, e6, t6, os6⟩ := s6
    try dsimp only at F6 N6 ⊢
    rw [show decide (addV v.q v.V (v.ps.filter fun x => !decide (x = i)) i < remV v.q v.V v.gs i) = false from decide_eq_false (by have := hM.added; omega)]
    k_steps
    refine Stopped.on (nums_sub (T2.hz.keep K6.1) hi (by have := T2.B.n4; omega) fun v7 n7 => ?_)
    rw [T2.z1 i hi him] at n7
    k_steps
    refine Stopped.on (comp_nats (cl := [("cand", L + 2)]) (cs := v.gs) (fun x => !decide (x = i)) (fun c hc => Nat.lt_of_lt_of_le (T2.Cg.lt c hc) T2.B.n4) T2.Cg.len (T2.ke K6).I.tab rfl (by decide) rfl (by decide) rfl (Room.handled (n := 0) (by walk_at "my room")) ?ev2 ?test2 ?fin2)
    case ev2 => exact nameX_C N6 rfl (by k_mem) d1 (Stopped.on ⟨v.lg, rfl, T2.hg.keep K6.1, Ke.refl _⟩)
    case test2 =>
      intro C j t' s₃ m₃ E' hj hns hm hk3
      rw [List.forIn_cons]
      simp only [if_true]
      refine wpAny_bind (wpAny_bind (wpAny_isTrue_Compare1 (wpAny_Name (wpAny_loadName_local rfl rfl hns hm (wpAny_Name (wpAny_loadName_cell rfl rfl rfl ⟨o2, hk3 _ _ (N6 (L + 2, o2) (by k_mem)).1, d2⟩ (ne_int (wpAny_truthy_bool ?_))))))))
      refine wpAny_pure ?_
      dsimp only
      rw [List.forIn_nil]
      refine wpAny_pure ⟨?_, s₃.heap, _, rfl, fun _ _ e => e⟩
      exact bne_nat
    case fin2 =>
      intro lw2 s8 hD8 n8 k8
      have Cw2 : Com v.n (v.gs.filter fun x => !decide (x = i)) := ⟨fun c hc => T2.Cg.lt c (List.mem_filter.mp hc).1, Nat.le_trans (List.length_filter_le _ _) T2.Cg.len⟩
      try dsimp only
      have K8 := K6.trans k8
      have F8 := fr_ke k8 F6
      have N8 := news_ke k8 N6
      clear F6 N6
      obtain ⟨h8, g8, e8, t8, os8⟩ := s8
      try dsimp only at F8 N8 n8 ⊢
      k_steps
      refine Stopped.on (wpAny_call (thiele (X.keeps F8.keep) (Tp.keeps F8.keep) (by walk_at "my room") T2.B.q7 (T2.B.P.keep K8.1) (VotersAt.kh T2.B.VV (KH.of K8.1)) T2.B.hV (n8) (fun c hc => Nat.lt_of_lt_of_le (Cw2.lt c hc) T2.B.n4) Cw2.len fun v9 s9 k9 n9 => ?_))
      try dsimp only
      have K9 := K8.trans k9
      have F9 := fr_ke k9 F8
      have N9 := news_ke k9 N8
      clear F8 N8
      obtain ⟨h9, g9, e9, t9, os9⟩ := s9
      try dsimp only at F9 N9 n9 ⊢
      k_steps
      refine num_sub (X.keeps F9.keep) (Tp.keeps F9.keep) (by walk_at "my room") (T2.hs.keep K9.1) (n9) fun v10 s10 k10 n10 => ?_
      try dsimp only
      have K10 := K9.trans k10
      have F10 := fr_ke k10 F9
      have N10 := news_ke k10 N9
      clear F9 N9
      obtain ⟨h10, g10, e10, t10, os10⟩ := s10
      try dsimp only at F10 N10 n10 ⊢
      k_steps
      refine num_ne (X.keeps F10.keep) (Tp.keeps F10.keep) (by walk_at "my room") (n7.keep ((k8.trans k9).trans k10).1) (n10) fun s11 k11 => ?_
      try dsimp only
      have K11 := K10.trans k11
      have F11 := fr_ke k11 F10
      have N11 := news_ke k11 N10
      clear F10 N10
      obtain ⟨h11, g11, e11, t11, os11⟩ := s11
      try dsimp only at F11 N11 ⊢
      rw [show (!decide (remV v.q v.V v.gs i = scoreV v.q v.V v.gs - scoreV v.q v.V (v.gs.filter fun x => !decide (x = i)))) = false from by rw [decide_eq_true hM.gone]; rfl]
      k_steps
      refine k _ _ (T2.ke ?_) (hs0.trans (Ste.trans ?_ (hs2.trans ?_)))
      · exact K11
      · exact .of K1
      · exact .of K11
end
end
section
section
variable {prog : Program} {w : World} {A : Around} {E : Value → Shared → Prop} {s : Shared}
theorem add_nats {l b : Addr} {cs ds : List Nat} {Q : Value → Shared → Prop} (hl : NatsAt s.heap l cs) (hb : NatsAt s.heap b ds) (hz : cs.length + ds.length ≤ 1000)
    (h : ∀ D s', Ke s s' → NatsAt s'.heap D (cs ++ ds) → Q (.ref D) s') : wpAny (model prog w) A (binaryOp .Add (.ref l) (.ref b)) Q E s := by
  obtain ⟨items, hl, hi⟩ := hl
  obtain ⟨items2, hb, hj⟩ := hb
  obtain ⟨⟨cls, dd, data, sl⟩, ho, hc, n, hd⟩ := id hl
  obtain ⟨⟨cls2, dd2, data2, sl2⟩, ho2, hc2, n2, hd2⟩ := id hb
  simp only at hc hd hc2 hd2
  subst hc hd hc2 hd2
  have hzi : items.size + items2.size ≤ sizeLine := by
    have h1 := hi.length
    have h2 := hj.length
    simp only [Array.length_toList, List.length_map] at h1 h2
    rw [sizeLine_eq]
    omega
  refine concat_meets ⟨_, ho, rfl⟩ ⟨_, ho2, rfl⟩ noFill_list_add seq_list_add PySem.F.slot_list_add PySem.F.entry_list_add (PySem.F.args_list_add_2 _ _) (list_addW l b items items2 n n2 dd dd2 sl sl2 hzi) ⟨ho, ho2, ?_⟩
  refine h _ _ (.of (tk := s.toks) fun b o e => Heap.get?_push_of_some _ e) ⟨items ++ items2, ⟨_, Heap.get?_push_size _ rfl, rfl, _, rfl⟩, ?_⟩
  rw [List.map_append, Array.toList_append]
  exact hi.append hj
theorem any_false {D : Addr} {ys : Array Value} {Q : Value → Shared → Prop} (hh : A.handled = none) (hl : s.heap.IsList D ys) (hall : ∀ (i : Nat) y, ys[i]? = some y → y = .bool false) (h : ∀ s', Ke s s' → Q (.bool false) s') :
    wpAny (model prog w) A (call (.builtin "any") [.ref D]) Q E s := by
  have hls : D < s.heap.objs.size := by obtain ⟨ol, hol, _⟩ := hl; exact Heap.lt_size hol
  refine call_any_walk (wpAny_pyIter_list hl ?_)
  refine ⟨_, _, _, _, _, _, fun _ => false, rfl, Walks.list (A := A.in1) hh s.heap.objs.size D (Nat.ne_of_lt hls) ys, ⟨⟨_, Heap.get?_push_size _ rfl, rfl, rfl⟩, hl.push _⟩, fun i v s Q E hv hQ => ?_, fun h' tk kk => ?_⟩
  · rw [hall i v hv]
    exact wpAny_truthy_bool hQ
  · rw [show ((List.range ys.size).any fun _ => false) = false from by simp]
    refine h _ (.of fun b o e => kk b o (fun q => ?_) (Heap.get?_push_of_some _ e))
    rw [List.mem_singleton.mp q, no_at] at e
    cases e
end
local macro_rules | `(tactic| walk_at "compareOp In int ref") => `(tactic| refine Stopped.go ?_)
local macro_rules | `(tactic| walk_at "binaryOp Add ref ref") => `(tactic| refine Stopped.go ?_)
local macro_rules | `(tactic| walk_at "newList") => `(tactic| refine Stopped.go ?_)
local macro_rules | `(tactic| walk_at "call builtin:any") => `(tactic| refine Stopped.go ?_)
local macro_rules | `(tactic| walk_at "subscriptTail") => `(tactic| refine Stopped.go ?_)
local macro_rules | `(tactic| walk_at "storeName") => `(tactic| refine Stopped.go ?_)
local macro_rules | `(tactic| walk_at "call ref") => `(tactic| ((with_reducible show wpAny _ _ (call (Value.ref 523) _) _ _ _); refine Stopped.go ?_))
local macro_rules | `(tactic| walk_at "call ref") => `(tactic| ((with_reducible show wpAny _ _ (call (Value.ref 334) _) _ _ _); refine Stopped.go ?_))
local macro_rules | `(tactic| walk_at "call ref") => `(tactic| ((with_reducible show wpAny _ _ (call (Value.ref 341) _) _ _ _); refine Stopped.go ?_))
local macro_rules | `(tactic| walk_at "call ref") => `(tactic| ((with_reducible show wpAny _ _ (call (Value.ref 278) _) _ _ _); refine Stopped.go ?_))
local macro_rules | `(tactic| walk_at "call ref") => `(tactic| ((with_reducible show wpAny _ _ (call (Value.ref 271) _) _ _ _); refine Stopped.go ?_))
local macro_rules | `(tactic| walk_at "newTuple") => `(tactic| refine Stopped.go ?_)
local macro_rules | `(tactic| walk_at "eval ListComp") => `(tactic| refine Stopped.go ?_)
section
variable {prog : Program} {w : World} {A : Around} {E : Value → Shared → Prop} {s : Shared} {h₀ : Heap} {L : Addr} {m : Str → Option Value} {c : Nat → Option Value} {p : Program} {loose : List Str} {mg mb : Str → Option Value} {Q : Flow → Shared → Prop}
theorem law_out {v : TV} {i : Nat} {ti : Tok} (X : (Mine.hd.heap_39 w.params).In h₀) (Tp : TopRead p loose mg mb h₀) (hA : Room A 44) (T : Tail w h₀ L v s m c) (c2 : c 2 = some (.int i ti)) (hi : i < v.n) (him : i ∉ v.gs) (hM : OutOk v i) (hlen : v.gs.length ≤ 4)
    (k : ∀ s' m', Tail w h₀ L v s' m' c → Ste s s' → Q .next s') :
    wpAny (model prog w) A (execs (body12 w.params) (lawEnv w L)) Q (fun _ _ => False) s := by
  conv in (body12 _) => whnf
  unfold lawEnv
  conv in (lawScope _) => whnf
  obtain ⟨o1, o2, o3, o4, o5, N0, d1, d2, d3, d4, d5⟩ := T.news
  rw [c2] at d2
  have F0 := T.fr
  obtain ⟨h, g, d, t, oss⟩ := s
  have K0 : Ke ⟨h, g, d, t, oss⟩ ⟨h, g, d, t, oss⟩ := Ke.refl _
  dsimp only at F0 N0 ⊢
  k_steps
  refine Stopped.on (in_nats T.hg ?_)
  rw [decide_eq_false him]
  k_steps
  refine Stopped.on (nums_sub (T.hm.keep K0.1) hi (by have := T.B.n4; omega) fun v1 n1 => ?_)
  rw [if_neg hM.part] at n1
  k_steps
  refine Stopped.on (nums_sub (T.hl.keep K0.1) hi (by have := T.B.n4; omega) fun v2 n2 => ?_)
  rw [if_neg him] at n2
  k_steps
  refine num_lt (X.keeps F0.keep) (Tp.keeps F0.keep) (by walk_at "my room") (n1) (n2) fun s3 k3 => ?_
  try dsimp only
  have K3 := K0.trans k3
  have F3 := fr_ke k3 F0
  have N3 := news_ke k3 N0
  clear F0 N0
  obtain ⟨h3, g3, e3, t3, os3⟩ := s3
  try dsimp only at F3 N3 ⊢
  rw [show decide (addV v.q v.V v.ps i < addV v.q v.V v.gs i) = false from decide_eq_false (by have := hM.more; omega)]
  k_steps
  refine Stopped.on (nums_sub (T.hl.keep K3.1) hi (by have := T.B.n4; omega) fun v4 n4 => ?_)
  rw [if_neg him] at n4
  k_steps
  refine num_lt (X.keeps F3.keep) (Tp.keeps F3.keep) (by walk_at "my room") (n4) (.inl ⟨0, _, rfl, rfl⟩) fun s5 k5 => ?_
  try dsimp only
  have K5 := K3.trans k5
  have F5 := fr_ke k5 F3
  have N5 := news_ke k5 N3
  clear F3 N3
  obtain ⟨h5, g5, e5, t5, os5⟩ := s5
  try dsimp only at F5 N5 ⊢
  rw [show decide (addV v.q v.V v.gs i < 45360 * 0) = false from decide_eq_false (by have := hM.nonneg; omega)]
  k_steps
  refine Stopped.on (nums_sub (T.hl.keep K5.1) hi (by have := T.B.n4; omega) fun v6 n6 => ?_)
  rw [if_neg him] at n6
  k_steps
  refine Stopped.on (wpAny_newList ?_ (by rw [sizeLine_eq]; simp))
  have hkp : Ke ⟨h5, g5, e5, t5, os5⟩ ⟨h5.push (seqObj "list" [Value.int (i : Nat) ti].toArray 0), g5, e5, t5, os5⟩ := .of fun b o e => Heap.get?_push_of_some _ e
  have hone : NatsAt (h5.push (seqObj "list" [Value.int (i : Nat) ti].toArray 0)) h5.objs.size [i] := ⟨_, ⟨_, Heap.get?_push_size _ rfl, rfl, _, rfl⟩, .cons _ _ .nil⟩
  refine Stopped.on (add_nats (s := ⟨h5.push (seqObj "list" [Value.int (i : Nat) ti].toArray 0), g5, e5, t5, os5⟩) ((T.hg.keep K5.1).keep hkp.1) hone (by have := T.Cg.len; simp only [List.length_cons, List.length_nil]; omega) fun D s7 k70 n7 => ?_)
  have k7 := hkp.trans k70
  have Cd : Com v.n (v.gs ++ [i]) := ⟨fun c hc => by
    rcases List.mem_append.mp hc with q | q
    · exact T.Cg.lt c q
    · rw [List.mem_singleton.mp q]; exact hi, by rw [List.length_append, List.length_singleton]; omega⟩
  try dsimp only
  have K7 := K5.trans k7
  have F7 := fr_ke k7 F5
  have N7 := news_ke k7 N5
  clear F5 N5
  obtain ⟨h7, g7, e7, t7, os7⟩ := s7
  try dsimp only at F7 N7 n7 ⊢
  k_steps
  refine Stopped.on (wpAny_call (thiele (X.keeps F7.keep) (Tp.keeps F7.keep) (by walk_at "my room") T.B.q7 (T.B.P.keep K7.1) (VotersAt.kh T.B.VV (KH.of K7.1)) T.B.hV (n7) (fun c hc => Nat.lt_of_lt_of_le (Cd.lt c hc) T.B.n4) Cd.len fun v8 s8 k8 n8 => ?_))
  try dsimp only
  have K8 := K7.trans k8
  have F8 := fr_ke k8 F7
  have N8 := news_ke k8 N7
  clear F7 N7
  obtain ⟨h8, g8, e8, t8, os8⟩ := s8
  try dsimp only at F8 N8 n8 ⊢
  k_steps
  refine num_sub (X.keeps F8.keep) (Tp.keeps F8.keep) (by walk_at "my room") (n8) (T.hs.keep K8.1) fun v9 s9 k9 n9 => ?_
  try dsimp only
  have K9 := K8.trans k9
  have F9 := fr_ke k9 F8
  have N9 := news_ke k9 N8
  clear F8 N8
  obtain ⟨h9, g9, e9, t9, os9⟩ := s9
  try dsimp only at F9 N9 n9 ⊢
  k_steps
  refine num_ne (X.keeps F9.keep) (Tp.keeps F9.keep) (by walk_at "my room") (n6.keep ((k7.trans k8).trans k9).1) (n9) fun s10 k10 => ?_
  try dsimp only
  have K10 := K9.trans k10
  have F10 := fr_ke k10 F9
  have N10 := news_ke k10 N9
  clear F9 N9
  obtain ⟨h10, g10, e10, t10, os10⟩ := s10
  try dsimp only at F10 N10 ⊢
  rw [show (!decide (addV v.q v.V v.gs i = scoreV v.q v.V (v.gs ++ [i]) - scoreV v.q v.V v.gs)) = false from by rw [decide_eq_true hM.less]; rfl]
  k_steps
  refine Stopped.on (comp_map (cl := [("gone", L + 5), ("cand", L + 2)]) (cs := v.gs) (fun _ => true) (fun _ y => y = .bool false) T.Cg.len (T.ke K10).I.tab rfl (by decide) rfl (by decide) rfl (Room.handled (n := 0) (by walk_at "my room")) ?ev ?test ?elt ?fin)
  case ev => exact nameX_C N10 rfl (by k_mem) d1 (Stopped.on ⟨v.lg, rfl, T.hg.keep K10.1, Ke.refl _⟩)
  case test =>
    intro C j t' s₃ m₃ E' hj hns hm hk3
    rw [List.forIn_nil]
    exact wpAny_pure ⟨rfl, s₃.heap, _, rfl, fun _ _ e => e⟩
  case elt =>
    intro C j t' s₃ m₃ E' hj hns hm hk3
    have hlt := T.z2 i hi him j (T.Cg.lt j hj) hj
    rw [← T.z1 j (T.Cg.lt j hj) hj] at hlt
    have hzz := T.hz.keep K10.1
    refine wpAny_Compare1 ?_
    refine sub_eval (l := v.lz) (i := i) (t := ti) hzz hk3 hi (by have := T.B.n4; omega) (fun Q hq => wpAny_Name (wpAny_loadName_cell rfl rfl rfl ⟨o5, hk3 _ _ (N10 (L + 5, o5) (by k_mem)).1, d5⟩ hq)) (fun Q hq => wpAny_Name (wpAny_loadName_cell rfl rfl rfl ⟨o2, hk3 _ _ (N10 (L + 2, o2) (by k_mem)).1, d2⟩ hq)) fun va hva => ?_
    refine sub_eval (l := v.lz) (i := j) (t := t') hzz hk3 (T.Cg.lt j hj) (by have := T.B.n4; omega) (fun Q hq => wpAny_Name (wpAny_loadName_cell rfl rfl rfl ⟨o5, hk3 _ _ (N10 (L + 5, o5) (by k_mem)).1, d5⟩ hq)) (fun Q hq => wpAny_Name (wpAny_loadName_local rfl rfl hns hm hq)) fun vb hvb => ?_
    refine num_le ((X.keeps F10.keep).keeps hk3) ((Tp.keeps F10.keep).keeps hk3) (by walk_at "my room") (hva.keep hk3) (hvb.keep hk3) fun s4 k4 => ?_
    rw [show decide (v.zg i ≤ v.zg j) = false from decide_eq_false (by omega)]
    exact ⟨rfl, s4.heap, s4.toks, k4.eq, k4.1⟩
  case fin =>
    intro D2 s11 ys hD hys hsz hat k11
    try dsimp only
    have K11 := K10.trans k11
    have F11 := fr_ke k11 F10
    have N11 := news_ke k11 N10
    clear F10 N10
    obtain ⟨h11, g11, e11, t11, os11⟩ := s11
    try dsimp only at F11 N11 ⊢
    k_steps
    refine Stopped.on (any_false (Room.handled (n := 0) (by walk_at "my room")) hys (fun i y e => by obtain ⟨_, _, r⟩ := hat i y e; exact r) fun s12 k12 => ?_)
    try dsimp only
    have K12 := K11.trans k12
    have F12 := fr_ke k12 F11
    have N12 := news_ke k12 N11
    clear F11 N11
    obtain ⟨h12, g12, e12, t12, os12⟩ := s12
    try dsimp only at F12 N12 ⊢
    k_steps
    refine k _ _ (T.ke ?_) ?_
    · exact K12
    · exact .of K12
end
end
section
section
variable {prog : Program} {w : World} {A : Around} {E : Value → Shared → Prop} {s : Shared} {env : Env}
/-- a for loop over range(n) in the law -/
theorem For_law {Q : Flow → Shared → Prop} {x : Str} {px pos : Pos} {iter : Expr} {body : List Stmt} {n : Nat} (hn : n ≤ 14) (hh : A.handled = none) (J : Nat → Shared → Prop)
    (hev : wpAny (model prog w) A (eval iter env) (fun xv s₁ => Stopped (∃ r t u v, xv = .ref r ∧ IsRange s₁.heap r 0 n 1 t u v ∧ Ke s s₁)) (fun _ _ => False) s)
    (J0 : ∀ s₁, Ke s s₁ → J 0 s₁)
    (Jst : ∀ i s₁ h' tk I, s.heap.get? I = none → (∃ a b c, IsRangeIter s₁.heap I a b c) → J i s₁ → (∀ b o, b ≠ I → s₁.heap.get? b = some o → h'.get? b = some o) → J i { s₁ with heap := h', toks := tk })
    (step : ∀ i t s₁ I, i < n → J i s₁ → s.heap.get? I = none → wpAny (model prog w) A (assign (.Name x px) env (.int (i : Nat) t)) (fun _ s₂ => wpAny (model prog w) A (execs body env)
      (fun f s₃ => f = .next ∧ (∀ a b c, IsRangeIter s₁.heap I a b c → IsRangeIter s₃.heap I a b c) ∧ J (i + 1) s₃) (fun _ _ => False) s₂) (fun _ _ => False) s₁)
    (hQ : ∀ s', J n s' → Q .next s') (hs : ∀ x, foldedSetIterable iter env x = pure x := by intro _; rfl) :
    wpAny (model prog w) A (exec (.For (.Name x px) iter body [] pos) env) Q (fun _ _ => False) s := by
  refine For_h (wpAny_mono hev (fun xv s₁ h₁ => ?_) fun _ _ e => e) hs
  obtain ⟨r, t, u, v, rfl, hr, hk⟩ := Stopped.go h₁
  obtain ⟨h1, h2⟩ := rng_small hn
  refine wpAny_pyIter_range hr h1 ?_
  rw [h2]
  have Wr : Walks prog w A s₁.heap.objs.size [s₁.heap.objs.size] [s₁.heap.objs.size] n (fun i v => ∃ t, v = .int (i : Nat) t) (fun i h => IsRangeIter h s₁.heap.objs.size (0 + (i : Nat) * 1) ((n : Int) - (i : Nat)) 1) := by
    have W := Walks.range (prog := prog) (w := w) hh s₁.heap.objs.size 0 1 n
    refine ⟨W.sub, W.frame, fun i s Q E hi st k => W.item i s Q E hi st fun v s' tk hP => k v s' tk ?_, W.done, W.self⟩
    obtain ⟨t, e⟩ := hP
    exact ⟨t, by rw [e, Int.zero_add, Int.mul_one]⟩
  have hI : s.heap.get? s₁.heap.objs.size = none := by
    cases q : s.heap.get? s₁.heap.objs.size with
    | none => rfl
    | some o => have := hk.1 _ _ q; rw [no_at] at this; cases this
  refine ⟨_, _, _, n, _, _, J, rfl, Wr, by show IsRangeIter _ _ _ _ _; simpa using Heap.get?_push_size _ rfl, J0 _ (.trans hk (.of fun b o e => Heap.get?_push_of_some _ e)), ?_, ?_, hQ⟩
  · intro i s₂ h' tk _ hst hJ kk
    exact Jst i s₂ h' tk _ hI ⟨_, _, _, hst⟩ hJ fun b o n e => kk b o (by simpa using n) e
  · rintro i v s₂ hi ⟨t, rfl⟩ hst hJ
    refine wpAny_mono (step i t s₂ _ hi hJ hI) (fun _ s₃ h₃ => wpAny_mono h₃ (fun f s₄ h₄ => ?_) fun _ _ e => e) fun _ _ e => e
    exact ⟨h₄.1, h₄.2.1 _ _ _ hst, h₄.2.2⟩
end
end
section
local macro_rules | `(tactic| walk_at "storeName") => `(tactic| refine Stopped.go ?_)
section
variable {prog : Program} {w : World} {A : Around} {E : Value → Shared → Prop} {s : Shared} {h₀ : Heap} {L : Addr} {m : Str → Option Value} {c : Nat → Option Value} {p : Program} {loose : List Str} {mg mb : Str → Option Value} {Q : Flow → Shared → Prop}
structure NamesOk (v : TV) (m : Str → Option Value) (c : Nat → Option Value) : Prop where
  m1 : m "name" = some (.str (nameQ v.q) v.tq)
  m2 : m "profile" = some (.ref v.pr)
  m3 : m "part" = some (.ref v.lp)
  m4 : m "step" = some (.ref v.sv)
  m5 : m "more" = some (.ref v.lm)
  m6 : m "score" = some v.scv
  m7 : m "cands" = some (.int v.n v.tn)
  c1 : c 1 = some (.ref v.lg)
  c3 : c 3 = some (.ref v.lo)
  c4 : c 4 = some (.ref v.ll)
  c5 : c 5 = some (.ref v.lz)
theorem Tail.names {v : TV} (T : Tail w h₀ L v s m c) : NamesOk v m c := ⟨T.m1, T.m2, T.m3, T.m4, T.m5, T.m6, T.m7, T.c1, T.c3, T.c4, T.c5⟩
theorem Tail.of {v : TV} {s' : Shared} {m' : Str → Option Value} {c' : Nat → Option Value} (T : Tail w h₀ L v s m c) (h : Ste s s') (I' : LI h₀ L s' m' c') (N : NamesOk v m' c') : Tail w h₀ L v s' m' c' :=
  ⟨I', T.B.kh h.kh, N.m1, N.m2, N.m3, N.m4, N.m5, N.m6, N.m7, N.c1, N.c3, N.c4, N.c5, T.hg.kh h.kh, T.hp.kh h.kh, T.ho.kh h.kh, T.hm.kh h.kh, T.hl.kh h.kh, T.hz.kh h.kh, T.hs.kh h.kh, T.Cg, T.Cp, T.Co, T.z1, T.z2⟩
theorem rit_kh {h h' : Heap} (k : KH h h') {I : Addr} {a b c : Int} (x : IsRangeIter h I a b c) : IsRangeIter h' I a b c := k _ _ (.of (fun v e => by cases e) (fun _ _ e => by cases e)) x
/-- the frame's facts when an iterator turns -/
theorem LI.turn {s₀ s₁ : Shared} {h' : Heap} {tk : Nat} {I : Addr} {m₀ : Str → Option Value} {c₀ : Nat → Option Value} (I₀ : LI h₀ L s₀ m₀ c₀) (hI : s₀.heap.get? I = none) (I₁ : LI h₀ L s₁ m c) (k : Ste s₀ s₁) (kk : ∀ b o, b ≠ I → s₁.heap.get? b = some o → h'.get? b = some o) :
    LI h₀ L { s₁ with heap := h', toks := tk } m c ∧ Ste s₀ { s₁ with heap := h', toks := tk } := by
  have ne : ∀ b o, s₀.heap.get? b = some o → b ≠ I := fun b o e q => by rw [q, hI] at e; cases e
  have hL : L ≠ I := by obtain ⟨oL, _, _, h, _⟩ := I₀.F.ns; exact ne _ _ h
  refine ⟨⟨⟨I₁.F.ns.at' fun o e => kk _ o hL e, fun b o e => kk b o (ne b o (I₀.F.keep b o e)) (I₁.F.keep b o e), I₁.F.above⟩, I₁.H, fun i h1 h2 => ?_, ?_⟩, ⟨fun b o d e => kk b o (ne b o e) (k.kh b o d e), k.gens, k.drawn, k.os⟩⟩
  · obtain ⟨oc, hc, _⟩ := I₀.cells i h1 h2
    obtain ⟨o, ho, hd⟩ := I₁.cells i h1 h2
    exact ⟨o, kk _ _ (ne _ _ hc) ho, hd⟩
  · obtain ⟨op, ps, a, b⟩ := I₁.tab
    obtain ⟨op0, ps0, a0, b0⟩ := I₀.tab
    exact ⟨op, ps, kk _ _ (ne _ _ a0) a, b⟩
theorem law_st12 {v : TV} (X : (Mine.hd.heap_39 w.params).In h₀) (Tp : TopRead p loose mg mb h₀) (hA : Room A 44) (T : Tail w h₀ L v s m c) (hlen : v.gs.length ≤ 4)
    (h1 : ∀ i, i < v.n → i ∈ v.gs → MemOk v i) (h2 : ∀ i, i < v.n → i ∉ v.gs → OutOk v i)
    (k : ∀ s' m' c', Tail w h₀ L v s' m' c' → Ste s s' → Q .next s') :
    Ex prog w A L 12 Q s := by
  refine Ex.mk ?_
  conv in (st _ _) => whnf
  refine For_law (body := body12 w.params) (n := v.n) (by have := T.B.n4; omega) (Room.handled (n := 0) (by walk_at "my room")) (fun _ s' => ∃ m' c', LI h₀ L s' m' c' ∧ Ste s s' ∧ NamesOk v m' c') ?hev (fun s₁ k₁ => ⟨m, c, T.I.ke k₁, .of k₁, T.names⟩) ?Jst ?step ?hQ
  case hev =>
    unfold lawEnv
    conv in (lawScope _) => whnf
    obtain ⟨o1, o2, o3, o4, o5, N0, d1, d2, d3, d4, d5⟩ := T.news
    have F0 := T.fr
    obtain ⟨h, g, d, t, oss⟩ := s
    dsimp only at F0 N0 ⊢
    k_steps
    rename IsRange _ _ _ _ _ _ _ _ => rg
    exact Stopped.on ⟨_, _, _, _, rfl, rg, .of (by assumption)⟩
  case Jst =>
    rintro i s₁ h' tk I hI _ ⟨m', c', I₁, k₁, N₁⟩ kk
    obtain ⟨a, b⟩ := T.I.turn (tk := tk) hI I₁ k₁ kk
    exact ⟨m', c', a, b, N₁⟩
  case step =>
    rintro i t s₁ I hi ⟨m', c', I₁, k₁, N₁⟩ hI
    refine wpAny_assign_Name (I₁.store_c (i := 2) (by decide) (by decide) rfl rfl rfl fun s₂ I₂ k₂ => ?_)
    have T₂ : Tail w h₀ L v s₂ m' (updC c' 2 (.int (i : Nat) t)) := T.of (k₁.trans k₂) I₂ ⟨N₁.m1, N₁.m2, N₁.m3, N₁.m4, N₁.m5, N₁.m6, N₁.m7, N₁.c1, N₁.c3, N₁.c4, N₁.c5⟩
    have e2 : (updC c' 2 (.int (i : Nat) t)) 2 = some (.int (i : Nat) t) := rfl
    by_cases q : i ∈ v.gs
    · with_reducible refine law_mem X Tp hA T₂ e2 hi q (h1 i hi q) fun s₃ m₃ T₃ k₃ => ?_
      exact ⟨rfl, fun a b c x => rit_kh (k₂.trans k₃).kh x, m₃, _, T₃.I, (k₁.trans k₂).trans k₃, T₃.names⟩
    · with_reducible refine law_out X Tp hA T₂ e2 hi q (h2 i hi q) hlen fun s₃ m₃ T₃ k₃ => ?_
      exact ⟨rfl, fun a b c x => rit_kh (k₂.trans k₃).kh x, m₃, _, T₃.I, (k₁.trans k₂).trans k₃, T₃.names⟩
  case hQ =>
    rintro s' ⟨m', c', I₁, k₁, N₁⟩
    exact k s' m' c' (T.of k₁ I₁ N₁) k₁
end
end
section
local macro_rules | `(tactic| walk_at "call ref") => `(tactic| ((with_reducible show wpAny _ _ (call (Value.ref 523) _) _ _ _); refine Stopped.go ?_))
local macro_rules | `(tactic| walk_at "call ref") => `(tactic| ((with_reducible show wpAny _ _ (call (Value.ref 514) _ _) _ _ _); refine Stopped.go ?_))
local macro_rules | `(tactic| walk_at "call ref") => `(tactic| ((with_reducible show wpAny _ _ (call (Value.ref 390) _ _) _ _ _); refine Stopped.go ?_))
local macro_rules | `(tactic| walk_at "subscriptTail") => `(tactic| ((with_reducible show wpAny _ _ (subscriptTail _ _ (Value.ref _) (Value.int _ _)) _ _ _); (refine nos_sub (by assumption) (by first | decide | omega) (by first | decide | omega) ?_); intro _))
theorem LI.but {h₀ : Heap} {L : Addr} {s s' : Shared} {m : Str → Option Value} {c : Nat → Option Value} (I : LI h₀ L s m c) (M : Addr → Prop) (hM : ∀ b, M b → h₀.get? b = none ∧ ∀ o, s.heap.get? b = some o → (∀ v, o.data ≠ .cell v) ∧ ∀ es ep, o.data ≠ .dict es ep)
    (kk : ∀ b o, ¬ M b → s.heap.get? b = some o → s'.heap.get? b = some o) (ht : ∃ op ps, s'.heap.get? 52 = some op ∧ op.data = .fields ps) : LI h₀ L s' m c := by
  refine ⟨⟨I.F.ns.at' fun o e => kk _ o (fun q => ?_) e, fun b o e => kk b o (fun q => by rw [(hM b q).1] at e; cases e) (I.F.keep b o e), I.F.above⟩, I.H, fun i h1 h2 => ?_, ht⟩
  · obtain ⟨oL, es, ep, hL, hd, _⟩ := I.F.ns
    exact ((hM _ q).2 _ hL).2 _ _ hd
  · obtain ⟨oc, hc, hd⟩ := I.cells i h1 h2
    exact ⟨oc, kk _ _ (fun q => ((hM _ q).2 _ hc).1 _ hd) hc, hd⟩
theorem ProfAt.b52 {h h' : Heap} {x lv : Addr} {n : Nat} {V : List (Int × List Nat)} {w : World} {op : Obj} {ps : Array Value} (P : ProfAt h x n lv) (VV : VotersAt w h lv V) (h52 : h.get? 52 = some op) (hd : op.data = .fields ps)
    (kk : ∀ b o, b ≠ 52 → h.get? b = some o → h'.get? b = some o) : ProfAt h' x n lv ∧ VotersAt w h' lv V := by
  have ne : ∀ b o, (∀ vs, o.data ≠ .fields vs) → h.get? b = some o → b ≠ 52 := fun b o d e q => by rw [q, h52] at e; cases e; exact d _ hd
  obtain ⟨as, nv, ho, hV⟩ := VV
  refine ⟨P.but (fun b o _ d e => kk b o (ne b o d e) e) fun o e => by rw [ho] at e; cases e; exact ⟨_, _, rfl⟩, as, nv, kk _ _ (ne _ _ (fun vs e => by cases e) ho) ho, hV.imp fun x wt C v => v.but fun b o d _ e => kk b o (ne b o d e) e⟩
theorem isCode_data {h : Heap} {ps : Array Value} (hc : h.IsCode 56 52 ps) : ∃ op, h.get? 52 = some op ∧ op.data = .fields ps := by
  obtain ⟨o, vs, file, tf, flags, tg, inF, text, tt, op0, ho0, hd0, h11, h2, h7, h9, h10, hop, hpd, htr, hne⟩ := hc
  exact ⟨op0, hop, hpd⟩
theorem wt_ok (x : Int) : 0 < 1 + x.fmod 3 ∧ 1 + x.fmod 3 < 4 := by
  rw [Int.fmod_eq_emod_of_nonneg x (by decide)]
  omega
/-- the body of the law's building loop -/
noncomputable def body4 (P : Params) : List Stmt := match st 4 P with
  | .For _ _ b _ _ => b
  | _ => []
section
variable {prog : Program} {w : World} {A : Around} {E : Value → Shared → Prop} {s : Shared} {h₀ : Heap} {L : Addr} {m : Str → Option Value} {c : Nat → Option Value} {p : Program} {loose : List Str} {mg mb : Str → Option Value} {Q : Flow → Shared → Prop}
theorem law_build1 {n i : Nat} {ti tn : Tok} {pr lv ln : Addr} {ns : Nat → Int} {V : List (Int × List Nat)} {ps : Array Value} (X : (Mine.hd.heap_39 w.params).In h₀) (Tp : TopRead p loose mg mb h₀) (Bm : BMd mg h₀) (hA : Room A 50) (I : LI h₀ L s m c)
    (hfile : ((prog.main.file : Str) == "/claim/cut.py") = true) (htop : (prog.main.scope.names.lookup ("super" : Str)).isSome = false) (h52 : h₀.get? 52 = none) (hlv : h₀.get? lv = none)
    (m1 : m "numbers" = some (.ref ln)) (m2 : m "cands" = some (.int n tn)) (m3 : m "profile" = some (.ref pr)) (m4 : m "k" = some (.int i ti)) (hi : i < 4) (hn : n ≤ 4) (hn2 : 2 ≤ n)
    (N : NosAt s.heap ln ns) (P : ProfAt s.heap pr n lv) (VV : VotersAt w s.heap lv V) (hV : VOk V) (hVn : ∀ p ∈ V, ∀ c ∈ p.2, c < n) (hVl : V.length ≤ 4) (hc : s.heap.IsCode 56 52 ps)
    (k : ∀ s' v, LI h₀ L s' m c → (∀ b o, b ≠ 52 → b ≠ lv → s.heap.get? b = some o → s'.heap.get? b = some o) → (∃ ps, s'.heap.IsCode 56 52 ps) → s'.drawn = s.drawn → s'.os = s.os → (AllBare s.gens → AllBare s'.gens) →
      (Cd56 s.heap → ∀ o o', s.heap.get? 52 = some o → s'.heap.get? 52 = some o' → GrowO o o') → VotersAt w s'.heap lv (V ++ [v]) → v.2 ∈ subs → 0 < v.1 → v.1 < 4 → (∀ c ∈ v.2, c < n) → Q .next s') :
    wpAny (model prog w) A (execs (body4 w.params) (lawEnv w L)) Q (fun _ _ => False) s := by
  conv in (body4 _) => whnf
  unfold lawEnv
  conv in (lawScope _) => whnf
  obtain ⟨o1, o2, o3, o4, o5, N0, d1, d2, d3, d4, d5⟩ := I.news
  have F0 := fr_know (x := "k") (fr_know (x := "cands") (fr_know (x := "profile") (fr_know I.F m1) (v := .ref pr) m3) (v := .int n tn) m2) (v := .int i ti) m4
  obtain ⟨h, g, d, t, oss⟩ := s
  have K0 : Ke ⟨h, g, d, t, oss⟩ ⟨h, g, d, t, oss⟩ := Ke.refl _
  dsimp only at F0 N0 P N ⊢
  k_steps
  refine Stopped.on (wpAny_call (law_cands hn (X.keeps F0.keep) (Tp.keeps F0.keep) (by walk_at "my room") fun la s1 k1 hl1 n1 => ?_))
  try dsimp only
  have K1 := K0.trans k1
  have F1 := fr_ke k1 F0
  have N1 := news_ke k1 N0
  clear F0 N0
  obtain ⟨h1, g1, e1, t1, os1⟩ := s1
  try dsimp only at F1 N1 n1 ⊢
  have NN1 : NosAt h1 ln ns := NosAt.kh N (KH.of K1.1)
  k_steps
  obtain ⟨op, hop, hopd⟩ := isCode_data hc
  have hc1 : h1.IsCode 56 52 ps := hc.keeps K1.1
  have hcs4 : ∀ x ∈ (List.range n).filter (bit _), x < 4 := range_lt (f := bit (ns (6 + (i : Int)).toNat)) hn
  refine Stopped.on (wpAny_call (make_voter (v := .none) (X.keeps F1.keep) (Tp.keeps F1.keep) (bmd_but Bm fun b o _ e => F1.keep b o e) hc1 (by walk_at "my room") (.inl n1) hcs4 (List.Pairwise.filter _ List.nodup_range) (.inl rfl) hfile htop (wt_ok _).1 (.inl ⟨rfl, rfl⟩) fun y s2 hK hy hVy => ?_))
  try dsimp only
  have he : insAll ((List.range n).filter (bit (ns (6 + (i : Int)).toNat))) [] ∈ subs := insAll_sub (by decide)
  obtain ⟨ps2, hc2⟩ := hK.code
  obtain ⟨op2, hop2, hopd2⟩ := isCode_data hc2
  have I2 : LI h₀ L s2 m c := (I.ke K1).but (fun b => b = 52) (fun b q => by
    subst q
    refine ⟨h52, fun o e => ?_⟩
    cases (K1.1 _ _ hop).symm.trans e
    exact ⟨fun v e => (by rw [hopd] at e; cases e), fun _ _ e => (by rw [hopd] at e; cases e)⟩) (fun b o q e => hK.keep b o q e) ⟨op2, ps2, hop2, hopd2⟩
  obtain ⟨P2, VV2⟩ := ProfAt.b52 (P.keep K1.1) (VotersAt.kh VV (KH.of K1.1)) (K1.1 _ _ hop) hopd hK.keep
  have hk2 := hK.keep
  have hd2 := hK.drawn
  have ho2 := hK.os
  have hb2 := hK.bare
  have ht2 := hK.tab
  clear hK F1 N1 NN1
  obtain ⟨p1, p2, p3, p4, p5, N2, _, _, _, _, _⟩ := I2.news
  have F2 := I2.F
  obtain ⟨h2, g2, e2, t2, os2⟩ := s2
  dsimp only at F2 N2 hVy P2 VV2 hc2 hop2 hk2 hd2 ho2 hb2 ht2 ⊢
  k_steps
  have hbase : ∀ b o, h₀.get? b = some o → (hideAll h2 [52, lv]).get? b = some o := fun b o e => hideAll_get [52, lv] (F2.keep _ _ e) (by
    simp only [List.mem_cons, List.not_mem_nil, or_false, not_or]
    exact ⟨fun q => (by rw [q, h52] at e; cases e), fun q => (by rw [q, hlv] at e; cases e)⟩)
  have hCn : ∀ c ∈ insAll ((List.range n).filter (bit (ns (6 + (i : Int)).toNat))) [], c < n := fun c hc => by
    have := (mem_insAll hcs4).mp hc
    simp only [List.not_mem_nil, false_and, or_false] at this
    exact List.mem_range.mp (List.mem_filter.mp this).1
  refine Stopped.on (wpAny_call (add_voter (X.keeps hbase) (Tp.keeps hbase) (bmd_but Bm fun b o _ e => hbase b o e) hc2 (by walk_at "my room") P2 hn hVy VV2 (by omega) he hCn hfile htop (wt_ok _).1 fun s3 k3 hc3 hd3 ho3 hb3 ht3 hV3 => ?_))
  try dsimp only
  obtain ⟨ps3, hc3'⟩ := hc3
  obtain ⟨op3, hop3, hopd3⟩ := isCode_data hc3'
  have hlv2 := VV2
  obtain ⟨_, _, hlo, _⟩ := hlv2
  have I3 : LI h₀ L s3 m c := I2.but (fun b => b = 52 ∨ b = lv) (fun b q => by
    rcases q with rfl | rfl
    · refine ⟨h52, fun o e => ?_⟩
      cases hop2.symm.trans e
      exact ⟨fun v e => (by rw [hopd2] at e; cases e), fun _ _ e => (by rw [hopd2] at e; cases e)⟩
    · refine ⟨hlv, fun o e => ?_⟩
      cases hlo.symm.trans e
      exact ⟨fun v e => (by cases e), fun _ _ e => (by cases e)⟩) (fun b o q e => k3 b o (fun x => q (.inl x)) (fun x => q (.inr x)) e) ⟨op3, ps3, hop3, hopd3⟩
  clear F2 N2
  refine wpAny_execs_nil (k s3 _ I3 (fun b o n1 n2 e => k3 b o n1 n2 (hk2 b o n1 (K1.1 _ _ e))) ⟨ps3, hc3'⟩ (hd3.trans (hd2.trans K1.2.2.1)) (ho3.trans (ho2.trans K1.2.2.2)) (fun hb => hb3 (hb2 (by rw [show g1 = g from K1.2.1]; exact hb))) (fun hC o o' e e' => ?_) hV3 he (wt_ok _).1 (wt_ok _).2 hCn)
  have hC1 : Cd56 h1 := hC.mono fun o e => K1.1 _ _ e
  have hC2 : Cd56 h2 := hC1.mono fun o e => hk2 _ _ (by decide) e
  exact (ht2 hC1 o op2 (K1.1 _ _ e) hop2).trans (ht3 hC2 op2 o' hop2 e')
end
end
section
local macro_rules | `(tactic| walk_at "subscriptTail") => `(tactic| ((with_reducible show wpAny _ _ (subscriptTail _ _ (Value.ref _) (Value.int _ _)) _ _ _); (refine nos_sub (by assumption) (by first | decide | omega) (by first | decide | omega) ?_); intro _))
theorem isCode_kh {h h' : Heap} {ps : Array Value} (hc : h.IsCode 56 52 ps) (k : KH h h') : h'.IsCode 56 52 ps := by
  obtain ⟨o, vs, file, tf, flags, tg, inF, text, tt, op0, ho0, hd0, h11, h2, h7, h9, h10, hop, hpd, htr, hne⟩ := hc
  exact ⟨o, vs, file, tf, flags, tg, inF, text, tt, op0, k _ _ (.of (fun v e => by rw [hd0] at e; cases e) (fun _ _ e => by rw [hd0] at e; cases e)) ho0, hd0, h11, h2, h7, h9, h10, k _ _ (.of (fun v e => by rw [hpd] at e; cases e) (fun _ _ e => by rw [hpd] at e; cases e)) hop, hpd, htr, hne⟩
theorem cd56_kh {h h' : Heap} (x : Cd56 h) (k : KH h h') : Cd56 h' := by
  obtain ⟨o, vs, a, b, d, e⟩ := x
  exact ⟨o, vs, k _ _ (.of (fun v q => by rw [d] at q; cases q) (fun _ _ q => by rw [d] at q; cases q)) a, b, d, e⟩
/-- what the building loop keeps -/
def KB (lv : Addr) (h h' : Heap) : Prop := ∀ b o, Kh o → b ≠ 52 → b ≠ lv → h.get? b = some o → h'.get? b = some o
theorem KB.trans {lv : Addr} {a b c : Heap} (h : KB lv a b) (k : KB lv b c) : KB lv a c := fun x o d n1 n2 e => k x o d n1 n2 (h x o d n1 n2 e)
theorem KH.kb {lv : Addr} {h h' : Heap} (k : KH h h') : KB lv h h' := fun b o d _ _ e => k b o d e
theorem ProfAt.kb {h h' : Heap} {x lv : Addr} {n : Nat} {vs : Array Value} {nv : Nat} {op : Obj} {ps : Array Value} (P : ProfAt h x n lv) (hlv : h.get? lv = some (listOf vs nv)) (h52 : h.get? 52 = some op) (hd : op.data = .fields ps) (k : KB lv h h') : ProfAt h' x n lv := by
  have ne : ∀ b o, (∀ vs, o.data ≠ .fields vs) → h.get? b = some o → b ≠ 52 := fun b o d e q => by rw [q, h52] at e; cases e; exact d _ hd
  have nl : ∀ b o, (∀ vs n, o.data ≠ .seq vs n) → h.get? b = some o → b ≠ lv := fun b o d e q => by rw [q, hlv] at e; cases e; exact d _ _ rfl
  obtain ⟨dx, lc, es, ep, items, a1, a2, a3, a4, ⟨ol, a5, a6, n', a7⟩, a8, a9, a10, a11⟩ := P.out
  exact ⟨dx, lc, es, ep, items, k _ _ (kd_inst _ _).kh (ne _ _ (fun _ e => by cases e) a1) (nl _ _ (fun _ _ e => by cases e) a1) a1,
    k _ _ (kd_dict (.inr (.inr (.inr (.inl ⟨_, a3⟩))))).kh (ne _ _ (fun _ e => by cases e) a2) (nl _ _ (fun _ _ e => by cases e) a2) a2, a3, a4,
    ⟨ol, k _ _ (.of (fun v e => by rw [a7] at e; cases e) (fun _ _ e => by rw [a7] at e; cases e)) (ne _ _ (fun _ e => by rw [a7] at e; cases e) a5) a9 a5, a6, n', a7⟩, a8, a9, a10, a11⟩
theorem NosAt.kb {h h' : Heap} {l lv : Addr} {ns : Nat → Int} {op : Obj} {ps : Array Value} (N : NosAt h l ns) (hne : l ≠ lv) (h52 : h.get? 52 = some op) (hd : op.data = .fields ps) (k : KB lv h h') : NosAt h' l ns := by
  obtain ⟨items, ⟨o, ho, hc, n, hdo⟩, hi⟩ := N
  exact ⟨items, ⟨o, k _ _ (.of (fun v e => by rw [hdo] at e; cases e) (fun _ _ e => by rw [hdo] at e; cases e)) (fun q => by rw [q, h52] at ho; cases ho; rw [hd] at hdo; cases hdo) hne ho, hc, n, hdo⟩, hi⟩
def bNames : List Str := ["numbers", "cands", "profile", "name"]
/-- what holds as the profile is being built: from the state s₀ to s -/
structure Bld (w : World) (h₀ : Heap) (L lv : Addr) (n : Nat) (s₀ s : Shared) (m₀ m : Str → Option Value) (c : Nat → Option Value) (V : List (Int × List Nat)) : Prop where
  I : LI h₀ L s m c
  names : ∀ y ∈ bNames, m y = m₀ y
  VV : VotersAt w s.heap lv V
  hV : VOk V
  hVn : ∀ p ∈ V, ∀ c ∈ p.2, c < n
  code : ∃ ps, s.heap.IsCode 56 52 ps
  kb : KB lv s₀.heap s.heap
  drawn : s.drawn = s₀.drawn
  os : s.os = s₀.os
  bare : AllBare s₀.gens → AllBare s.gens
  tab : Cd56 s₀.heap → Cd56 s.heap ∧ ∀ o o', s₀.heap.get? 52 = some o → s.heap.get? 52 = some o' → GrowO o o'
section
variable {prog : Program} {w : World} {A : Around} {E : Value → Shared → Prop} {s : Shared} {h₀ : Heap} {L : Addr} {m : Str → Option Value} {c : Nat → Option Value} {p : Program} {loose : List Str} {mg mb : Str → Option Value} {Q : Flow → Shared → Prop}
theorem law_st4 {n : Nat} {tn : Tok} {pr lv ln : Addr} {ns : Nat → Int} {ps : Array Value} (X : (Mine.hd.heap_39 w.params).In h₀) (Tp : TopRead p loose mg mb h₀) (Bm : BMd mg h₀) (hA : Room A 50) (I : LI h₀ L s m c)
    (hfile : ((prog.main.file : Str) == "/claim/cut.py") = true) (htop : (prog.main.scope.names.lookup ("super" : Str)).isSome = false) (h52 : h₀.get? 52 = none) (hlv : h₀.get? lv = none)
    (m1 : m "numbers" = some (.ref ln)) (m2 : m "cands" = some (.int n tn)) (m3 : m "profile" = some (.ref pr)) (hn : n ≤ 4) (hn2 : 2 ≤ n)
    (N : NosAt s.heap ln ns) (hne : ln ≠ lv) (P : ProfAt s.heap pr n lv) (VV : VotersAt w s.heap lv []) (hc : s.heap.IsCode 56 52 ps)
    (k : ∀ s' m' V, Bld w h₀ L lv n s s' m m' c V → V.length ≤ 4 → Q .next s') :
    Ex prog w A L 4 Q s := by
  refine Ex.mk ?_
  obtain ⟨op, hop, hopd⟩ := isCode_data hc
  have hlv0 := VV
  obtain ⟨as0, nv0, hl0, _⟩ := hlv0
  have hnb : ∃ nb : Nat, nb ≤ 4 ∧ 1 + (ns 5).fmod 4 = (nb : Int) := by
    rw [Int.fmod_eq_emod_of_nonneg _ (by decide)]
    exact ⟨(1 + ns 5 % 4).toNat, by omega, by omega⟩
  obtain ⟨nb, hnb4, hnbe⟩ := hnb
  have n56 : (56 : Nat) ≠ lv := fun q => by
    obtain ⟨o56, _, _, _, _, _, _, _, _, _, ho56, hd56, _⟩ := hc
    rw [q, hl0] at ho56; cases ho56; cases hd56
  have n52 : (52 : Nat) ≠ lv := fun q => by rw [q, hl0] at hop; cases hop; cases hopd
  conv in (st _ _) => whnf
  refine For_law (body := body4 w.params) (n := nb) (by omega) (Room.handled (n := 0) (by walk_at "my room")) (fun i s' => ∃ m' V, Bld w h₀ L lv n s s' m m' c V ∧ V.length = i) ?hev ?J0 ?Jst ?step ?hQ
  case hev =>
    unfold lawEnv
    conv in (lawScope _) => whnf
    obtain ⟨o1, o2, o3, o4, o5, N0, d1, d2, d3, d4, d5⟩ := I.news
    have F0 := fr_know I.F m1
    obtain ⟨h, g, d, t, oss⟩ := s
    dsimp only at F0 N0 N ⊢
    k_steps
    rename IsRange _ _ _ _ _ _ _ _ => rg
    rw [show (1 + (ns (Int.toNat 5)).fmod 4 : Int) = (nb : Int) from hnbe] at rg
    exact Stopped.on ⟨_, _, _, _, rfl, rg, .of (by assumption)⟩
  case J0 =>
    intro s₁ k₁
    refine ⟨m, [], ⟨I.ke k₁, fun _ _ => rfl, VotersAt.kh VV (KH.of k₁.1), fun p hp => (by cases hp), fun p hp => (by cases hp), ⟨ps, hc.keeps k₁.1⟩, (KH.of k₁.1).kb, k₁.2.2.1, k₁.2.2.2, fun b => (by rw [k₁.2.1]; exact b), fun hC => ⟨hC.mono fun o e => k₁.1 _ _ e, fun o o' e e' => ?_⟩⟩, rfl⟩
    cases e'.symm.trans (k₁.1 _ _ e)
    exact .refl _
  case Jst =>
    rintro i s₁ h' tk I' hI ⟨ra, rb, rc, hri⟩ ⟨m', V, Bd, hVl⟩ kk
    have ne : ∀ b o, s.heap.get? b = some o → b ≠ I' := fun b o e q => by rw [q, hI] at e; cases e
    have hI0 : h₀.get? I' = none := by
      cases q : h₀.get? I' with
      | none => rfl
      | some o => have := I.F.keep _ _ q; rw [hI] at this; cases this
    obtain ⟨ps1, hc1⟩ := Bd.code
    have hc' : h'.IsCode 56 52 ps1 := by
      obtain ⟨o56, vs, file, tf, flags, tg, inF, text, tt, op0, ho0, hd0, h11, h2, h7, h9, h10, hop', hpd, htr, hne'⟩ := hc1
      obtain ⟨o560, _, _, _, _, _, _, _, _, _, ho56, _⟩ := id hc
      exact ⟨o56, vs, file, tf, flags, tg, inF, text, tt, op0, kk _ _ (ne _ _ ho56) ho0, hd0, h11, h2, h7, h9, h10, kk _ _ (ne _ _ hop) hop', hpd, htr, hne'⟩
    obtain ⟨op1, hop1, hopd1⟩ := isCode_data hc'
    refine ⟨m', V, ⟨Bd.I.but (fun b => b = I') (fun b q => ?_) (fun b o q e => kk b o q e) ⟨op1, ps1, hop1, hopd1⟩, Bd.names, ?_, Bd.hV, Bd.hVn, ⟨ps1, hc'⟩, fun b o dd n1 n2 e => kk b o (ne b o e) (Bd.kb b o dd n1 n2 e), Bd.drawn, Bd.os, Bd.bare, fun hC => ?_⟩, hVl⟩
    · subst q
      refine ⟨hI0, fun o e => ?_⟩
      cases hri.symm.trans e
      exact ⟨fun v e => (by cases e), fun _ _ e => (by cases e)⟩
    · obtain ⟨as, nv, hl, hvs⟩ := Bd.VV
      exact ⟨as, nv, kk _ _ (ne _ _ hl0) hl, hvs.imp fun y wt C vv => vv.but fun b o q1 _ e => kk b o (fun q => by rw [q, hri] at e; cases e; exact q1 _ rfl) e⟩
    · obtain ⟨a, b⟩ := Bd.tab hC
      obtain ⟨o56, _, ho56, _⟩ := id hC
      refine ⟨a.mono fun o e => kk _ _ (ne _ _ ho56) e, fun o o' e e' => b o o' e ?_⟩
      obtain ⟨opx, hopx, _⟩ := isCode_data hc1
      have := kk _ _ (ne _ _ hop) hopx
      cases e'.symm.trans this
      exact hopx
  case step =>
    rintro i t s₁ I' hi ⟨m', V, Bd, hVl⟩ hI
    refine wpAny_assign_Name (Bd.I.store_l (x := "k") rfl rfl (by unfold Free; decide) rfl fun s₂ I₂ k₂ => ?_)
    have nI52 : I' ≠ 52 := fun q => by rw [q, hop] at hI; cases hI
    have nIlv : I' ≠ lv := fun q => by rw [q, hl0] at hI; cases hI
    obtain ⟨ps1, hc1⟩ := Bd.code
    have P₂ := (P.kb hl0 hop hopd Bd.kb).kh k₂.kh
    have N₂ := (N.kb hne hop hopd Bd.kb).kh k₂.kh
    have e1 : ∀ y ∈ bNames, upd m' "k" (.int (i : Nat) t) y = m y := fun y hy => (upd_ne (by
      simp only [bNames, List.mem_cons, List.not_mem_nil, or_false] at hy
      rcases hy with rfl | rfl | rfl | rfl <;> decide)).trans (Bd.names y hy)
    refine law_build1 X Tp Bm hA I₂ hfile htop h52 hlv ((e1 _ (by decide)).trans m1) ((e1 _ (by decide)).trans m2) ((e1 _ (by decide)).trans m3) upd_eq (by omega) hn hn2 N₂ P₂ (VotersAt.kh Bd.VV k₂.kh) Bd.hV Bd.hVn (by omega) (isCode_kh hc1 k₂.kh) fun s₃ v I₃ k₃ hc₃ hd₃ ho₃ hb₃ ht₃ hV₃ v1 v2 v3 v4 => ?_
    refine ⟨rfl, fun a b c x => k₃ _ _ nI52 nIlv (rit_kh k₂.kh x), _, V ++ [v], ⟨I₃, e1, hV₃, fun p hp => ?_, fun p hp => ?_, hc₃, fun b o dd n1 n2 e => k₃ b o n1 n2 (k₂.kh b o dd (Bd.kb b o dd n1 n2 e)), hd₃.trans (k₂.drawn.trans Bd.drawn), ho₃.trans (k₂.os.trans Bd.os), fun b => hb₃ (by rw [k₂.gens]; exact Bd.bare b), fun hC => ?_⟩, by rw [List.length_append, hVl]; rfl⟩
    · rcases List.mem_append.mp hp with q | q
      · exact Bd.hV p q
      · rw [List.mem_singleton.mp q]; exact ⟨v1, v2, v3⟩
    · rcases List.mem_append.mp hp with q | q
      · exact Bd.hVn p q
      · rw [List.mem_singleton.mp q]; exact v4
    · obtain ⟨a, b⟩ := Bd.tab hC
      have a2 := cd56_kh a k₂.kh
      obtain ⟨opx, hopx, hpx⟩ := isCode_data hc1
      have hop2 : s₂.heap.get? 52 = some opx := k₂.kh _ _ (.of (fun v e => by rw [hpx] at e; cases e) (fun _ _ e => by rw [hpx] at e; cases e)) hopx
      exact ⟨a2.mono fun o e => k₃ _ _ (by decide) n56 e, fun o o' e e' => (b o opx e hopx).trans (ht₃ a2 opx o' hop2 e')⟩
  case hQ =>
    rintro s' ⟨m', V, Bd, hVl⟩
    exact k s' m' V Bd (by omega)
end
end
section
local macro_rules | `(tactic| walk_at "storeName") => `(tactic| refine Stopped.go ?_)
section
variable {prog : Program} {w : World} {A : Around} {E : Value → Shared → Prop} {s : Shared} {h₀ : Heap} {L : Addr} {m : Str → Option Value} {c : Nat → Option Value} {p : Program} {loose : List Str} {mg mb : Str → Option Value} {Q : Flow → Shared → Prop}
theorem law_st0 {ls : Addr} {items : List Value} {is : List Int} {op : Obj} {ps : Array Value} (I : LI h₀ L s m c) (h52 : h₀.get? 52 = none) (hop : s.heap.get? 52 = some op) (hopd : op.data = .fields ps) (X : (Mine.hd.heap_39 w.params).In h₀) (Tp : TopRead p loose mg mb h₀) (hA : Room A 50)
    (m1 : m "script" = some (.ref ls)) (hl : h₀.IsList ls items.toArray) (hi : IntsAre items is) (hlen : is.length ≤ 63)
    (k : ∀ ln ns s', LI h₀ L s' (upd m "numbers" (.ref ln)) c → s'.heap.get? 52 = some op → s'.gens = s.gens → s'.drawn = s.drawn → s'.os = s.os → NosAt s'.heap ln ns → Q .next s') :
    Ex prog w A L 0 Q s := by
  refine Ex.mk ?_
  conv in (st _ _) => whnf
  unfold lawEnv
  conv in (lawScope _) => whnf
  obtain ⟨o1, o2, o3, o4, o5, N1, d1, d2, d3, d4, d5⟩ := I.news
  have F0 := fr_know I.F m1
  have H0 := hid_know I.H m1
  have hl1 : s.heap.IsList ls items.toArray := by obtain ⟨o, ho, r⟩ := hl; exact ⟨o, I.F.keep _ _ ho, r⟩
  have n52 : (52 : Nat) ≠ L := fun q => by
    obtain ⟨oL, _, _, hL, hd, _⟩ := I.F.ns
    rw [← q, hop] at hL; cases hL; rw [hopd] at hd; cases hd
  have N0 : News h₀ L s.heap ((52, op) :: [(L + 1, o1), (L + 2, o2), (L + 3, o3), (L + 4, o4), (L + 5, o5)]) := fun x hx => by
    rcases List.mem_cons.mp hx with rfl | hx
    · exact ⟨hop, n52, h52⟩
    · exact N1 x hx
  clear N1
  obtain ⟨h, g, d, t, oss⟩ := s
  dsimp only at F0 N0 hl1 ⊢
  k_steps
  rename Fr _ _ _ _ => F9
  rename News _ _ _ _ => N9
  rename IntsAre _ (List.take 14 (_ ++ _)) => hI9
  have e0 : (fun y => if y = ("script" : Str) then some (Value.ref ls) else m y) = m := by
    funext y
    by_cases q : y = ("script" : Str)
    · rw [if_pos q, q, m1]
    · rw [if_neg q]
  rw [e0] at F9
  have h5 := (N9 (52, op) (by k_mem)).1
  have I9 := LI.of (s := ⟨_, g, d, t, oss⟩) F9 I.H (more := [_, _, _, _, _, _, (52, op)]) N9 d1 d2 d3 d4 d5 ⟨op, ps, h5, hopd⟩
  have hg9 := (N9 _ (.head _)).1
  have hz := hI9.length
  refine Stopped.on ?_
  refine LI.store_l (LI.toks I9) (x := "numbers") rfl rfl (by unfold Free; decide) rfl fun s' I' hs => ?_
  refine k _ (fun i => (List.take 14 (List.take 14 is ++ (List.replicate (Int.toNat 14) [(0 : Int)]).flatten)).getD i 0) s' I' (hs.kh _ _ (.of (fun v e => by rw [hopd] at e; cases e) (fun _ _ e => by rw [hopd] at e; cases e)) h5) hs.gens hs.drawn hs.os (NosAt.kh ⟨_, ⟨_, hg9, rfl, _, rfl⟩, ?_, fun i v hv => hI9.int_at i v (by simpa using hv)⟩ hs.kh)
  rw [List.size_toArray, hz]
  simp
end
end
section
local macro_rules | `(tactic| walk_at "storeName") => `(tactic| refine Stopped.go ?_)
local macro_rules | `(tactic| walk_at "newList") => `(tactic| refine Stopped.go ?_)
local macro_rules | `(tactic| walk_at "subscriptTail") => `(tactic| refine Stopped.go ?_)
local macro_rules | `(tactic| walk_at "call ref") => `(tactic| ((with_reducible show wpAny _ _ (call (Value.ref 477) _ _) _ _ _); refine Stopped.go ?_))
section
variable {prog : Program} {w : World} {A : Around} {E : Value → Shared → Prop} {s : Shared} {h₀ : Heap} {L : Addr} {m : Str → Option Value} {c : Nat → Option Value} {p : Program} {loose : List Str} {mg mb : Str → Option Value} {Q : Flow → Shared → Prop}
theorem law_st2 {ln : Addr} {ns : Nat → Int} (I : LI h₀ L s m c) (X : (Mine.hd.heap_39 w.params).In h₀) (Tp : TopRead p loose mg mb h₀) (hA : Room A 50) (m1 : m "numbers" = some (.ref ln)) (N : NosAt s.heap ln ns)
    (k : ∀ (n : Nat) tn s', 2 ≤ n → n ≤ 4 → LI h₀ L s' (upd m "cands" (.int n tn)) c → Ste s s' → Q .next s') :
    Ex prog w A L 2 Q s := by
  refine Ex.mk ?_
  conv in (st _ _) => whnf
  unfold lawEnv
  conv in (lawScope _) => whnf
  obtain ⟨o1, o2, o3, o4, o5, N0, d1, d2, d3, d4, d5⟩ := I.news
  have F0 := fr_know I.F m1
  obtain ⟨h, g, d, t, oss⟩ := s
  dsimp only at F0 N0 ⊢
  k_steps
  refine Stopped.on (nos_sub N (by decide) (by decide) fun t1 => ?_)
  k_steps
  have hn : ∃ n : Nat, 2 ≤ n ∧ n ≤ 4 ∧ 2 + (ns (Int.toNat 1)).fmod 3 = (n : Int) := by
    rw [Int.fmod_eq_emod_of_nonneg _ (by decide)]
    exact ⟨(2 + ns (Int.toNat 1) % 3).toNat, by omega, by omega, by omega⟩
  obtain ⟨n, hn2, hn4, hne⟩ := hn
  rw [hne]
  refine Stopped.on (LI.store_l (s := ⟨h, g, d, _, oss⟩) (LI.toks I) (x := "cands") rfl rfl (by unfold Free; decide) rfl fun s' I' hs => k n _ s' hn2 hn4 I' (Ste.trans ?_ hs))
  exact ⟨KH.refl _, rfl, rfl, rfl⟩
theorem law_st3 {n : Nat} {tn : Tok} (hn2 : 2 ≤ n) (hn4 : n ≤ 4) (I : LI h₀ L s m c) (X : (Mine.hd.heap_39 w.params).In h₀) (Tp : TopRead p loose mg mb h₀) (hA : Room A 50) (m1 : m "cands" = some (.int n tn))
    (k : ∀ x lv s', LI h₀ L s' (upd m "profile" (.ref x)) c → Ste s s' → ProfAt s'.heap x n lv → VotersAt w s'.heap lv [] → s.heap.get? lv = none → Q .next s') :
    Ex prog w A L 3 Q s := by
  refine Ex.mk ?_
  conv in (st _ _) => whnf
  unfold lawEnv
  conv in (lawScope _) => whnf
  obtain ⟨o1, o2, o3, o4, o5, N0, d1, d2, d3, d4, d5⟩ := I.news
  have F0 := fr_know I.F (v := .int n tn) m1
  obtain ⟨h, g, d, t, oss⟩ := s
  dsimp only at F0 N0 ⊢
  k_steps
  refine Stopped.on (wpAny_call (make_prof hn2 hn4 (X.keeps F0.keep) (Tp.keeps F0.keep) (by walk_at "my room") fun x lv s1 hk1 hx hlv hP hl => ?_))
  dsimp only
  have I1 := I.ke hk1
  k_steps
  refine Stopped.on (I1.store_l (x := "profile") rfl rfl (by unfold Free; decide) rfl fun s' I' hs => k x lv s' I' (Ste.trans (.of hk1) hs) (hP.kh hs.kh) (VotersAt.kh ⟨[], _, hl, .nil⟩ hs.kh) hlv)
theorem law_st1 {ln : Addr} {ns : Nat → Int} (I : LI h₀ L s m c) (X : (Mine.hd.heap_39 w.params).In h₀) (Tp : TopRead p loose mg mb h₀) (hA : Room A 50) (m1 : m "numbers" = some (.ref ln)) (N : NosAt s.heap ln ns)
    (k : ∀ (q : Nat) tq s', q < 7 → LI h₀ L s' (upd m "name" (.str (nameQ q) tq)) c → Ste s s' → Q .next s') :
    Ex prog w A L 1 Q s := by
  refine Ex.mk ?_
  conv in (st _ _) => whnf
  unfold lawEnv
  conv in (lawScope _) => whnf
  obtain ⟨o1, o2, o3, o4, o5, N0, d1, d2, d3, d4, d5⟩ := I.news
  have F0 := fr_know I.F m1
  obtain ⟨h, g, d, t, oss⟩ := s
  dsimp only at F0 N0 ⊢
  k_steps
  refine Stopped.on (wpAny_newList ?_ (by rw [sizeLine_eq]; simp))
  dsimp only
  generalize hI : [Value.str ("pav" : Str) _, _, _, _, _, _, _] = its
  have hseven : ∀ q, q < 7 → ∃ t', its[q]? = some (.str (nameQ q) t') := fun q hq => by
    subst hI
    have hq' : q = 0 ∨ q = 1 ∨ q = 2 ∨ q = 3 ∨ q = 4 ∨ q = 5 ∨ q = 6 := by omega
    rcases hq' with rfl | rfl | rfl | rfl | rfl | rfl | rfl <;> exact ⟨_, rfl⟩
  have hlen : its.length = 7 := by rw [← hI]; rfl
  clear hI
  have hD : (h.push { cls := .type "list", data := .seq its.toArray }).IsList h.objs.size its.toArray := ⟨_, Heap.get?_push_size _ rfl, rfl, _, rfl⟩
  have hkp : ∀ b o, h.get? b = some o → (h.push { cls := .type "list", data := .seq its.toArray }).get? b = some o := fun b o e => Heap.get?_push_of_some _ e
  generalize h.push { cls := .type "list", data := .seq its.toArray } = h1 at hD hkp ⊢
  have K1 : Ke ⟨h, g, d, t, oss⟩ ⟨h1, g, d, t, oss⟩ := .of hkp
  have I1 := I.ke K1
  have F1 := fr_ke (s := ⟨h, g, d, t, oss⟩) K1 F0
  have N1 := news_ke (s := ⟨h, g, d, t, oss⟩) K1 N0
  have NN := N.kh (KH.of hkp)
  clear F0 N0
  dsimp only at F1 N1 NN
  k_steps
  refine Stopped.on (nos_sub NN (by decide) (by decide) fun t1 => ?_)
  k_steps
  have hq : ∃ q : Nat, q < 7 ∧ (ns (Int.toNat 0)).fmod 7 = (q : Int) := by
    rw [Int.fmod_eq_emod_of_nonneg _ (by decide)]
    exact ⟨(ns (Int.toNat 0) % 7).toNat, by omega, by omega⟩
  obtain ⟨q, hq7, hqe⟩ := hq
  rw [hqe]
  obtain ⟨t2, ht2⟩ := hseven q hq7
  refine Stopped.on (subscriptTail_builtinR hD.typeIs slot_list_getitem.lookup (wpAny_getItem_list hD (by omega) (by omega) (by simpa using ht2) ⟨rfl, ?_⟩) (by with_unfolding_all rfl))
  refine LI.store_l (s := ⟨h1, g, d, _, oss⟩) (LI.toks I1) (x := "name") rfl rfl (by unfold Free; decide) rfl fun s' I' hs => k q t2 s' hq7 I' (Ste.trans ?_ hs)
  exact ⟨KH.of hkp, rfl, rfl, rfl⟩
end
end
section
theorem list19 {α : Type} {d : α} : ∀ {l : List α}, l.length = 19 → l = [l.getD 0 d, l.getD 1 d, l.getD 2 d, l.getD 3 d, l.getD 4 d, l.getD 5 d, l.getD 6 d, l.getD 7 d, l.getD 8 d, l.getD 9 d, l.getD 10 d, l.getD 11 d, l.getD 12 d, l.getD 13 d, l.getD 14 d, l.getD 15 d, l.getD 16 d, l.getD 17 d, l.getD 18 d]
  | [a0, a1, a2, a3, a4, a5, a6, a7, a8, a9, a10, a11, a12, a13, a14, a15, a16, a17, a18], _ => rfl
theorem body_len (P : Params) : (lawBody P).length = 19 := by rfl
theorem body_eq (P : Params) : lawBody P = [st 0 P, st 1 P, st 2 P, st 3 P, st 4 P, st 5 P, st 6 P, st 7 P, st 8 P, st 9 P, st 10 P, st 11 P, st 12 P, st 13 P, st 14 P, st 15 P, st 16 P, st 17 P, st 18 P] := list19 (body_len P)
/-- the plain law -/
structure LawOk (v : TV) : Prop where
  mem : ∀ i, i < v.n → i ∈ v.gs → MemOk v i
  out : ∀ i, i < v.n → i ∉ v.gs → OutOk v i
  both : ∀ bs : List Nat, (∀ x, x ∈ bs ↔ x ∈ v.gs ∨ x ∈ v.os) → scoreV v.q v.V bs + scoreV v.q v.V (v.gs.filter fun x => decide (x ∈ v.os)) ≤ scoreV v.q v.V v.gs + scoreV v.q v.V v.os ∧
    scoreV v.q v.V bs ≤ scoreV v.q v.V v.gs + ((v.os.filter fun x => !decide (x ∈ v.gs)).map fun c => if c ∈ v.gs then -45360 else addV v.q v.V v.gs c).sum ∧
    scoreV v.q v.V v.gs ≤ scoreV v.q v.V bs ∧ scoreV v.q v.V bs ≤ scoreV v.q v.V (List.range v.n)
  gone : (v.gs.map v.zg).sum ≤ scoreV v.q v.V v.gs
  part : scoreV v.q v.V v.ps ≤ scoreV v.q v.V v.gs
def MathAll : Prop := ∀ (v : TV) (a b c : Nat → Bool), v.q < 7 → 2 ≤ v.n → v.n ≤ 4 → VOk v.V → (∀ p ∈ v.V, ∀ c ∈ p.2, c < v.n) → v.gs = (List.range v.n).filter a → v.ps = ((List.range v.n).filter b).filter (fun x => decide (x ∈ v.gs)) → v.os = (List.range v.n).filter c →
  (∀ c, c < v.n → c ∈ v.gs → v.zg c = remV v.q v.V v.gs c) → LawOk v
theorem Exs.body {prog : Program} {w : World} {A : Around} {L : Addr} {Q : Flow → Shared → Prop} {s : Shared} (h : Exs prog w A L [0, 1, 2, 3, 4, 5, 6, 7, 8, 9, 10, 11, 12, 13, 14, 15, 16, 17, 18] Q s) :
    wpAny (model prog w) A (execs (lawBody w.params) (lawEnv w L)) Q (fun _ _ => False) s := by
  have hbe : lawBody w.params = [0, 1, 2, 3, 4, 5, 6, 7, 8, 9, 10, 11, 12, 13, 14, 15, 16, 17, 18].map fun i => st i w.params := body_eq w.params
  rw [hbe]
  with_reducible exact h.go
/-- what the whole law keeps -/
structure GK (h₀ : Heap) (s₀ s : Shared) : Prop where
  os : s.os = s₀.os
  bare : AllBare s₀.gens → AllBare s.gens
  tab : Cd56 h₀ → ∀ o, s₀.heap.get? 52 = some o → ∃ o', s.heap.get? 52 = some o' ∧ GrowO o o'
theorem GK.ste {h₀ : Heap} {L : Addr} {s₀ s s' : Shared} {m : Str → Option Value} {c : Nat → Option Value} (g : GK h₀ s₀ s) (I : LI h₀ L s m c) (k : Ste s s') : GK h₀ s₀ s' :=
  ⟨k.os.trans g.os, fun b => by rw [k.gens]; exact g.bare b, fun hC o e => by
    obtain ⟨o', e', gr⟩ := g.tab hC o e
    obtain ⟨op, ps, a, b⟩ := I.tab
    cases e'.symm.trans a
    exact ⟨_, k.kh _ _ (.of (fun v e => by rw [b] at e; cases e) (fun _ _ e => by rw [b] at e; cases e)) a, gr⟩⟩
theorem GK.bld {w : World} {h₀ : Heap} {L lv : Addr} {n : Nat} {s₀ s s' : Shared} {m m' : Str → Option Value} {c : Nat → Option Value} {V : List (Int × List Nat)} (g : GK h₀ s₀ s) (I : LI h₀ L s m c) (B : Bld w h₀ L lv n s s' m m' c V) : GK h₀ s₀ s' :=
  ⟨B.os.trans g.os, fun b => B.bare (g.bare b), fun hC o e => by
    obtain ⟨o', e', gr⟩ := g.tab hC o e
    obtain ⟨op, ps, a, b⟩ := B.I.tab
    exact ⟨op, a, gr.trans ((B.tab (hC.mono fun o e => I.F.keep _ _ e)).2 o' op e' a)⟩⟩
section
variable {prog : Program} {w : World} {A : Around} {E : Value → Shared → Prop} {s : Shared} {h₀ : Heap} {L : Addr} {m : Str → Option Value} {c : Nat → Option Value} {p : Program} {loose : List Str} {mg mb : Str → Option Value} {Q : Flow → Shared → Prop}
theorem law_tail {v : TV} {s₀ : Shared} (hM : LawOk v) (hg4 : v.gs.length ≤ 4) (X : (Mine.hd.heap_39 w.params).In h₀) (Tp : TopRead p loose mg mb h₀) (hA : Room A 50) (T : Tail w h₀ L v s m c) (g : GK h₀ s₀ s)
    (k : ∀ s', (∀ b o, h₀.get? b = some o → s'.heap.get? b = some o) → GK h₀ s₀ s' → Q (.ret (.bool true)) s') :
    Exs prog w A L [12, 13, 14, 15, 16, 17, 18] Q s := by
  have hA' : Room A 44 := hA.mono (by decide)
  refine Exs.cons (law_st12 X Tp hA' T hg4 hM.mem hM.out fun s1 m1 c1 T1 k1 => ?_)
  have g1 := g.ste T.I k1
  refine Exs.cons (law_st13 T1.B.n4 X Tp hA' T1.I T1.c1 T1.hg T1.Cg T1.c3 T1.ho T1.Co fun lb bs s2 I2 k2 hb Cb hbs => ?_)
  have T2 := T1.store k2 I2 (by decide)
  have g2 := g1.ste T1.I k2
  obtain ⟨b1, b2, b3, b4⟩ := hM.both bs hbs
  refine Exs.cons (law_st14 T2.B.n4 hA' T2.I T2.c1 T2.hg T2.Cg T2.c3 T2.ho fun lc s3 I3 k3 hc3 => ?_)
  have T3 := T2.store k3 I3 (by decide)
  have g3 := g2.ste T2.I k3
  have hb3 := hb.kh k3.kh
  refine Exs.cons (law_st15 X Tp hA' T3.I T3.B T3.m1 T3.m2 ((upd_ne (by decide)).trans upd_eq) hb3 Cb fun wv s4 I4 k4 hw => ?_)
  have T4 := T3.store k4 I4 (by decide)
  have g4 := g3.ste T3.I k4
  have Cc : Com v.n (v.gs.filter fun x => decide (x ∈ v.os)) := ⟨fun c hc => T.Cg.lt c (List.mem_filter.mp hc).1, Nat.le_trans (List.length_filter_le _ _) T.Cg.len⟩
  refine Exs.cons (law_st16 X Tp hA' T4.I T4.B T4.m1 T4.m2 ((upd_ne (by decide)).trans upd_eq) (hc3.kh k4.kh) Cc T4.c3 T4.ho T4.Co upd_eq hw T4.m6 T4.hs b1 fun s5 I5 k5 => ?_)
  have T5 := T4.mono k5 I5 (fun _ _ => rfl) ⟨rfl, rfl, rfl, rfl⟩
  have g5 := g4.ste T4.I k5
  have hw5 := hw.kh k5.kh
  refine Exs.cons (law_st17 T5.B.n4 X Tp hA' T5.I T5.c1 T5.hg T5.Cg T5.c3 T5.ho T5.Co T5.c4 T5.hl T5.c5 T5.hz upd_eq hw5 T5.m6 T5.hs b2 hM.gone fun s6 I6 k6 => ?_)
  have T6 := T5.mono k6 I6 (fun _ _ => rfl) ⟨rfl, rfl, rfl, rfl⟩
  have g6 := g5.ste T5.I k6
  have hw6 := hw5.kh k6.kh
  refine Exs.cons (law_st18 X Tp hA' T6.I T6.B T6.m1 T6.m2 T6.m3 T6.hp T6.Cp T6.m7 upd_eq hw6 T6.m6 T6.hs hM.part b3 b4 fun s7 I7 k7 => ?_)
  exact k s7 I7.F.keep (g6.ste T6.I k7)
theorem law_run {ls : Addr} {items : List Value} {is : List Int} {ps0 : Array Value} (hM : MathAll) (X : (Mine.hd.heap_39 w.params).In h₀) (Tp : TopRead p loose mg mb h₀) (Bm : BMd mg h₀) (hA : Room A 50) (I : LI h₀ L s m c)
    (hfile : ((prog.main.file : Str) == "/claim/cut.py") = true) (htop : (prog.main.scope.names.lookup ("super" : Str)).isSome = false) (h52 : h₀.get? 52 = none) (h56 : ∀ o, s.heap.get? 56 = some o → h₀.get? 56 = some o) (hc : s.heap.IsCode 56 52 ps0)
    (m1 : m "script" = some (.ref ls)) (hl : h₀.IsList ls items.toArray) (hi : IntsAre items is) (hlen : is.length ≤ 63)
    (k : ∀ s', (∀ b o, h₀.get? b = some o → s'.heap.get? b = some o) → GK h₀ s s' → Q (.ret (.bool true)) s') :
    Exs prog w A L [0, 1, 2, 3, 4, 5, 6, 7, 8, 9, 10, 11, 12, 13, 14, 15, 16, 17, 18] Q s := by
  obtain ⟨op, hop, ps, hopd, htr⟩ := codeOk_of hc
  have kop : Kh op := .of (fun v e => by rw [hopd] at e; cases e) (fun _ _ e => by rw [hopd] at e; cases e)
  have hA' : Room A 44 := hA.mono (by decide)
  have hA4 : Room A 40 := hA.mono (by decide)
  refine Exs.cons (law_st0 I h52 hop hopd X Tp hA m1 hl hi hlen fun ln ns s1 I1 e1 eg1 ed1 eo1 N1 => ?_)
  have hc1 := isCode_re hc (fun o e => I1.F.keep _ _ (h56 o e)) e1 hopd htr
  have g1 : GK h₀ s s1 := ⟨eo1, fun b => by rw [eg1]; exact b, fun _ o e => by cases hop.symm.trans e; exact ⟨op, e1, .refl _⟩⟩
  refine Exs.cons (law_st1 I1 X Tp hA upd_eq N1 fun q tq s2 hq I2 k2 => ?_)
  have g2 := g1.ste I1 k2
  have N2 := N1.kh k2.kh
  have hc2 := isCode_kh hc1 k2.kh
  refine Exs.cons (law_st2 I2 X Tp hA ((upd_ne (by decide)).trans upd_eq) N2 fun n tn s3 hn2 hn4 I3 k3 => ?_)
  have g3 := g2.ste I2 k3
  have N3 := N2.kh k3.kh
  have hc3 := isCode_kh hc2 k3.kh
  refine Exs.cons (law_st3 hn2 hn4 I3 X Tp hA upd_eq fun pr lv s4 I4 k4 P4 VV4 hlv => ?_)
  have g4 := g3.ste I3 k4
  have N4 := N3.kh k4.kh
  have hc4 := isCode_kh hc3 k4.kh
  have hlv0 : h₀.get? lv = none := by
    cases q : h₀.get? lv with
    | none => rfl
    | some o => rw [I3.F.keep _ _ q] at hlv; cases hlv
  have hne : ln ≠ lv := fun q => by
    obtain ⟨_, ⟨o, ho, _⟩, _⟩ := N3
    rw [q, hlv] at ho; cases ho
  refine Exs.cons (law_st4 X Tp Bm hA I4 hfile htop h52 hlv0 ((upd_ne (by decide)).trans ((upd_ne (by decide)).trans ((upd_ne (by decide)).trans upd_eq))) ((upd_ne (by decide)).trans upd_eq) upd_eq hn4 hn2 N4 hne P4 VV4 hc4 fun s5 m5 V B5 hVl => ?_)
  have g5 := g4.bld I4 B5
  obtain ⟨op4, hop4, hopd4⟩ := isCode_data hc4
  obtain ⟨_, _, hl4, _⟩ := id VV4
  have N5 := N4.kb hne hop4 hopd4 B5.kb
  have P5 := P4.kb hl4 hop4 hopd4 B5.kb
  have a1 : m5 "numbers" = some (.ref ln) := (B5.names _ (by decide)).trans ((upd_ne (by decide)).trans ((upd_ne (by decide)).trans ((upd_ne (by decide)).trans upd_eq)))
  have a2 : m5 "cands" = some (.int n tn) := (B5.names _ (by decide)).trans ((upd_ne (by decide)).trans upd_eq)
  have a3 : m5 "profile" = some (.ref pr) := (B5.names _ (by decide)).trans upd_eq
  have a4 : m5 "name" = some (.str (nameQ q) tq) := (B5.names _ (by decide)).trans ((upd_ne (by decide)).trans ((upd_ne (by decide)).trans upd_eq))
  refine Exs.cons (law_st5 hq X Tp hA' B5.I a4 fun sv s6 I6 k6 S6 => ?_)
  have g6 := g5.ste B5.I k6
  obtain ⟨sa, rfl⟩ := S6.ref
  have B6 : Built w s6.heap q n (.ref sa) pr lv V := ⟨hq, hn2, hn4, S6, P5.kh k6.kh, VotersAt.kh B5.VV k6.kh, B5.hV, B5.hVn⟩
  have N6 := N5.kh k6.kh
  refine Exs.cons (law_st6 hn4 X Tp hA4 I6 ((upd_ne (by decide)).trans a1) ((upd_ne (by decide)).trans a2) N6 fun lg s7 I7 k7 hg7 => ?_)
  have g7 := g6.ste I6 k7
  generalize hgs : (List.range n).filter (bit (ns 2)) = gs at hg7
  have Cg : Com n gs := ⟨fun c hc => by rw [← hgs] at hc; exact List.mem_range.mp (List.mem_filter.mp hc).1, by rw [← hgs]; exact range_len hn4⟩
  refine Exs.cons (law_st7 hn4 X Tp hA4 I7 ((upd_ne (by decide)).trans a1) ((upd_ne (by decide)).trans a2) (N6.kh k7.kh) rfl hg7 fun lp s8 I8 k8 hp8 => ?_)
  have g8 := g7.ste I7 k8
  generalize hps : ((List.range n).filter (bit (ns 3))).filter (fun x => decide (x ∈ gs)) = pps at hp8
  have Cp : Com n pps := ⟨fun c hc => by rw [← hps] at hc; exact List.mem_range.mp (List.mem_filter.mp (List.mem_filter.mp hc).1).1, by rw [← hps]; exact Nat.le_trans (List.length_filter_le _ _) (range_len hn4)⟩
  have k78 := k7.trans k8
  refine Exs.cons (law_st8 hn4 X Tp hA4 I8 ((upd_ne (by decide)).trans ((upd_ne (by decide)).trans a1)) ((upd_ne (by decide)).trans ((upd_ne (by decide)).trans a2)) (N6.kh k78.kh) fun lo s9 I9 k9 ho9 => ?_)
  have g9 := g8.ste I8 k9
  generalize hos : (List.range n).filter (bit (ns 4)) = os at ho9
  have Co : Com n os := ⟨fun c hc => by rw [← hos] at hc; exact List.mem_range.mp (List.mem_filter.mp hc).1, by rw [← hos]; exact range_len hn4⟩
  have k79 := k78.trans k9
  have B9 := B6.kh k79.kh
  have hg9 := hg7.kh (k8.trans k9).kh
  have hp9 := hp8.kh k9.kh
  refine Exs.cons (law_st9 X Tp hA' I9 B9 ((upd_ne (by decide)).trans upd_eq) ((upd_ne (by decide)).trans ((upd_ne (by decide)).trans a3)) rfl hg9 Cg upd_eq hp9 Cp fun lm ll s10 I10 k10 hm10 hl10 => ?_)
  have g10 := g9.ste I9 k10
  have B10 := B9.kh k10.kh
  have hg10 := hg9.kh k10.kh
  refine Exs.cons (law_st10 X Tp hA' I10 B10 ((upd_ne (by decide)).trans ((upd_ne (by decide)).trans upd_eq)) ((upd_ne (by decide)).trans ((upd_ne (by decide)).trans ((upd_ne (by decide)).trans a3))) rfl hg10 Cg fun lz s11 zg I11 k11 hz11 z1 z2 => ?_)
  have g11 := g10.ste I10 k11
  have B11 := B10.kh k11.kh
  have hg11 := hg10.kh k11.kh
  refine Exs.cons (law_st11 X Tp hA' I11 B11 ((upd_ne (by decide)).trans ((upd_ne (by decide)).trans ((upd_ne (by decide)).trans a4))) ((upd_ne (by decide)).trans ((upd_ne (by decide)).trans ((upd_ne (by decide)).trans a3))) rfl hg11 Cg fun scv s12 I12 k12 hs12 => ?_)
  have g12 := g11.ste I11 k12
  have kt := (k10.trans k11).trans k12
  let v : TV := ⟨q, n, tq, tn, sa, pr, lv, V, gs, pps, os, lg, lp, lo, lm, ll, lz, scv, zg⟩
  have T : Tail w h₀ L v s12 _ _ := ⟨I12, B11.kh k12.kh, (upd_ne (by decide)).trans ((upd_ne (by decide)).trans ((upd_ne (by decide)).trans ((upd_ne (by decide)).trans a4))), (upd_ne (by decide)).trans ((upd_ne (by decide)).trans ((upd_ne (by decide)).trans ((upd_ne (by decide)).trans a3))),
    (upd_ne (by decide)).trans ((upd_ne (by decide)).trans upd_eq), (upd_ne (by decide)).trans ((upd_ne (by decide)).trans ((upd_ne (by decide)).trans upd_eq)), (upd_ne (by decide)).trans upd_eq, upd_eq, (upd_ne (by decide)).trans ((upd_ne (by decide)).trans ((upd_ne (by decide)).trans ((upd_ne (by decide)).trans a2))),
    rfl, rfl, rfl, rfl, hg11.kh k12.kh, hp9.kh kt.kh, ho9.kh kt.kh, hm10.kh (k11.trans k12).kh, hl10.kh (k11.trans k12).kh, hz11.kh k12.kh, hs12, Cg, Cp, Co, z1, z2⟩
  have hL : LawOk v := hM v (bit (ns 2)) (bit (ns 3)) (bit (ns 4)) hq hn2 hn4 B5.hV B5.hVn hgs.symm hps.symm hos.symm z1
  refine law_tail hL ?_ X Tp hA T g12 k
  show gs.length ≤ 4
  rw [← hgs]
  have := List.length_filter_le (bit (ns 2)) (List.range n)
  rw [List.length_range] at this
  omega
end
end
section
theorem F_ge {q : Nat} (hq : q < 7) {i : Nat} (h : i ≤ 5) : 0 ≤ F q (i : Int) := by
  have : ∀ q ∈ List.range 7, ∀ i ∈ List.range 6, 0 ≤ F q ((i : Nat) : Int) := by decide
  exact this q (List.mem_range.mpr hq) i (List.mem_range.mpr (by omega))
theorem F_mono {q : Nat} (hq : q < 7) {i j : Nat} (h1 : 1 ≤ i) (h2 : i ≤ j) (h3 : j ≤ 5) : F q (j : Int) ≤ F q (i : Int) := by
  have : ∀ q ∈ List.range 7, ∀ i ∈ List.range 6, ∀ j ∈ List.range 6, 1 ≤ i → i ≤ j → F q ((j : Nat) : Int) ≤ F q ((i : Nat) : Int) := by decide
  exact this q (List.mem_range.mpr hq) i (List.mem_range.mpr (by omega)) j (List.mem_range.mpr (by omega)) h1 h2
theorem S_step (q k : Nat) : S q (k + 1) = S q k + F q ((k : Int) + 1) := rfl
theorem S_mono {q : Nat} (hq : q < 7) {i j : Nat} (h2 : i ≤ j) (h3 : j ≤ 4) : S q i ≤ S q j := by
  have : ∀ q ∈ List.range 7, ∀ i ∈ List.range 5, ∀ j ∈ List.range 5, i ≤ j → S q i ≤ S q j := by decide
  exact this q (List.mem_range.mpr hq) i (List.mem_range.mpr (by omega)) j (List.mem_range.mpr (by omega)) h2
/-- S is submodular -/
theorem S_sub {q : Nat} (hq : q < 7) {a b u i : Nat} (hi : i ≤ a) (hi2 : i ≤ b) (hu : u + i = a + b) (h4 : u ≤ 4) : S q u + S q i ≤ S q a + S q b := by
  have : ∀ q ∈ List.range 7, ∀ a ∈ List.range 5, ∀ b ∈ List.range 5, ∀ i ∈ List.range 5, i ≤ a → i ≤ b → a + b - i ≤ 4 → S q (a + b - i) + S q i ≤ S q a + S q b := by decide
  have e : u = a + b - i := by omega
  rw [e]
  exact this q (List.mem_range.mpr hq) a (List.mem_range.mpr (by omega)) b (List.mem_range.mpr (by omega)) i (List.mem_range.mpr (by omega)) hi hi2 (by omega)
/-- S u ≤ S a + (u - a) F (a+1) -/
theorem S_add {q : Nat} (hq : q < 7) {a u : Nat} (h : a ≤ u) (h4 : u ≤ 4) : S q u ≤ S q a + ((u - a : Nat) : Int) * F q ((a : Int) + 1) := by
  have : ∀ q ∈ List.range 7, ∀ a ∈ List.range 5, ∀ u ∈ List.range 5, a ≤ u → S q u ≤ S q a + ((u - a : Nat) : Int) * F q ((a : Int) + 1) := by decide
  exact this q (List.mem_range.mpr hq) a (List.mem_range.mpr (by omega)) u (List.mem_range.mpr (by omega)) h
/-- a F a ≤ S a -/
theorem S_rem {q : Nat} (hq : q < 7) {a : Nat} (h4 : a ≤ 4) : (a : Int) * F q (a : Int) ≤ S q a := by
  have : ∀ q ∈ List.range 7, ∀ a ∈ List.range 5, (a : Int) * F q (a : Int) ≤ S q a := by decide
  exact this q (List.mem_range.mpr hq) a (List.mem_range.mpr (by omega))
end
section
theorem cnt_le {C cs : List Nat} (hC : C ∈ subs) : cnt C cs ≤ 4 := by
  unfold cnt
  have h1 := List.length_filter_le (fun c => cs.contains c) C
  have h2 := sub_len hC
  omega
theorem cnt_congr {C cs ds : List Nat} (h : ∀ x, x ∈ cs ↔ x ∈ ds) : cnt C cs = cnt C ds := by
  unfold cnt
  congr 1
  refine List.filter_congr fun x _ => ?_
  rw [Bool.eq_iff_iff, List.contains_iff_mem, List.contains_iff_mem]
  exact h x
theorem cnt_mono {C cs ds : List Nat} (h : ∀ x, x ∈ cs → x ∈ ds) : cnt C cs ≤ cnt C ds := by
  unfold cnt
  induction C with
  | nil => exact Nat.le_refl _
  | cons a C ih =>
    simp only [List.filter_cons]
    by_cases q : a ∈ cs
    · rw [if_pos (by simpa using q), if_pos (by simpa using h a q)]
      simpa using ih
    · rw [if_neg (by simpa using q)]
      split
      · simp only [List.length_cons]; omega
      · exact ih
theorem cnt_add {C gs : List Nat} (hC : C ∈ subs) {i : Nat} (hg : i ∉ gs) : cnt C (gs ++ [i]) = cnt C gs + (if i ∈ C then 1 else 0) := by
  have hn := sub_nodup hC
  unfold cnt
  clear hC
  induction C with
  | nil => rfl
  | cons a C ih =>
    have hn' := List.nodup_cons.mp hn
    have ih' := ih hn'.2
    simp only [List.filter_cons]
    by_cases q : a = i
    · subst q
      have e : (if a ∈ C then 1 else 0) = 0 := if_neg hn'.1
      rw [e] at ih'
      rw [if_pos (by simp), if_neg (by simpa using hg), if_pos (by simp)]
      simp only [List.length_cons]
      omega
    · have e : (i ∈ a :: C) = (i ∈ C) := by
        rw [List.mem_cons]
        exact propext ⟨fun h => h.elim (fun h => absurd h.symm q) id, .inr⟩
      simp only [e]
      by_cases q2 : a ∈ gs
      · rw [if_pos (by simp [q2]), if_pos (by simpa using q2)]
        simp only [List.length_cons]
        omega
      · rw [if_neg (by simp [q2, q]), if_neg (by simpa using q2)]
        exact ih'
theorem cnt_del {C gs : List Nat} (hC : C ∈ subs) {i : Nat} (hg : i ∈ gs) : cnt C gs = cnt C (gs.filter fun x => !decide (x = i)) + (if i ∈ C then 1 else 0) := by
  rw [← cnt_add hC (gs := gs.filter fun x => !decide (x = i)) (by simp)]
  refine cnt_congr fun x => ?_
  simp only [List.mem_append, List.mem_filter, List.mem_singleton, Bool.not_eq_true', decide_eq_false_iff_not]
  exact ⟨fun h => if q : x = i then .inr q else .inl ⟨h, q⟩, fun h => h.elim (·.1) (fun q => q ▸ hg)⟩
theorem cnt_union {C gs os bs : List Nat} (h : ∀ x, x ∈ bs ↔ x ∈ gs ∨ x ∈ os) : cnt C bs + cnt C (gs.filter fun x => decide (x ∈ os)) = cnt C gs + cnt C os := by
  unfold cnt
  induction C with
  | nil => rfl
  | cons a C ih =>
    simp only [List.filter_cons, List.contains_iff_mem, List.mem_filter, decide_eq_true_eq] at ih ⊢
    have := h a
    by_cases q1 : a ∈ gs <;> by_cases q2 : a ∈ os <;> simp_all <;> omega
theorem sum_le {α : Type} {V : List α} {f g : α → Int} (h : ∀ p ∈ V, f p ≤ g p) : (V.map f).sum ≤ (V.map g).sum := by
  induction V with
  | nil => exact Int.le_refl _
  | cons a V ih =>
    simp only [List.map_cons, List.sum_cons]
    have h1 := h a (.head _)
    have h2 := ih fun p hp => h p (.tail _ hp)
    omega
theorem sum_add {α : Type} {V : List α} {f g : α → Int} : (V.map f).sum + (V.map g).sum = (V.map fun p => f p + g p).sum := by
  induction V with
  | nil => rfl
  | cons a V ih =>
    simp only [List.map_cons, List.sum_cons] at ih ⊢
    omega
end
section
theorem sum_nn {α : Type} {V : List α} {f : α → Int} (h : ∀ p ∈ V, 0 ≤ f p) : 0 ≤ (V.map f).sum := by
  induction V with
  | nil => exact Int.le_refl _
  | cons a V ih =>
    simp only [List.map_cons, List.sum_cons]
    have h1 := h a (.head _)
    have h2 := ih fun p hp => h p (.tail _ hp)
    omega
theorem score_mono {q : Nat} (hq : q < 7) {V : List (Int × List Nat)} (hV : VOk V) {cs ds : List Nat} (h : ∀ x, x ∈ cs → x ∈ ds) : scoreV q V cs ≤ scoreV q V ds := by
  refine sum_le fun p hp => ?_
  obtain ⟨h1, h2, _⟩ := hV p hp
  exact Int.mul_le_mul_of_nonneg_left (S_mono hq (cnt_mono h) (cnt_le h1)) (by omega)
theorem addV_nn {q : Nat} (hq : q < 7) {V : List (Int × List Nat)} (hV : VOk V) {cs : List Nat} {i : Nat} : 0 ≤ addV q V cs i := by
  refine sum_nn fun p hp => ?_
  obtain ⟨h1, h2, _⟩ := hV p hp
  try dsimp only
  split
  · have := F_ge hq (i := cnt p.2 cs + 1) (by have := cnt_le (cs := cs) h1; omega)
    rw [Int.natCast_add] at this
    exact Int.mul_nonneg (by omega) this
  · exact Int.le_refl _
theorem remV_nn {q : Nat} (hq : q < 7) {V : List (Int × List Nat)} (hV : VOk V) {cs : List Nat} {i : Nat} : 0 ≤ remV q V cs i := by
  refine sum_nn fun p hp => ?_
  obtain ⟨h1, h2, _⟩ := hV p hp
  try dsimp only
  split
  · exact Int.mul_nonneg (by omega) (F_ge hq (by have := cnt_le (cs := cs) h1; omega))
  · exact Int.le_refl _
theorem addV_le {q : Nat} (hq : q < 7) {V : List (Int × List Nat)} (hV : VOk V) {cs ds : List Nat} {i : Nat} (h : ∀ x, x ∈ ds → x ∈ cs) : addV q V cs i ≤ addV q V ds i := by
  refine sum_le fun p hp => ?_
  obtain ⟨h1, h2, _⟩ := hV p hp
  try dsimp only
  split
  · have := F_mono hq (i := cnt p.2 ds + 1) (j := cnt p.2 cs + 1) (by omega) (by have := cnt_mono (C := p.2) h; omega) (by have := cnt_le (cs := cs) h1; omega)
    rw [Int.natCast_add, Int.natCast_add] at this
    exact Int.mul_le_mul_of_nonneg_left this (by omega)
  · exact Int.le_refl _
theorem score_add {q : Nat} {V : List (Int × List Nat)} (hV : VOk V) {cs : List Nat} {i : Nat} (h : i ∉ cs) : scoreV q V (cs ++ [i]) = scoreV q V cs + addV q V cs i := by
  unfold scoreV addV
  rw [sum_add]
  refine congrArg List.sum (List.map_congr_left fun p hp => ?_)
  obtain ⟨h1, h2, _⟩ := hV p hp
  rw [cnt_add h1 h]
  split
  · rw [S_step, Int.mul_add]
  · simp
theorem score_del {q : Nat} {V : List (Int × List Nat)} (hV : VOk V) {cs : List Nat} {i : Nat} (h : i ∈ cs) : scoreV q V cs = scoreV q V (cs.filter fun x => !decide (x = i)) + remV q V cs i := by
  unfold scoreV remV
  rw [sum_add]
  refine congrArg List.sum (List.map_congr_left fun p hp => ?_)
  obtain ⟨h1, h2, _⟩ := hV p hp
  have e := cnt_del h1 h
  split
  · rename_i q1
    rw [if_pos q1] at e
    rw [e, S_step, Int.mul_add, Int.natCast_add]
    rfl
  · rename_i q1
    rw [if_neg q1, Nat.add_zero] at e
    rw [← e]
    simp
theorem rem_add {q : Nat} (hq : q < 7) {V : List (Int × List Nat)} (hV : VOk V) {gs ps : List Nat} {i : Nat} (h : i ∈ gs) (hp : ∀ x, x ∈ ps → x ∈ gs ∧ x ≠ i) : remV q V gs i ≤ addV q V ps i := by
  refine sum_le fun p hp' => ?_
  obtain ⟨h1, h2, _⟩ := hV p hp'
  try dsimp only
  split
  · rename_i q1
    have e := cnt_del h1 h
    rw [if_pos q1] at e
    have hm := cnt_mono (C := p.2) (cs := ps) (ds := gs.filter fun x => !decide (x = i)) fun x hx => by
      rw [List.mem_filter]
      exact ⟨(hp x hx).1, by simpa using (hp x hx).2⟩
    have := F_mono hq (i := cnt p.2 ps + 1) (j := cnt p.2 gs) (by omega) (by omega) (by have := cnt_le (cs := gs) h1; omega)
    rw [Int.natCast_add] at this
    exact Int.mul_le_mul_of_nonneg_left this (by omega)
  · exact Int.le_refl _
theorem swap_sum {V : List (Int × List Nat)} {g : Int × List Nat → Int} : ∀ (D : List Nat), (D.map fun c => (V.map fun p => if c ∈ p.2 then g p else 0).sum).sum = (V.map fun p => ((D.filter fun c => decide (c ∈ p.2)).length : Int) * g p).sum
  | [] => by
    induction V with
    | nil => rfl
    | cons a V ih => simpa using ih
  | d :: D => by
    rw [List.map_cons, List.sum_cons, swap_sum D, sum_add]
    refine congrArg List.sum (List.map_congr_left fun p _ => ?_)
    rw [List.filter_cons]
    by_cases h : d ∈ p.2
    · rw [if_pos h, if_pos (by simpa using h), List.length_cons, Int.natCast_add, Int.add_mul]
      omega
    · rw [if_neg h, if_neg (by simpa using h)]
      omega
end
section
theorem cnt_diff {C gs os bs : List Nat} (h : ∀ x, x ∈ bs ↔ x ∈ gs ∨ x ∈ os) : cnt C bs = cnt C gs + (C.filter fun x => decide (x ∈ os) && !decide (x ∈ gs)).length := by
  unfold cnt
  induction C with
  | nil => rfl
  | cons a C ih =>
    simp only [List.filter_cons, List.contains_iff_mem] at ih ⊢
    have := h a
    by_cases q1 : a ∈ gs <;> by_cases q2 : a ∈ os <;> simp_all <;> omega
theorem len_swap {C D : List Nat} (hC : C.Nodup) (hD : D.Nodup) : (D.filter fun c => decide (c ∈ C)).length = (C.filter fun c => decide (c ∈ D)).length := by
  refine List.Perm.length_eq ((List.perm_ext_iff_of_nodup (List.Pairwise.filter _ hD) (List.Pairwise.filter _ hC)).mpr fun x => ?_)
  simp [and_comm]
theorem math_all : MathAll := by
  intro v a b c hq hn2 hn4 hV hVn hgs hps hos hz
  have gn : v.gs.Nodup := by rw [hgs]; exact List.Pairwise.filter _ List.nodup_range
  have on : v.os.Nodup := by rw [hos]; exact List.Pairwise.filter _ List.nodup_range
  have hpg : ∀ x, x ∈ v.ps → x ∈ v.gs := fun x hx => by
    rw [hps] at hx
    simpa using (List.mem_filter.mp hx).2
  have hgn : ∀ x, x ∈ v.gs → x < v.n := fun x hx => by rw [hgs] at hx; exact List.mem_range.mp (List.mem_filter.mp hx).1
  have hon : ∀ x, x ∈ v.os → x < v.n := fun x hx => by rw [hos] at hx; exact List.mem_range.mp (List.mem_filter.mp hx).1
  refine ⟨fun i hi hm => ⟨?_, remV_nn hq hV, ?_⟩, fun i hi hm => ⟨fun h => hm (hpg i h), addV_le hq hV hpg, addV_nn hq hV, ?_⟩, fun bs hbs => ⟨?_, ?_, ?_, ?_⟩, ?_, score_mono hq hV hpg⟩
  · refine rem_add hq hV hm fun x hx => ?_
    have := List.mem_filter.mp hx
    exact ⟨hpg x this.1, by simpa using this.2⟩
  · have := score_del (q := v.q) hV hm
    omega
  · have := score_add (q := v.q) hV hm
    omega
  · unfold scoreV
    rw [sum_add, sum_add]
    refine sum_le fun p hp => ?_
    obtain ⟨h1, h2, _⟩ := hV p hp
    have e := cnt_union (C := p.2) hbs
    have i1 := cnt_mono (C := p.2) (cs := v.gs.filter fun x => decide (x ∈ v.os)) (ds := v.gs) fun x hx => (List.mem_filter.mp hx).1
    have i2 := cnt_mono (C := p.2) (cs := v.gs.filter fun x => decide (x ∈ v.os)) (ds := v.os) fun x hx => by simpa using (List.mem_filter.mp hx).2
    have := S_sub hq i1 i2 e (cnt_le h1)
    rw [← Int.mul_add, ← Int.mul_add]
    exact Int.mul_le_mul_of_nonneg_left this (by omega)
  · have e1 : ((v.os.filter fun x => !decide (x ∈ v.gs)).map fun c => if c ∈ v.gs then -45360 else addV v.q v.V v.gs c) = (v.os.filter fun x => !decide (x ∈ v.gs)).map (addV v.q v.V v.gs) := by
      refine List.map_congr_left fun x hx => ?_
      have := (List.mem_filter.mp hx).2
      rw [if_neg (by simpa using this)]
    rw [e1]
    have e2 := swap_sum (V := v.V) (g := fun p => p.1 * F v.q ((cnt p.2 v.gs : Int) + 1)) (v.os.filter fun x => !decide (x ∈ v.gs))
    unfold addV
    rw [e2]
    unfold scoreV
    rw [sum_add]
    refine sum_le fun p hp => ?_
    obtain ⟨h1, h2, _⟩ := hV p hp
    have d := cnt_diff (C := p.2) hbs
    have l := len_swap (C := p.2) (D := v.os.filter fun x => !decide (x ∈ v.gs)) (sub_nodup h1) (List.Pairwise.filter _ on)
    have l2 : (p.2.filter fun c => decide (c ∈ v.os.filter fun x => !decide (x ∈ v.gs))) = p.2.filter fun x => decide (x ∈ v.os) && !decide (x ∈ v.gs) := by
      refine List.filter_congr fun x _ => ?_
      rw [Bool.eq_iff_iff]
      simp [List.mem_filter]
    rw [l2] at l
    have := S_add hq (a := cnt p.2 v.gs) (u := cnt p.2 bs) (by omega) (cnt_le h1)
    have e3 : cnt p.2 bs - cnt p.2 v.gs = (List.filter (fun c => decide (c ∈ p.2)) (List.filter (fun x => !decide (x ∈ v.gs)) v.os)).length := by omega
    rw [e3] at this
    have m := Int.mul_le_mul_of_nonneg_left this (show 0 ≤ p.1 by omega)
    rw [Int.mul_add] at m
    rw [Int.mul_left_comm]
    exact m
  · exact score_mono hq hV fun x hx => (hbs x).mpr (.inl hx)
  · refine score_mono hq hV fun x hx => List.mem_range.mpr ?_
    rcases (hbs x).mp hx with h | h
    · exact hgn x h
    · exact hon x h
  · have e1 : v.gs.map v.zg = v.gs.map (remV v.q v.V v.gs) := List.map_congr_left fun x hx => hz x (hgn x hx) hx
    rw [e1]
    have e2 := swap_sum (V := v.V) (g := fun p => p.1 * F v.q (cnt p.2 v.gs)) v.gs
    unfold remV
    rw [e2]
    refine sum_le fun p hp => ?_
    obtain ⟨h1, h2, _⟩ := hV p hp
    have l := len_swap (C := p.2) (D := v.gs) (sub_nodup h1) gn
    have l2 : (p.2.filter fun c => decide (c ∈ v.gs)).length = cnt p.2 v.gs := by
      unfold cnt
      congr 1
      refine List.filter_congr fun x _ => ?_
      rw [Bool.eq_iff_iff]
      simp
    rw [l, l2]
    have m := Int.mul_le_mul_of_nonneg_left (S_rem hq (a := cnt p.2 v.gs) (cnt_le h1)) (show 0 ≤ p.1 by omega)
    rw [Int.mul_left_comm]
    exact m
end
section
theorem lawFn (P : Params) : ∃ oc od dV kV doc pm an cdv ct osl, (Mine.hd.heap_39 P).lookup 528 = some ⟨oc, od, .func (fnX "law" "law" ⟨[], [⟨"script", none, ⟨286, 8, 286, 14⟩⟩], none, [], [], none, []⟩ (lawBody P) (lawScope P) [] dV kV doc pm an cdv ct), osl⟩ ∧ codeIn (Mine.hd.heap_39 P) cdv "law" = true ∧ cdv = lawCode P ∧
    ∀ ls, bindArgs (fnX "law" "law" ⟨[], [⟨"script", none, ⟨286, 8, 286, 14⟩⟩], none, [], [], none, []⟩ (lawBody P) (lawScope P) [] dV kV doc pm an cdv ct) ⟨[.ref ls], []⟩ = pure [(("script" : Str), .ref ls)] := by
  repeat apply Exists.intro
  refine ⟨?_, ?_, ?_, ?_⟩
  · k_is
  · k_is
  · rfl
  · intro ls; rfl
theorem law_names (P : Params) : (∀ k, cellsFrom (k + 1) (lawScope P).names [] = lawCl k) ∧ (lawScope P).names.lookup ("script" : Str) = some NameKind.local ∧ (lawScope P).isCoroutine = false ∧ (lawScope P).isGenerator = false ∧ (lawScope P).kind = .function := by
  exact ⟨fun _ => rfl, rfl, rfl, rfl, rfl⟩
/-- a new frame with five new cells -/
def cellO : Obj := { cls := .type "cell", data := .cell none }
def five0 (h : Heap) : Heap := (((((h.push { cls := .type "frame", data := .dict #[] }).push cellO).push cellO).push cellO).push cellO).push cellO
theorem law_cells (P : Params) (h : Heap) : pushCells (h.push { cls := .type "frame", data := .dict #[] }) (lawScope P).names = five0 h := rfl
theorem push_keep (h : Heap) (x : Obj) : ∀ b o, h.get? b = some o → (h.push x).get? b = some o := fun _ _ e => Heap.get?_push_of_some _ e
theorem push_at (h : Heap) (n : Nat) (hn : h.objs.size = n) : (h.push cellO).get? n = some cellO := by
  subst hn
  exact Heap.get?_push_size _ rfl
theorem push_ns {h : Heap} {L : Addr} {m : Str → Option Value} (x : Obj) (hn : h.Ns L m) : (h.push x).Ns L m := hn.keeps (push_keep h x)
theorem five0_keep (h : Heap) : ∀ b o, h.get? b = some o → (five0 h).get? b = some o := fun b o e =>
  push_keep _ _ _ _ (push_keep _ _ _ _ (push_keep _ _ _ _ (push_keep _ _ _ _ (push_keep _ _ _ _ (push_keep _ _ _ _ e)))))
theorem five0_ns (h : Heap) : (five0 h).Ns h.objs.size (fun _ => none) :=
  push_ns _ (push_ns _ (push_ns _ (push_ns _ (push_ns _ (Heap.Ns.new h (.type "frame"))))))
theorem five0_cell (h : Heap) : ∀ i, 1 ≤ i → i ≤ 5 → (five0 h).get? (h.objs.size + i) = some cellO := by
  have z1 : (h.push { cls := .type "frame", data := .dict #[] }).objs.size = h.objs.size + 1 := Heap.size_push ..
  have z2 : ((h.push { cls := .type "frame", data := .dict #[] }).push cellO).objs.size = h.objs.size + 2 := (Heap.size_push ..).trans (congrArg (· + 1) z1)
  have z3 : (((h.push { cls := .type "frame", data := .dict #[] }).push cellO).push cellO).objs.size = h.objs.size + 3 := (Heap.size_push ..).trans (congrArg (· + 1) z2)
  have z4 : ((((h.push { cls := .type "frame", data := .dict #[] }).push cellO).push cellO).push cellO).objs.size = h.objs.size + 4 := (Heap.size_push ..).trans (congrArg (· + 1) z3)
  have z5 : (((((h.push { cls := .type "frame", data := .dict #[] }).push cellO).push cellO).push cellO).push cellO).objs.size = h.objs.size + 5 := (Heap.size_push ..).trans (congrArg (· + 1) z4)
  intro i h1 h5
  rcases five h1 h5 with rfl | rfl | rfl | rfl | rfl
  · exact push_keep _ _ _ _ (push_keep _ _ _ _ (push_keep _ _ _ _ (push_keep _ _ _ _ (push_at _ _ z1))))
  · exact push_keep _ _ _ _ (push_keep _ _ _ _ (push_keep _ _ _ _ (push_at _ _ z2)))
  · exact push_keep _ _ _ _ (push_keep _ _ _ _ (push_at _ _ z3))
  · exact push_keep _ _ _ _ (push_at _ _ z4)
  · exact push_at _ _ z5
section
variable {prog : Program} {w : World} {A : Around} {s : Shared} {K : Frag} {p : Program} {loose : List Str} {mg mb : Str → Option Value}
  {R : Result → Shared → Prop} {name qual : Str} {params : Arguments} {body : List Stmt} {scope : Scope} {dV kV doc pm cdv ct oc : Value} {an od : Option Addr} {osl : Array (Option Value)} {f : Addr} {args : Args} {x1 : Str} {v1 : Value}
/-- a call of a function with one local and the law's five cells -/
theorem call_five (X : K.In s.heap) (T : TopRead p loose mg mb s.heap)
    (ho : K.lookup f = some ⟨oc, od, .func (fnX name qual params body scope [] dV kV doc pm an cdv ct), osl⟩) (hcd : codeIn K cdv qual = true) (hroom : A.depth < recursionLimit)
    (hbind : BindsTo s (fnX name qual params body scope [] dV kV doc pm an cdv ct) args [(x1, v1)]) (k1 : scope.names.lookup x1 = some .local)
    (hcf : ∀ k, cellsFrom (k + 1) scope.names [] = lawCl k) (hpc : ∀ h : Heap, pushCells (h.push { cls := .type "frame", data := .dict #[] }) scope.names = five0 h)
    (hco : scope.isCoroutine = false) (hgen : scope.isGenerator = false) (hk : scope.kind = .function)
    (h : ∀ h1 tk, (∀ b o, s.heap.get? b = some o → h1.get? b = some o) → h1.Ns s.heap.objs.size (fun y => if y = x1 then some v1 else none) → (∀ i, 1 ≤ i → i ≤ 5 → h1.get? (s.heap.objs.size + i) = some cellO) →
      wpAny (model prog w) (A.deeper (envX qual scope s.heap.objs.size f cdv (lawCl s.heap.objs.size))) (execs body (envX qual scope s.heap.objs.size f cdv (lawCl s.heap.objs.size)))
        (fun fl s' => R (.ok (.ret (match fl with | .ret v => v | _ => .none))) s') (fun _ _ => False) { s with heap := h1, toks := tk }) :
    codeAny (model prog w) A (.call (.ref f) args) R s := by
  refine codeAny_call_function hroom (X _ _ ho) rfl hco hgen rfl (codeRec_of X hcd) (hbind _ _ _ _ ?_)
  show wpAny _ _ (newFunctionEnv scope mainGlobals [] _ _ _ _ _ _) _ _ _
  simp only [newFunctionEnv, Option.isSome_none, Bool.false_eq_true, if_false]
  refine wpAny_bind (wpAny_alloc ?_)
  refine wpAny_bind (wpAny_layCells _ (fun name kind cells => by cases hkc : kind == NameKind.cell <;> simp) _ _ _ _ ?_)
  rw [show ({ s with heap := s.heap.push { cls := .type "frame", data := .dict #[] } } : Shared).heap.objs.size = s.heap.objs.size + 1 from Heap.size_push .., hcf, hpc]
  have hns := five0_ns s.heap
  have hkp := five0_keep s.heap
  have hcl := five0_cell s.heap
  generalize five0 s.heap = h0 at hns hkp hcl ⊢
  dsimp only
  rw [List.forIn_cons]
  have K1 : (envX qual scope s.heap.objs.size f cdv (lawCl s.heap.objs.size)).kindOf x1 = some .local := k1
  have Kp1 : ((envX qual scope s.heap.objs.size f cdv (lawCl s.heap.objs.size)).scope.kind == .class || ((envX qual scope s.heap.objs.size f cdv (lawCl s.heap.objs.size)).scope.kind == .module && (envX qual scope s.heap.objs.size f cdv (lawCl s.heap.objs.size)).locals != (envX qual scope s.heap.objs.size f cdv (lawCl s.heap.objs.size)).globals)) = false := by
    rw [show (envX qual scope s.heap.objs.size f cdv (lawCl s.heap.objs.size)).scope.kind = .function from hk]; rfl
  refine wpAny_bind (wpAny_bind (wpAny_bind (wpAny_storeName_local (env := envX qual scope s.heap.objs.size f cdv (lawCl s.heap.objs.size)) (m := fun _ => none) K1 hns (fun h1 hn1 hs1 => wpAny_pure ?_) Kp1)))
  dsimp only
  rw [List.forIn_nil]
  have hk1 : ∀ b o, s.heap.get? b = some o → h1.get? b = some o := fun b o e => (hs1.2 b (Nat.ne_of_lt (Heap.lt_size e))).trans (hkp b o e)
  refine wpAny_pure (wpAny_pure ⟨(T.keeps hk1).nolimit, ks_codeAny_funcAt (PySem.wpAt_of_wpAny ?_)⟩)
  exact wpAny_mono (h h1 _ hk1 hn1 fun i i1 i5 => (hs1.2 _ (ne_add i1)).trans (hcl i i1 i5)) (fun _ _ q => q) fun _ _ q => q.elim
end
section
variable {prog : Program} {w : World} {A : Around} {s : Shared} {p : Program} {loose : List Str} {mg mb : Str → Option Value} {R : Result → Shared → Prop}
theorem law_entry {ls : Addr} {items : List Value} {is : List Int} {ps0 : Array Value} (X : (Mine.hd.heap_39 w.params).In s.heap) (T : TopRead p loose mg mb s.heap) (Bm : BMd mg s.heap) (hA : Room A 51)
    (hfile : ((prog.main.file : Str) == "/claim/cut.py") = true) (htop : (prog.main.scope.names.lookup ("super" : Str)).isSome = false) (hc : s.heap.IsCode 56 52 ps0)
    (hl : s.heap.IsList ls items.toArray) (hi : IntsAre items is) (hlen : is.length ≤ 63)
    (k : ∀ s', (∀ b o, b ≠ 52 → s.heap.get? b = some o → s'.heap.get? b = some o) → GK (hide52 s.heap) s s' → R (.ok (.ret (.bool true))) s') :
    codeAny (model prog w) A (.call (.ref 528) ⟨[.ref ls], []⟩) R s := by
  obtain ⟨oc, od, dV, kV, doc, pm, an, cdv, ct, osl, ho, hcd, rfl, hb⟩ := lawFn w.params
  obtain ⟨hcf, hsl, hco, hgen, hkind⟩ := law_names w.params
  obtain ⟨op, hop, hopd⟩ := isCode_data hc
  have H := call_five (prog := prog) (w := w) (A := A) (R := R) X T ho hcd (Room.lt (n := 0) (by walk_at "my room")) (BindsTo.of_eq (hb ls)) hsl hcf (law_cells _) hco hgen hkind
  refine H fun h1 tk hk1 hn1 hcl => ?_
  have I : LI (hide52 s.heap) s.heap.objs.size { s with heap := h1, toks := tk } (upd (fun _ => none) "script" (.ref ls)) (fun _ => none) :=
    ⟨⟨hn1, fun b o e => hk1 b o (hide52_of _ _ e), Nat.le_of_eq (hide52_size _)⟩, ⟨rfl, rfl, rfl, rfl, "script", _, rfl⟩, fun i i1 i5 => ⟨cellO, hcl i i1 i5, rfl⟩, op, ps0, hk1 _ _ hop, hopd⟩
  have hls : ls ≠ 52 := fun q => by
    obtain ⟨o, e, _, _, hd⟩ := hl
    rw [q, hop] at e
    cases e
    rw [hopd] at hd
    cases hd
  have Bh : BMd mg (hide52 s.heap) := bmd_but Bm hide52_get
  have hlh : (hide52 s.heap).IsList ls items.toArray := by
    obtain ⟨o, e, r⟩ := hl
    exact ⟨o, hide52_get _ _ hls e, r⟩
  have h56 : ∀ o, h1.get? 56 = some o → (hide52 s.heap).get? 56 = some o := fun o e => by
    obtain ⟨o56, _, _, _, _, _, _, _, _, _, ho56, _⟩ := id hc
    cases e.symm.trans (hk1 _ _ ho56)
    exact hide52_get _ _ (by decide) ho56
  have M := law_run (prog := prog) (w := w) (A := A.deeper (lawEnv w s.heap.objs.size)) (c := fun _ => none) (Q := fun fl s' => R (.ok (.ret (match fl with | .ret v => v | _ => .none))) s') math_all (in_but X hide52_get) (top_but T hide52_get) Bh (hA.deeper (n := 50)) I hfile htop (hide52_none s.heap) h56 (hc.keeps hk1) upd_eq hlh hi hlen
    fun s' h g => k s' (fun b o n e => h b o (hide52_get b o n e)) ⟨g.os, g.bare, fun hC o e => g.tab hC o (hk1 _ _ e)⟩
  with_reducible exact M.body
end
end
section
theorem law_addr (P : Params) : nsIn (Mine.hd.heap_39 P) mainGlobals "law" = some (some (.ref 528)) := by k_is
theorem room_caller : Room callerA 51 := ⟨by decide, by decide, rfl⟩
section
variable {prog : Program} {w : World} {s : Shared} {p : Program} {loose : List Str} {mg mb : Str → Option Value}
theorem law_good {c : ClaimW} {cl : Str → Option Addr} {mean : ExcName → Option Value} {args : List WData} {fa ls bm : Addr} {ob : Obj} {items : List Value} {is : List Int}
    (X : (Mine.hd.heap_39 w.params).In s.heap) (h52 : s.heap.get? 52 = some (tabObj #[])) (T : TopRead p loose mg mb s.heap) (M : BMod s.heap mainGlobals mg bm ob) (hmg : mg "law" = some (.ref fa)) (hg : s.gens = #[])
    (hfile : ((prog.main.file : Str) == "/claim/cut.py") = true) (htop : (prog.main.scope.names.lookup ("super" : Str)).isSome = false)
    (hl : s.heap.IsList ls items.toArray) (hi : IntsAre items is) (hlen : is.length ≤ 63)
    (hn : ∀ cls, c.raises args cls = false) (hp : c.post args (.bool true) args = true) :
    wpAny (model prog w) callerA (call (.ref fa) [.ref ls]) (fun v s' => GoodWG c cl mean args s (.ok (.ret v)) s') (fun e s' => GoodWG c cl mean args s (.error e) s') s := by
  have hfa := (mg_of X T.g (law_addr w.params)).symm.trans hmg
  cases hfa
  have hd : CodeHd s.heap 56 52 := codeHd_of_K (c := 56) (P := 52) X (by kernel_rfl)
  have hc : s.heap.IsCode 56 52 #[] := hd.code h52 (by trivial)
  have hbm : bm ≠ 52 := fun q => by
    have e := M.obj
    rw [q, h52] at e
    cases e
    exact absurd M.cls (by simp)
  have Bm : BMd mg s.heap := ⟨bm, ob, M.name, M.ne, M.obj, M.cls, M.dict, M.data, hbm⟩
  obtain ⟨o, vs, _, _, _, _, _, _, _, e1, e2, e3, e4, _⟩ := hd
  have hC : Cd56 (hide52 s.heap) := ⟨o, vs, hide52_get _ _ (by decide) e1, e2, e3, e4⟩
  refine enter_call (law_entry X T Bm room_caller hfile htop hc hl hi hlen fun s' hk hG => ?_)
  refine ⟨.inl ⟨.bool true, .bool true, [], rfl, hn, .bool true, hp, fun _ => ⟨List.nodup_nil, fun _ h => nomatch h⟩⟩, ⟨fun b ob e => ?_, fun b ob e => ?_⟩, hG.os, hG.bare (.of_eq hg)⟩
  · by_cases q : b = 52
    · subst q
      cases h52.symm.trans e
      obtain ⟨o', e', gr⟩ := hG.tab hC _ h52
      obtain ⟨more, rfl⟩ := gr #[] rfl
      exact .inr (.inl ⟨⟨56, o, vs, e1, e2, e3, e4⟩, rfl, #[], more, rfl, e'⟩)
    · exact .inl (hk b ob q e)
  · by_cases q : b = 52
    · subst q
      cases h52.symm.trans e
      obtain ⟨o', e', gr⟩ := hG.tab hC _ h52
      exact ⟨o', e'⟩
    · exact ⟨ob, hk b ob q e⟩
end
end
end
/-- the addresses of the written part -/
def hdAs : List Addr := [2, 3, 33, 35, 36, 38, 39, 40, 43, 48, 49, 50, 51, 53, 54, 56, 57, 58, 60, 61, 63, 64, 65, 66, 68, 69, 71, 72, 73, 74, 75, 76, 79, 80, 82, 83, 85, 86, 87, 89, 90, 92, 93, 101, 102, 104, 105, 107, 108, 109, 111, 112, 114, 115, 116, 118, 119, 121, 122, 123, 125, 126, 128, 129, 130, 132, 133, 135, 136, 137, 139, 140, 142, 143, 144, 146, 147, 149, 150, 151, 153, 154, 156, 157, 158, 160, 161, 163, 164, 165, 167, 168, 170, 171, 172, 174, 175, 177, 178, 179, 181, 182, 184, 185, 186, 188, 189, 191, 192, 193, 195, 196, 198, 199, 200, 202, 203, 205, 206, 207, 209, 210, 212, 213, 214, 216, 217, 219, 220, 221, 223, 224, 226, 227, 228, 230, 231, 233, 234, 235, 236, 237, 238, 239, 242, 245, 250, 251, 253, 254, 256, 257, 258, 259, 260, 261, 264, 265, 267, 268, 270, 271, 272, 274, 275, 277, 278, 279, 281, 282, 284, 285, 286, 288, 289, 291, 292, 293, 295, 296, 298, 299, 300, 302, 303, 305, 306, 307, 309, 310, 312, 313, 314, 316, 317, 319, 320, 321, 323, 324, 326, 327, 328, 330, 331, 333, 334, 335, 337, 338, 340, 341, 349, 350, 353, 354, 355, 357, 358, 360, 361, 362, 363, 365, 366, 368, 369, 370, 372, 373, 375, 376, 377, 379, 380, 382, 383, 384, 386, 387, 389, 390, 391, 393, 394, 396, 397, 398, 400, 401, 403, 404, 405, 407, 408, 410, 411, 412, 414, 415, 417, 418, 419, 421, 422, 424, 425, 426, 428, 429, 431, 432, 433, 435, 436, 438, 439, 440, 442, 443, 445, 446, 447, 449, 450, 452, 453, 454, 456, 457, 459, 460, 461, 463, 464, 466, 467, 468, 470, 471, 473, 474, 475, 476, 477, 478, 479, 489, 490, 492, 493, 495, 496, 497, 499, 500, 502, 503, 504, 505, 507, 508, 510, 511, 512, 513, 514, 515, 516, 519, 522, 523, 524, 527, 528]
theorem law_holds : PySem.Challenge.rw_at5003_01.Holds := by
  w_on
  o_law
  o_head (kmHook Mine.hd.heap_39 hdAs (fun _ => by kernel_rfl) [52])
  case hw => w_witness2
  intro w s₀ s₁ mg mb G Y fa o pm cd doc dV kV ho hd hcd hD hmg hg args vals as hpre hlay hrd hwl hlo
  have KX := km_in_of Y
  have K52 := km_tabs_of Y 52 (.head _)
  refine Ground.open G ?_
  intro T B D TE TW
  obtain ⟨_, _, M⟩ := bmod_of_top T
  clear hD TE TW D B G Y ho hd hcd
  wrow_args hpre hlay hrd hwl hlo
  all_goals (
    rename_i hlen _
    refine law_good KX K52 (topRead_of T) M hmg hg ?_ ?_ (by assumption) (by assumption) ?_ ?_ ?_
    · kernel_rfl
    · kernel_rfl
    · omega
    · exact raisesW_false (by wrow_none_raised)
    · wrow_post)
end Mine
theorem PySem.Challenge.cw_at5003_01_holds : PySem.Challenge.rw_at5003_01.Holds := by
  exact Mine.law_holds
