import PyProof.Rows.All
import Wide.All
import OpenK.AllK
import Wide.FinOn
import Lean
import PySem.Challenge.RW_xp0018_01
open PySem PySem.W PySem.Calls PyProof.Rows
set_option Elab.async false
set_option maxRecDepth 100000
set_option maxHeartbeats 8000000
namespace Mine
section
open_top hd for PySem.Challenge.rw_xp0018_01
end
example : (hd.heap_39 = hd.heap_39) ∧ (PySem.Challenge.rw_xp0018_01 = PySem.Challenge.rw_xp0018_01) := by
  k_fill
  exact ⟨rfl, rfl⟩
section
noncomputable abbrev Grows (h h' : Heap) : Prop := ∀ b o, h.get? b = some o → h'.get? b = some o

/-- a call of the def at f that changes nothing that stands: its answer -/
noncomputable def Spec (w : World) (f : Addr) (args : List Value) (d u : Nat) (P : Heap → Prop) (R : Heap → Value → Heap → Prop) : Prop :=
  ∀ (p : Program) (loose : List Str) (mean : ExcName → Option Value) (mg mb : Str → Option Value) (dp un : Nat) (gd : Option (List Code)) (cn : Str) (cs : Scope) (a : Addr) (ccd : Value)
    (cl : List (Str × Addr)) (outer : List Env) (A₀ : Around) (base h₀ : Heap) (L : Addr) (m : Str → Option Value) (s : Shared) (Q E : Value → Shared → Prop),
    Below A₀ base outer h₀ → Fr h₀ L s.heap m → (hd.heap_39 w.params).In h₀ → Top p loose mean mg mb h₀ → cs.kind = .function → P s.heap → dp + d < recursionLimit → un + u < cLine →
    (∀ v h' tk', Grows s.heap h' → R s.heap v h' → Q v { s with heap := h', toks := tk' }) →
    wpAny (model PySem.Challenge.rw_xp0018_01.row.prog w) (ktrTop dp un gd cn cs L a ccd cl outer) (call (.ref f) args) Q E s

theorem fr_grow {h₀ h h' : Heap} {L : Addr} {m : Str → Option Value} (F : Fr h₀ L h m) (g : Grows h h') : Fr h₀ L h' m :=
  ⟨F.ns.keeps g, fun b o e => g b o (F.keep b o e), F.above⟩
theorem news_grow {h₀ h h' : Heap} {L : Addr} {news : List (Addr × Obj)} (N : News h₀ L h news) (g : Grows h h') : News h₀ L h' news :=
  fun p hp => ⟨g _ _ (N p hp).1, (N p hp).2⟩

section
variable {prog : Program} {w : World} {A A₀ : Around} {E : Value → Shared → Prop} {s : Shared} {K : Frag} {L : Addr} {h₀ base : Heap} {m mg mb : Str → Option Value} {p : Program} {loose : List Str} {mean : ExcName → Option Value} {Q : Value → Shared → Prop}

theorem enterP {env : Env} {outer : List Env} {R : Result → Shared → Prop} {name qual : Str} {params : Arguments} {body : List Stmt} {scope : Scope} {dV kV doc pm cdv ct oc : Value} {an od : Option Addr} {osl : Array (Option Value)} {f : Addr} {args : Args} {binds : List (Str × Value)}
    (hA : A.frames = some (env :: outer)) (hf : env.frame = some L) (hke : env.scope.kind = .function) (B : Below A₀ base outer h₀) (F : Fr h₀ L s.heap m) (X₀ : K.In h₀) (T : Top p loose mean mg mb h₀)
    (ho : K.lookup f = some ⟨oc, od, .func (fnOf name qual params body scope dV kV doc pm an cdv ct), osl⟩) (hcd : codeIn K cdv qual = true) (hroom : A.depth < recursionLimit)
    (hbind : BindsTo s (fnOf name qual params body scope dV kV doc pm an cdv ct) args binds) (hloc : ∀ y ∈ binds, scope.names.lookup y.1 = some .local)
    (h : ∀ h₁, Fr s.heap s.heap.objs.size h₁ (fun y => binds.reverse.lookup y) → News s.heap s.heap.objs.size h₁ [] → Below A base (env :: outer) s.heap → K.In s.heap → Top p loose mean mg mb s.heap →
      wpAny (model prog w) (A.deeper (envOf qual scope s.heap.objs.size f cdv)) (execs body (envOf qual scope s.heap.objs.size f cdv))
        (fun fl s' => R (.ok (.ret (match fl with | .ret v => v | _ => .none))) s')
        (fun _ _ => False)
        { s with heap := h₁, toks := s.toks + binds.length })
    (hco : scope.isCoroutine = false) (hgen : scope.isGenerator = false) (hk : scope.kind = .function)
    (hcell : ∀ x ∈ scope.names, x.2 ≠ .cell) : codeAny (model prog w) A (.call (.ref f) args) R s := by
  have B₁ := pushX B F hf hke
  have B₂ : Below A base (env :: outer) s.heap := ⟨hA, B₁.stays, B₁.frames⟩
  have X := X₀.keeps F.keep
  refine codeAny_call_def (fd := fnOf name qual params body scope dV kV doc pm an cdv ct) (body := body) (binds := binds) hroom (X _ _ ho) rfl (T.nolimit.keeps F.keep) (codeRec_of X hcd) rfl hbind hcell hloc (fun h₁ hns hk₁ => ?_) hco hgen hk
  exact wpAny_mono (h h₁ ⟨hns, hk₁, Nat.le_refl _⟩ News.nil B₂ X (T.keeps F.keep)) (fun _ _ x => x) (fun _ _ x => x.elim)
end

noncomputable def Stop (P : Prop) : Prop := P
theorem stop_of {P : Prop} (h : Stop P) : P := h
theorem go_of {P : Prop} (h : P) : Stop P := h
theorem fr_name {h₀ h : Heap} {L : Addr} {m : Str → Option Value} (F : Fr h₀ L h m) {x : Str} {v : Value} (e : m x = some v) : Fr h₀ L h (fun y => if y = x then some v else m y) := by
  have : (fun y => if y = x then some v else m y) = m := by
    funext y
    by_cases q : y = x
    · simp [q, e]
    · simp [q]
  rw [this]; exact F
noncomputable def bindM : List (Str × Value) → (Str → Option Value) → Str → Option Value
  | [], m => m
  | p :: r, m => fun y => if y = p.1 then some p.2 else bindM r m y
noncomputable def AllM (m : Str → Option Value) : List (Str × Value) → Prop
  | [] => True
  | p :: r => m p.1 = some p.2 ∧ AllM m r
theorem bindM_eq {m : Str → Option Value} : ∀ {ps : List (Str × Value)}, AllM m ps → bindM ps m = m
  | [], _ => rfl
  | p :: r, h => by
    funext y
    show (if y = p.1 then some p.2 else bindM r m y) = m y
    by_cases q : y = p.1
    · rw [if_pos q, q]; exact h.1.symm
    · rw [if_neg q, bindM_eq h.2]
theorem fr_names {h₀ h : Heap} {L : Addr} {m : Str → Option Value} (ps : List (Str × Value)) (F : Fr h₀ L h m) (e : AllM m ps) : Fr h₀ L h (bindM ps m) := by rw [bindM_eq e]; exact F
section
variable {w : World} {f : Addr} {args : List Value} {d u : Nat} {P : Heap → Prop} {R : Heap → Value → Heap → Prop}
theorem spec_use (S : Spec w f args d u P R) {p : Program} {loose : List Str} {mean : ExcName → Option Value} {mg mb : Str → Option Value} {dp un : Nat} {gd : Option (List Code)} {cn : Str} {cs : Scope} {a : Addr} {ccd : Value}
    {cl : List (Str × Addr)} {outer : List Env} {A₀ : Around} {base h₀ : Heap} {L : Addr} {m : Str → Option Value} {news : List (Addr × Obj)} {s : Shared} {Q E : Value → Shared → Prop}
    (B : Below A₀ base outer h₀) (F : Fr h₀ L s.heap m) (X : (hd.heap_39 w.params).In h₀) (N : News h₀ L s.heap news) (T : Top p loose mean mg mb h₀) (hk : cs.kind = .function) (hP : P s.heap) (hd : dp + d < recursionLimit) (hu : un + u < cLine)
    (ret : ∀ v h' tk', Fr h₀ L h' m → News h₀ L h' news → Grows s.heap h' → R s.heap v h' → Q v { s with heap := h', toks := tk' }) :
    wpAny (model PySem.Challenge.rw_xp0018_01.row.prog w) (ktrTop dp un gd cn cs L a ccd cl outer) (call (.ref f) args) Q E s :=
  S _ _ _ _ _ _ _ _ _ _ _ _ _ _ _ _ _ _ _ _ _ _ B F X T hk hP hd hu fun v h' tk' g r => ret v h' tk' (fr_grow F g) (news_grow N g) g r
end
end
local macro_rules | `(tactic| walk_at "A") => `(tactic| first | with_reducible assumption | omega)
local macro_rules | `(tactic| walk_at "D") => `(tactic| first | with_reducible assumption | omega | decide +kernel)
local macro_rules | `(tactic| walk_at "R") => `(tactic| exact rfl)
local macro_rules | `(tactic| walk_at "S") => `(tactic| with_reducible assumption)
local macro_rules | `(tactic| walk_at "U") => `(tactic| with_unfolding_all rfl)
local macro_rules | `(tactic| walk_at "V") => `(tactic| (intro _; with_unfolding_all rfl))
local macro_rules | `(tactic| walk_at "P enter") => `(tactic| (refine wpAny_call ?_; k_dflt (refine' enterP (by walk_at "R") (by walk_at "R") (by assumption) (by k_asm) (by k_asm) (by k_asm) (by k_asm) (by k_is) (by k_is) (by ktr_room) (by exact BindsTo.of_eq rfl) (by exact locs rfl) ?_ (by walk_at "R") (by walk_at "R") (by walk_at "R") (by decide); k_whole; intro h' F' N' B' X' T'; (try dsimp only); (try k_fold))))
local macro_rules | `(tactic| walk_at "P steps") => `(tactic| repeat' (first | (k_unfold; (try dsimp only)) | walk1 | (dsimp only; first | walk1 | (k_unfold; (try dsimp only))) | (leave1; (try dsimp only)) | fail "no step"))
section
local macro_rules | `(tactic| walk_at "exec While") => `(tactic| refine stop_of ?_)
local macro_rules | `(tactic| walk_at "exec For") => `(tactic| refine stop_of ?_)
local macro_rules | `(tactic| walk_at "exec While Name cons nil") => `(tactic| refine stop_of ?_)
local macro_rules | `(tactic| walk_at "exec For Name Name cons nil") => `(tactic| refine stop_of ?_)
local macro_rules | `(tactic| walk_at "exec For Name Call cons nil") => `(tactic| refine stop_of ?_)

theorem gcd_step (a b : Int) (ha : 0 ≤ a) (hb : 0 ≤ b) (h : b ≠ 0) : Int.gcd b (a.fmod b) = Int.gcd a b ∧ 0 ≤ a.fmod b ∧ (a.fmod b).toNat < b.toNat := by
  have h1 : 0 ≤ a.fmod b := Int.fmod_nonneg_of_pos _ (by omega)
  have h2 : a.fmod b < b := Int.fmod_lt_of_pos _ (by omega)
  refine ⟨?_, h1, by omega⟩
  rw [Int.fmod_eq_emod_of_nonneg _ hb]
  obtain ⟨n, rfl⟩ := Int.eq_ofNat_of_zero_le ha
  obtain ⟨m, rfl⟩ := Int.eq_ofNat_of_zero_le hb
  show Nat.gcd m (n % m) = Nat.gcd n m
  rw [Nat.gcd_comm n m, Nat.gcd_rec m n, Nat.gcd_comm]
theorem div_spec (w : World) (h k : Int) (t1 t2 : Tok) (h0 : 0 ≤ h) (k0 : 0 ≤ k) : Spec w 192 [.int h t1, .int k t2] 1 8 (fun _ => True) (fun _ v _ => ∃ t, v = .int (Int.gcd h k) t) := by
  intro p loose mean mg mb dp un gd cn cs a ccd cl outer A₀ base h₀ L m s Q E B F X T hk hP hd hu hret
  walk_at "P enter"
  walk_at "P steps"
  refine go_of ?_
  refine While_inv2 (n₀ := k.toNat) (fun n m nx => nx = [] ∧ ∃ (a b : Int) (ta tb : Tok), m "h" = some (.int a ta) ∧ m "k" = some (.int b tb) ∧ 0 ≤ a ∧ 0 ≤ b ∧ Int.gcd a b = Int.gcd h k ∧ n = b.toNat) (by assumption) (by assumption) ⟨rfl, h, k, t1, t2, rfl, rfl, h0, k0, rfl, rfl⟩ ?_ (by first | passes_own | exact PassesOwn.never)
  rintro n m₁ news₁ h₁ tk₁ F₁ N₁ ⟨rfl, a, b, ta, tb, ea, eb, ha, hb, hg, rfl⟩
  replace F₁ := fr_names [("h", .int a ta), ("k", .int b tb)] F₁ ⟨ea, eb, trivial⟩
  walk_at "P steps"
  · obtain ⟨e1, e2, e3⟩ := gcd_step a b ha hb (by assumption)
    exact ⟨_, _, _, [], _, rfl, by k_asm, News.nil, e3, rfl, b, a.fmod b, _, _, rfl, rfl, hb, e2, e1.trans hg, rfl⟩
  · rename b = 0 => hb0
    subst hb0
    refine hret _ _ _ (Fr.keep (by k_asm)) ⟨ta, ?_⟩
    rw [← hg, Int.gcd_zero_right, Int.natAbs_of_nonneg ha]
end
section
noncomputable def disF : Nat → Int → Int → Int
  | 0, _, _ => 0
  | n + 1, h, k => if h.fmod k < 2 then 0 else ((h.fmod k - 1) * (k - 1) * (h.fmod k + k - 1) - 4 * k * disF n k (h.fmod k)).fdiv (4 * h.fmod k)
theorem disF_fin : ∀ n < 13, ∀ h < 13, ∀ k < 13, (disF n (Int.ofNat h) (Int.ofNat k)).natAbs ≤ 1000 := by decide +kernel
theorem disF_le {n : Nat} {h k : Int} (hn : n ≤ 12) (h0 : 0 ≤ h) (h1 : h ≤ 12) (k0 : 0 ≤ k) (k1 : k ≤ 12) : -1000 ≤ disF n h k ∧ disF n h k ≤ 1000 := by
  obtain ⟨a, rfl⟩ := Int.eq_ofNat_of_zero_le h0
  obtain ⟨b, rfl⟩ := Int.eq_ofNat_of_zero_le k0
  have := disF_fin n (by omega) a (by omega) b (by omega)
  simp only [Int.ofNat_eq_natCast] at this
  omega
theorem fmod_bd (h k : Int) (k0 : 1 ≤ k) : 0 ≤ h.fmod k ∧ h.fmod k < k := ⟨Int.fmod_nonneg_of_pos _ (by omega), Int.fmod_lt_of_pos _ (by omega)⟩
theorem disF_spec (w : World) : ∀ (n : Nat), n ≤ 12 → ∀ (h k : Int) (t1 t2 : Tok), 0 ≤ h → h ≤ 12 → 1 ≤ k → k ≤ n → Spec w 199 [.int h t1, .int k t2] n (8 * n) (fun _ => True) (fun _ v _ => ∃ t, v = .int (disF n h k) t) := by
  intro n
  induction n with
  | zero => intro _ h k t1 t2 _ _ a b; exact absurd (Int.le_trans a b) (by decide)
  | succ n ih =>
  intro hn h k t1 t2 h0 h1 k0 k1
  intro p loose mean mg mb dp un gd cn cs a ccd cl outer A₀ base h₀ L m s Q E B F X T hk hP hd hu hret
  obtain ⟨b0, b1⟩ := fmod_bd h k k0
  walk_at "P enter"
  walk_at "P steps"
  · exact hret _ _ _ (Fr.keep (by k_asm)) ⟨_, by rw [disF, if_pos (by assumption)]⟩
  · refine' spec_use (ih (by omega) k (h.fmod k) _ _ (by omega) (by omega) (by omega) (by omega)) ?k1 ?k2 ?k3 ?k4 ?k5 ?kK trivial ?kd ?ku ?_
    case k1 => k_asm
    case k2 => k_asm
    case k3 => k_asm
    case k4 => k_asm
    case k5 => k_asm
    case kK => exact rfl
    case kd => ktr_room
    case ku => ktr_units
    rintro v9 h9 tk9 F9 N9 g9 ⟨t9, rfl⟩
    have bb := disF_le (n := n) (h := k) (k := h.fmod k) (by omega) (by omega) (by omega) (by omega) (by omega)
    walk_at "P steps"
    exact hret _ _ _ (Fr.keep (by k_asm)) ⟨_, by rw [disF, if_neg (by assumption)]⟩
end
section
noncomputable def pad2 (n : Int) : Str := ⟨#[48 + n.toNat / 10, 48 + n.toNat % 10]⟩
noncomputable def digs (n : Nat) : List Nat := (Str.ofString (toString (n : Int))).cps.toList
noncomputable def pc2 : Builtin.Str.Percent := { ljust := false, sign := false, blank := false, alt := false, zero := true, width := some 2, prec := none, type := 100 }
theorem pad_fin : ∀ n < 100, (match Builtin.Str.percentField pc2 true (Builtin.Str.percentInt pc2 false (digs n)) with | none => Builtin.Str.percentInt pc2 false (digs n) | some l => l) = [48 + n / 10, 48 + n % 10] := by decide +kernel
section
variable {M : Model} {A : Around} {E : Value → Shared → Prop} {s : Shared} {p : List Value} {r : List Nat}
  {P : ForInStep (List Value × Builtin.Str.Writer × List Nat) → Shared → Prop} {w : Builtin.Str.Writer} {T : Str} {N : Nat} {o : Option Value}
theorem pad_match {c : Builtin.Str.Percent} {n : Int} {d : List Nat} (g : KPc.Good w T N) (hc : c = pc2) (hn : 0 ≤ n) (hm : n < 100) (hd : d = (Str.ofString (toString ((n.natAbs : Nat) : Int))).cps.toList) (ho : o = none)
    (h : ∀ w', KPc.Good w' (T ++ pad2 n) (N + 2) → P (ForInStep.yield (p, w', r)) s) :
    wpAny M A (match Builtin.Str.percentField c true (Builtin.Str.percentInt c (decide (n < 0)) d) with
      | none => pure (ForInStep.yield (p, w.add ⟨(Builtin.Str.percentInt c (decide (n < 0)) d).toArray⟩ o, r))
      | some laid => pure (ForInStep.yield (p, w.add ⟨laid.toArray⟩, r))) P E s := by
  obtain ⟨a, rfl⟩ := Int.eq_ofNat_of_zero_le hn
  have hneg : decide ((a : Int) < 0) = false := decide_eq_false (by omega)
  have hf := pad_fin a (by omega)
  subst hc ho hd
  have key : ∀ x : List Nat, x = [48 + a / 10, 48 + a % 10] → P (ForInStep.yield (p, w.add ⟨x.toArray⟩ none, r)) s := by
    rintro x rfl
    exact h _ (KPc.good_add (x := pad2 a) g (KPc.obj_none rfl))
  rw [hneg]
  rw [show (((a : Int).natAbs : Nat) : Int) = (a : Int) from rfl]
  unfold digs at hf
  generalize Builtin.Str.percentInt pc2 false _ = t at hf ⊢
  cases hX : Builtin.Str.percentField pc2 true t with
  | none => rw [hX] at hf; exact wpAny_pure (key _ hf)
  | some b => rw [hX] at hf; exact wpAny_pure (key _ hf)
theorem pad_match0 {c : Builtin.Str.Percent} {n : Int} {d : List Nat} (g : KPc.Good w Str.empty N) (hc : c = pc2) (hn : 0 ≤ n) (hm : n < 100) (hd : d = (Str.ofString (toString ((n.natAbs : Nat) : Int))).cps.toList) (ho : o = none)
    (h : ∀ w', KPc.Good w' (pad2 n) (N + 2) → P (ForInStep.yield (p, w', r)) s) :
    wpAny M A (match Builtin.Str.percentField c true (Builtin.Str.percentInt c (decide (n < 0)) d) with
      | none => pure (ForInStep.yield (p, w.add ⟨(Builtin.Str.percentInt c (decide (n < 0)) d).toArray⟩ o, r))
      | some laid => pure (ForInStep.yield (p, w.add ⟨laid.toArray⟩, r))) P E s :=
  pad_match g hc hn hm hd ho fun w' g' => h w' (by rw [KPc.empty_app] at g'; exact g')
end
theorem meets02 (n : Int) (t u : Tok) (h0 : 0 ≤ n) (h1 : n < 100) (hd : n.natAbs.log2 < 1920) (hd2 : ((n.natAbs : Nat) : Int).natAbs.log2 < 1920) :
    Meets (Builtin.«str.__mod__» ⟨[.str (Str.mk #[37, 48, 50, 100]) t, .int n u], []⟩) (fun _ R s => ∀ t' k, R (.ok (.ret (.str (pad2 n) t'))) { s with toks := k }) := by
  apply KPc.meets_of
  intro _ _ _ _ _ _ _
  rw [KPc.entry_is]
  unfold Builtin.Str.percentFormat
  refine wpAny_bind (wpAny_isInstance (typeIs_int _ _ _) F.sub_int_tuple ?_)
  refine wpAny_bind (wpAny_of_eq (a := none) rfl ?_)
  refine wpAny_bind (wpAny_of_eq (KPc.fills _ _) ?_)
  kpc_if
  refine wpAny_bind (wpAny_pure ?_)
  refine wpAny_bind ?_
  rw [KPc.range_list]
  refine KPc.start ?_
  intro _ _
  refine KPc.turn ?_
  kpc_check
  (repeat kpc_if)
  refine wpAny_bind ?_
  refine wpAny_holding ?_
  (repeat kpc_if)
  kpc_conv
  refine wpAny_pure ?_
  conv => arg 3; dsimp only
  refine' pad_match0 (N := 0) ?hg ?hc h0 h1 ?hd ?ho ?_
  case hg => kpc_g
  case hc => rfl
  case hd => rfl
  case ho => kpc_none
  intro _ _
  kpc_turns
theorem mod02 {prog : Program} {w : World} {A : Around} {E : Value → Shared → Prop} {s : Shared} {X : Str} {n : Int} {t u : Tok} {Q : Value → Shared → Prop} (hX : X = Str.mk #[37, 48, 50, 100]) (h0 : 0 ≤ n) (h1 : n < 100)
    (h : ∀ t' k, Q (.str (pad2 n) t') { s with toks := k }) : wpAny (model prog w) A (binaryOp .Mod (.str X t) (.int n u)) Q E s :=
  KPc.mod_lit (T := pad2 n) hX (shown (N := 2 ^ 1920) (by omega) (by omega) (Int.le_refl _)) (fun a b => meets02 n t u h0 h1 a b) h
noncomputable def absI (m : Int) : Int := if m < 0 then -m else m
theorem zone_bd (m : Int) (m0 : -720 ≤ m) (m1 : m ≤ 720) : 0 ≤ (if m < 0 then -m else m).fdiv 60 ∧ (if m < 0 then -m else m).fdiv 60 < 100 ∧ 0 ≤ (if m < 0 then -m else m).fmod 60 ∧ (if m < 0 then -m else m).fmod 60 < 100 := by
  have h : 0 ≤ (if m < 0 then -m else m) ∧ (if m < 0 then -m else m) ≤ 720 := by split <;> omega
  generalize (if m < 0 then -m else m) = a at h
  rw [Int.fdiv_eq_ediv_of_nonneg _ (by decide), Int.fmod_eq_emod_of_nonneg _ (by decide)]
  omega
end
section
local macro_rules | `(tactic| walk_at "F start") => `(tactic| (
  apply KPt.meets_tup
  intro _ _ _ _ _ _ kptH _
  obtain ⟨kptO, kptG, kptC, kptN, kptD⟩ := kptH
  rw [KPt.entry_is_r]
  unfold Builtin.Str.percentFormat
  refine wpAny_bind (wpAny_isInstance (T := "tuple") ⟨kptO, kptG, kptC⟩ KPt.sub_tt ?_)
  refine wpAny_bind (KPt.asStr_ref kptG kptD ?_)
  refine wpAny_bind (KPt.fills_ref ⟨kptO, kptG, kptC⟩ ?_)
  intro _
  kpc_if
  refine wpAny_bind (wpAny_seqItems kptG kptD ?_)
  refine wpAny_bind (wpAny_pure ?_)
  refine wpAny_bind ?_
  rw [KPc.range_list]
  refine KPc.start ?_
  intro _ _))
local macro_rules | `(tactic| walk_at "F lit") => `(tactic| (refine KPc.turn ?_; kpc_check; (repeat kpc_if); refine wpAny_pure ?_; kpt_piece))
local macro_rules | `(tactic| walk_at "F arg") => `(tactic| (refine KPc.turn ?_; kpc_check; (repeat kpc_if); refine wpAny_bind ?_; refine wpAny_holding ?_; (repeat kpc_if); kpt_conv; refine wpAny_pure ?_; refine wpAny_pure ?_; kpt_piece))
local macro_rules | `(tactic| walk_at "F sarg") => `(tactic| (refine KPc.turn ?_; kpc_check; (repeat kpc_if); refine wpAny_bind ?_; refine wpAny_holding ?_; (repeat kpc_if); kpt_conv; refine wpAny_pure ?_; refine wpAny_pure ?_; (first | (refine KPc.after_str0 (by kpc_g) (by kpt_len) (by kpc_obj) ?_; intro _ _) | (refine KPc.after_str (by kpc_g) (by kpt_len) (by kpc_obj) ?_; intro _ _) | kpt_piece)))
local macro_rules | `(tactic| walk_at "F pad") => `(tactic| (refine KPc.turn ?_; kpc_check; (repeat kpc_if); refine wpAny_bind ?_; refine wpAny_holding ?_; (repeat kpc_if); kpt_conv; refine wpAny_pure ?_; (conv => arg 3; dsimp only); (first | (refine' pad_match0 ?hg ?hc ?h0 ?h1 ?hd ?ho ?_; (case hg => kpc_g)) | (refine' pad_match ?hg ?hc ?h0 ?h1 ?hd ?ho ?_; (case hg => kpc_g))); (case hc => rfl); (case hd => rfl); (case ho => kpc_none); (case h0 => with_reducible assumption); (case h1 => with_reducible assumption); intro _ _))
local macro_rules | `(tactic| walk_at "F end") => `(tactic| (refine KPc.turn ?_; kpc_check; (repeat kpc_if); kpc_close))

noncomputable abbrev sA : Str := Str.mk #[37, 115, 37, 48, 50, 100, 58, 37, 48, 50, 100]
theorem fmtA (y0 : Str) (ty0 : Tok) (n1 : Int) (tn1 : Tok) (n2 : Int) (tn2 : Tok) (t : Tok) (b : Addr) (hy0 : y0.length ≤ 1000000) (hn1 : 0 ≤ n1) (kn1 : n1 < 100) (hn2 : 0 ≤ n2) (kn2 : n2 < 100) :
    Meets (Builtin.«str.__mod__» ⟨[.str (Str.mk #[37, 115, 37, 48, 50, 100, 58, 37, 48, 50, 100]) t, .ref b], []⟩) (fun _ K s => IsTup s.heap b #[.str y0 ty0, .int n1 tn1, .int n2 tn2] ∧ ∀ t' k, K (.ok (.ret (.str ((((y0 ++ pad2 n1) ++ Str.ofString ":") ++ pad2 n2)) t'))) { s with toks := k }) := by
  have ln1 : n1.natAbs.log2 < 1920 := shown (N := 2 ^ 1920) (by omega) (by omega) (Int.le_refl _)
  have mn1 : ((n1.natAbs : Nat) : Int).natAbs.log2 < 1920 := ln1
  have ln2 : n2.natAbs.log2 < 1920 := shown (N := 2 ^ 1920) (by omega) (by omega) (Int.le_refl _)
  have mn2 : ((n2.natAbs : Nat) : Int).natAbs.log2 < 1920 := ln2
  walk_at "F start"
  walk_at "F sarg"
  walk_at "F pad"
  walk_at "F lit"
  walk_at "F pad"
  walk_at "F end"
noncomputable abbrev sB : Str := Str.mk #[37, 115, 37, 48, 50, 100, 37, 48, 50, 100]
theorem fmtB (y0 : Str) (ty0 : Tok) (n1 : Int) (tn1 : Tok) (n2 : Int) (tn2 : Tok) (t : Tok) (b : Addr) (hy0 : y0.length ≤ 1000000) (hn1 : 0 ≤ n1) (kn1 : n1 < 100) (hn2 : 0 ≤ n2) (kn2 : n2 < 100) :
    Meets (Builtin.«str.__mod__» ⟨[.str (Str.mk #[37, 115, 37, 48, 50, 100, 37, 48, 50, 100]) t, .ref b], []⟩) (fun _ K s => IsTup s.heap b #[.str y0 ty0, .int n1 tn1, .int n2 tn2] ∧ ∀ t' k, K (.ok (.ret (.str (((y0 ++ pad2 n1) ++ pad2 n2)) t'))) { s with toks := k }) := by
  have ln1 : n1.natAbs.log2 < 1920 := shown (N := 2 ^ 1920) (by omega) (by omega) (Int.le_refl _)
  have mn1 : ((n1.natAbs : Nat) : Int).natAbs.log2 < 1920 := ln1
  have ln2 : n2.natAbs.log2 < 1920 := shown (N := 2 ^ 1920) (by omega) (by omega) (Int.le_refl _)
  have mn2 : ((n2.natAbs : Nat) : Int).natAbs.log2 < 1920 := ln2
  walk_at "F start"
  walk_at "F sarg"
  walk_at "F pad"
  walk_at "F pad"
  walk_at "F end"
noncomputable abbrev sC : Str := Str.mk #[37, 115, 37, 100]
theorem fmtC (y0 : Str) (ty0 : Tok) (n1 : Int) (tn1 : Tok) (t : Tok) (b : Addr) (hy0 : y0.length ≤ 1000000) (hn1 : 0 ≤ n1) (kn1 : n1 < 100) :
    Meets (Builtin.«str.__mod__» ⟨[.str (Str.mk #[37, 115, 37, 100]) t, .ref b], []⟩) (fun _ K s => IsTup s.heap b #[.str y0 ty0, .int n1 tn1] ∧ ∀ t' k, K (.ok (.ret (.str ((y0 ++ Str.ofString (toString n1))) t'))) { s with toks := k }) := by
  have ln1 : n1.natAbs.log2 < 1920 := shown (N := 2 ^ 1920) (by omega) (by omega) (Int.le_refl _)
  have mn1 : ((n1.natAbs : Nat) : Int).natAbs.log2 < 1920 := ln1
  walk_at "F start"
  walk_at "F sarg"
  walk_at "F arg"
  walk_at "F end"
noncomputable abbrev sD : Str := Str.mk #[37, 115, 37, 100, 58, 37, 48, 50, 100]
theorem fmtD (y0 : Str) (ty0 : Tok) (n1 : Int) (tn1 : Tok) (n2 : Int) (tn2 : Tok) (t : Tok) (b : Addr) (hy0 : y0.length ≤ 1000000) (hn1 : 0 ≤ n1) (kn1 : n1 < 100) (hn2 : 0 ≤ n2) (kn2 : n2 < 100) :
    Meets (Builtin.«str.__mod__» ⟨[.str (Str.mk #[37, 115, 37, 100, 58, 37, 48, 50, 100]) t, .ref b], []⟩) (fun _ K s => IsTup s.heap b #[.str y0 ty0, .int n1 tn1, .int n2 tn2] ∧ ∀ t' k, K (.ok (.ret (.str ((((y0 ++ Str.ofString (toString n1)) ++ Str.ofString ":") ++ pad2 n2)) t'))) { s with toks := k }) := by
  have ln1 : n1.natAbs.log2 < 1920 := shown (N := 2 ^ 1920) (by omega) (by omega) (Int.le_refl _)
  have mn1 : ((n1.natAbs : Nat) : Int).natAbs.log2 < 1920 := ln1
  have ln2 : n2.natAbs.log2 < 1920 := shown (N := 2 ^ 1920) (by omega) (by omega) (Int.le_refl _)
  have mn2 : ((n2.natAbs : Nat) : Int).natAbs.log2 < 1920 := ln2
  walk_at "F start"
  walk_at "F sarg"
  walk_at "F arg"
  walk_at "F lit"
  walk_at "F pad"
  walk_at "F end"
noncomputable abbrev sE : Str := Str.mk #[46, 46, 46, 123, 100, 101, 99, 107, 125, 37, 48, 50, 100, 46, 46, 46, 123, 100, 101, 99, 107, 125, 37, 48, 50, 100, 46, 46, 46]
theorem fmtE (n0 : Int) (tn0 : Tok) (n1 : Int) (tn1 : Tok) (t : Tok) (b : Addr) (hn0 : 0 ≤ n0) (kn0 : n0 < 100) (hn1 : 0 ≤ n1) (kn1 : n1 < 100) :
    Meets (Builtin.«str.__mod__» ⟨[.str (Str.mk #[46, 46, 46, 123, 100, 101, 99, 107, 125, 37, 48, 50, 100, 46, 46, 46, 123, 100, 101, 99, 107, 125, 37, 48, 50, 100, 46, 46, 46]) t, .ref b], []⟩) (fun _ K s => IsTup s.heap b #[.int n0 tn0, .int n1 tn1] ∧ ∀ t' k, K (.ok (.ret (.str (((((Str.ofString "...{deck}" ++ pad2 n0) ++ Str.ofString "...{deck}") ++ pad2 n1) ++ Str.ofString "...")) t'))) { s with toks := k }) := by
  have ln0 : n0.natAbs.log2 < 1920 := shown (N := 2 ^ 1920) (by omega) (by omega) (Int.le_refl _)
  have mn0 : ((n0.natAbs : Nat) : Int).natAbs.log2 < 1920 := ln0
  have ln1 : n1.natAbs.log2 < 1920 := shown (N := 2 ^ 1920) (by omega) (by omega) (Int.le_refl _)
  have mn1 : ((n1.natAbs : Nat) : Int).natAbs.log2 < 1920 := ln1
  walk_at "F start"
  walk_at "F lit"
  walk_at "F pad"
  walk_at "F lit"
  walk_at "F pad"
  walk_at "F lit"
  walk_at "F end"
noncomputable abbrev sF : Str := Str.mk #[123, 37, 115, 125, 37, 115]
theorem fmtF (y0 : Str) (ty0 : Tok) (y1 : Str) (ty1 : Tok) (t : Tok) (b : Addr) (hy0 : y0.length ≤ 1000000) (hy1 : y1.length ≤ 1000000) :
    Meets (Builtin.«str.__mod__» ⟨[.str (Str.mk #[123, 37, 115, 125, 37, 115]) t, .ref b], []⟩) (fun _ K s => IsTup s.heap b #[.str y0 ty0, .str y1 ty1] ∧ ∀ t' k, K (.ok (.ret (.str ((((Str.ofString "{" ++ y0) ++ Str.ofString "}") ++ y1)) t'))) { s with toks := k }) := by
  walk_at "F start"
  walk_at "F lit"
  walk_at "F sarg"
  walk_at "F lit"
  walk_at "F sarg"
  walk_at "F end"
end
section
noncomputable def zoneT (m f : Int) : Str :=
  if m = 0 then (if f = 0 then "GMT" else if f = 1 then "Z" else if f = 2 then "UTC" else "UT")
  else if (if m < 0 then -m else m).fmod 60 = 0 ∧ f > 1 then
    (if 0 < m then (if f = 0 ∨ f = 2 then "+" else "") else "-" : Str) ++ Str.ofString (toString ((if m < 0 then -m else m).fdiv 60))
  else if f = 2 then
    (((if 0 < m then (if f = 0 ∨ f = 2 then "+" else "") else "-" : Str) ++ Str.ofString (toString ((if m < 0 then -m else m).fdiv 60))) ++ (":" : Str)) ++ pad2 ((if m < 0 then -m else m).fmod 60)
  else if f = 0 then
    (((if 0 < m then (if f = 0 ∨ f = 2 then "+" else "") else "-" : Str) ++ pad2 ((if m < 0 then -m else m).fdiv 60)) ++ (":" : Str)) ++ pad2 ((if m < 0 then -m else m).fmod 60)
  else
    ((if 0 < m then (if f = 0 ∨ f = 2 then "+" else "") else "-" : Str) ++ pad2 ((if m < 0 then -m else m).fdiv 60)) ++ pad2 ((if m < 0 then -m else m).fmod 60)
theorem str_eq {x y : Str} {t : Tok} (h : x = y) : ∃ t', Value.str x t = Value.str y t' := ⟨t, by rw [h]⟩
theorem zt0 {m : Int} (h : m = 0) : (Str.ofString "GMT") = zoneT m 0 := by unfold zoneT; rw [if_pos h]; rfl
theorem zt1 {m : Int} (h : m = 0) : (Str.ofString "Z") = zoneT m 1 := by unfold zoneT; rw [if_pos h]; rfl
theorem zt2 {m : Int} (h : m = 0) : (Str.ofString "UTC") = zoneT m 2 := by unfold zoneT; rw [if_pos h]; rfl
theorem zt3 {m : Int} (h : m = 0) : (Str.ofString "UT") = zoneT m 3 := by unfold zoneT; rw [if_pos h]; rfl
theorem zpz0 {m : Int} (h : m ≠ 0) (hp : 0 < m) (hr : ((if m < 0 then -m else m).fmod 60) = 0) : (((Str.ofString "+" ++ pad2 ((if m < 0 then -m else m).fdiv 60)) ++ (":" : Str)) ++ pad2 ((if m < 0 then -m else m).fmod 60)) = zoneT m 0 := by
  unfold zoneT
  rw [if_neg h]
  generalize (if m < 0 then -m else m).fmod 60 = R9 at *
  simp [hp, hr]
theorem zpo0 {m : Int} (h : m ≠ 0) (hp : 0 < m) (hr : ((if m < 0 then -m else m).fmod 60) ≠ 0) : (((Str.ofString "+" ++ pad2 ((if m < 0 then -m else m).fdiv 60)) ++ (":" : Str)) ++ pad2 ((if m < 0 then -m else m).fmod 60)) = zoneT m 0 := by
  unfold zoneT
  rw [if_neg h]
  generalize (if m < 0 then -m else m).fmod 60 = R9 at *
  simp [hp, hr]
theorem znz0 {m : Int} (h : m ≠ 0) (hp : ¬ 0 < m) (hr : ((if m < 0 then -m else m).fmod 60) = 0) : (((Str.ofString "-" ++ pad2 ((if m < 0 then -m else m).fdiv 60)) ++ (":" : Str)) ++ pad2 ((if m < 0 then -m else m).fmod 60)) = zoneT m 0 := by
  unfold zoneT
  rw [if_neg h]
  generalize (if m < 0 then -m else m).fmod 60 = R9 at *
  simp [hp, hr]
theorem zno0 {m : Int} (h : m ≠ 0) (hp : ¬ 0 < m) (hr : ((if m < 0 then -m else m).fmod 60) ≠ 0) : (((Str.ofString "-" ++ pad2 ((if m < 0 then -m else m).fdiv 60)) ++ (":" : Str)) ++ pad2 ((if m < 0 then -m else m).fmod 60)) = zoneT m 0 := by
  unfold zoneT
  rw [if_neg h]
  generalize (if m < 0 then -m else m).fmod 60 = R9 at *
  simp [hp, hr]
theorem zpz1 {m : Int} (h : m ≠ 0) (hp : 0 < m) (hr : ((if m < 0 then -m else m).fmod 60) = 0) : ((Str.ofString "" ++ pad2 ((if m < 0 then -m else m).fdiv 60)) ++ pad2 ((if m < 0 then -m else m).fmod 60)) = zoneT m 1 := by
  unfold zoneT
  rw [if_neg h]
  generalize (if m < 0 then -m else m).fmod 60 = R9 at *
  simp [hp, hr]
theorem zpo1 {m : Int} (h : m ≠ 0) (hp : 0 < m) (hr : ((if m < 0 then -m else m).fmod 60) ≠ 0) : ((Str.ofString "" ++ pad2 ((if m < 0 then -m else m).fdiv 60)) ++ pad2 ((if m < 0 then -m else m).fmod 60)) = zoneT m 1 := by
  unfold zoneT
  rw [if_neg h]
  generalize (if m < 0 then -m else m).fmod 60 = R9 at *
  simp [hp, hr]
theorem znz1 {m : Int} (h : m ≠ 0) (hp : ¬ 0 < m) (hr : ((if m < 0 then -m else m).fmod 60) = 0) : ((Str.ofString "-" ++ pad2 ((if m < 0 then -m else m).fdiv 60)) ++ pad2 ((if m < 0 then -m else m).fmod 60)) = zoneT m 1 := by
  unfold zoneT
  rw [if_neg h]
  generalize (if m < 0 then -m else m).fmod 60 = R9 at *
  simp [hp, hr]
theorem zno1 {m : Int} (h : m ≠ 0) (hp : ¬ 0 < m) (hr : ((if m < 0 then -m else m).fmod 60) ≠ 0) : ((Str.ofString "-" ++ pad2 ((if m < 0 then -m else m).fdiv 60)) ++ pad2 ((if m < 0 then -m else m).fmod 60)) = zoneT m 1 := by
  unfold zoneT
  rw [if_neg h]
  generalize (if m < 0 then -m else m).fmod 60 = R9 at *
  simp [hp, hr]
theorem zpz2 {m : Int} (h : m ≠ 0) (hp : 0 < m) (hr : ((if m < 0 then -m else m).fmod 60) = 0) : (Str.ofString "+" ++ Str.ofString (toString ((if m < 0 then -m else m).fdiv 60))) = zoneT m 2 := by
  unfold zoneT
  rw [if_neg h]
  generalize (if m < 0 then -m else m).fmod 60 = R9 at *
  simp [hp, hr]
theorem zpo2 {m : Int} (h : m ≠ 0) (hp : 0 < m) (hr : ((if m < 0 then -m else m).fmod 60) ≠ 0) : (((Str.ofString "+" ++ Str.ofString (toString ((if m < 0 then -m else m).fdiv 60))) ++ (":" : Str)) ++ pad2 ((if m < 0 then -m else m).fmod 60)) = zoneT m 2 := by
  unfold zoneT
  rw [if_neg h]
  generalize (if m < 0 then -m else m).fmod 60 = R9 at *
  simp [hp, hr]
theorem znz2 {m : Int} (h : m ≠ 0) (hp : ¬ 0 < m) (hr : ((if m < 0 then -m else m).fmod 60) = 0) : (Str.ofString "-" ++ Str.ofString (toString ((if m < 0 then -m else m).fdiv 60))) = zoneT m 2 := by
  unfold zoneT
  rw [if_neg h]
  generalize (if m < 0 then -m else m).fmod 60 = R9 at *
  simp [hp, hr]
theorem zno2 {m : Int} (h : m ≠ 0) (hp : ¬ 0 < m) (hr : ((if m < 0 then -m else m).fmod 60) ≠ 0) : (((Str.ofString "-" ++ Str.ofString (toString ((if m < 0 then -m else m).fdiv 60))) ++ (":" : Str)) ++ pad2 ((if m < 0 then -m else m).fmod 60)) = zoneT m 2 := by
  unfold zoneT
  rw [if_neg h]
  generalize (if m < 0 then -m else m).fmod 60 = R9 at *
  simp [hp, hr]
theorem zpz3 {m : Int} (h : m ≠ 0) (hp : 0 < m) (hr : ((if m < 0 then -m else m).fmod 60) = 0) : (Str.ofString "" ++ Str.ofString (toString ((if m < 0 then -m else m).fdiv 60))) = zoneT m 3 := by
  unfold zoneT
  rw [if_neg h]
  generalize (if m < 0 then -m else m).fmod 60 = R9 at *
  simp [hp, hr]
theorem zpo3 {m : Int} (h : m ≠ 0) (hp : 0 < m) (hr : ((if m < 0 then -m else m).fmod 60) ≠ 0) : ((Str.ofString "" ++ pad2 ((if m < 0 then -m else m).fdiv 60)) ++ pad2 ((if m < 0 then -m else m).fmod 60)) = zoneT m 3 := by
  unfold zoneT
  rw [if_neg h]
  generalize (if m < 0 then -m else m).fmod 60 = R9 at *
  simp [hp, hr]
theorem znz3 {m : Int} (h : m ≠ 0) (hp : ¬ 0 < m) (hr : ((if m < 0 then -m else m).fmod 60) = 0) : (Str.ofString "-" ++ Str.ofString (toString ((if m < 0 then -m else m).fdiv 60))) = zoneT m 3 := by
  unfold zoneT
  rw [if_neg h]
  generalize (if m < 0 then -m else m).fmod 60 = R9 at *
  simp [hp, hr]
theorem zno3 {m : Int} (h : m ≠ 0) (hp : ¬ 0 < m) (hr : ((if m < 0 then -m else m).fmod 60) ≠ 0) : ((Str.ofString "-" ++ pad2 ((if m < 0 then -m else m).fdiv 60)) ++ pad2 ((if m < 0 then -m else m).fmod 60)) = zoneT m 3 := by
  unfold zoneT
  rw [if_neg h]
  generalize (if m < 0 then -m else m).fmod 60 = R9 at *
  simp [hp, hr]
end
section
local macro_rules | `(tactic| walk_at "binaryOp Mod str ref") => `(tactic| (k_dflt (first
  | (refine' KPt.mod_tuple (X' := sA) (by k_asm) (by k_mem) (by decide +kernel) (by (refine fmtA _ _ _ _ _ _ _ _ ?_ ?_ ?_ ?_ ?_ <;> walk_at "D")) ?_)
  | (refine' KPt.mod_tuple (X' := sB) (by k_asm) (by k_mem) (by decide +kernel) (by (refine fmtB _ _ _ _ _ _ _ _ ?_ ?_ ?_ ?_ ?_ <;> walk_at "D")) ?_)
  | (refine' KPt.mod_tuple (X' := sC) (by k_asm) (by k_mem) (by decide +kernel) (by (refine fmtC _ _ _ _ _ _ ?_ ?_ ?_ <;> walk_at "D")) ?_)
  | (refine' KPt.mod_tuple (X' := sD) (by k_asm) (by k_mem) (by decide +kernel) (by (refine fmtD _ _ _ _ _ _ _ _ ?_ ?_ ?_ ?_ ?_ <;> walk_at "D")) ?_)); intro _ _))
local macro_rules | `(tactic| walk_at "binaryOp Mod str int") => `(tactic| (k_dflt (refine' mod02 (by decide +kernel) (by walk_at "A") (by walk_at "A") ?_); intro _ _))

/-- behind the row that may turn the sign -/
noncomputable def SignAt (h₀ : Heap) (L : Addr) (m : Str → Option Value) (C : Str → Prop) (s : Shared) (f : Flow) (s' : Shared) : Prop :=
  f = .next ∧ ∃ h' tk sg t, s' = { s with heap := h', toks := tk } ∧ Fr h₀ L h' (fun y => if y = "sign" then some (.str sg t) else m y) ∧ C sg
theorem sign_end {h₀ h' : Heap} {L : Addr} {m : Str → Option Value} {C : Str → Prop} {s : Shared} {tk : Nat} {sg : Str} {t : Tok} (F : Fr h₀ L h' (fun y => if y = "sign" then some (.str sg t) else m y)) (c : C sg) : SignAt h₀ L m C s .next { s with heap := h', toks := tk } := ⟨rfl, h', tk, sg, t, rfl, F, c⟩
theorem fr_dup {h₀ h' : Heap} {L : Addr} {m : Str → Option Value} {x : Str} {a b : Option Value} (F : Fr h₀ L h' (fun y => if y = x then a else if y = x then b else m y)) : Fr h₀ L h' (fun y => if y = x then a else m y) := by
  have e : (fun y => if y = x then a else if y = x then b else m y) = fun y => if y = x then a else m y := by
    funext y
    by_cases q : y = x <;> simp [q]
  exact e ▸ F
theorem join_sign {M : Model} {A : Around} {E : Value → Shared → Prop} {s : Shared} {env : Env} {h₀ : Heap} {L : Addr} {m : Str → Option Value} {st : Stmt} {Q : Flow → Shared → Prop} {sg₀ : Str} {t₀ : Tok} (C : Str → Prop) (_F : Fr h₀ L s.heap (fun y => if y = "sign" then some (.str sg₀ t₀) else m y)) (h : wpAny M A (exec st env) (SignAt h₀ L m C s) E s)
    (k : ∀ h' tk sg t, Fr h₀ L h' (fun y => if y = "sign" then some (.str sg t) else m y) → C sg → Q .next { s with heap := h', toks := tk }) : wpAny M A (exec st env) Q E s :=
  wpAny_mono h (fun _ _ q => by obtain ⟨rfl, h', tk, sg, t, rfl, F, c⟩ := q; exact k h' tk sg t F c) fun _ _ e => e
theorem sign_len {m f : Int} {sg : Str} (c : (0 < m ∧ sg = (if f = 0 ∨ f = 2 then "+" else "")) ∨ (¬ 0 < m ∧ sg = "-")) : sg.length ≤ 1000000 := by
  rcases c with ⟨_, rfl⟩ | ⟨_, rfl⟩
  · split <;> decide
  · decide
local macro_rules | `(tactic| walk_at "exec If") => `(tactic| ((with_reducible show wpAny _ _ (exec (Stmt.If (PySem.Expr.Compare _ [CmpOp.Gt] _ _) _ _ _) _) _ _ _); refine stop_of ?_))
theorem zone_spec (w : World) (m f : Int) (t1 t2 : Tok) (m0 : -720 ≤ m) (m1 : m ≤ 720) (f0 : 0 ≤ f) (f1 : f ≤ 3) : Spec w 206 [.int m t1, .int f t2] 1 8 (fun _ => True) (fun _ v _ => ∃ t, v = .str (zoneT m f) t) := by
  intro p loose mean mg mb dp un gd cn cs a ccd cl outer A₀ base h₀ L m' s Q E B F X T hk hP hd hu hret
  obtain ⟨z1, z2, z3, z4⟩ := zone_bd m m0 m1
  obtain ⟨g, hg⟩ : ∃ g, g = f := ⟨f, rfl⟩
  obtain rfl | rfl | rfl | rfl : f = 0 ∨ f = 1 ∨ f = 2 ∨ f = 3 := by omega
  all_goals (
    walk_at "P enter"
    walk_at "P steps"
    · refine hret _ _ _ (Fr.keep (by k_asm)) (str_eq ?_)
      first
        | with_reducible exact zt0 (by assumption)
        | with_reducible exact zt1 (by assumption)
        | with_reducible exact zt2 (by assumption)
        | with_reducible exact zt3 (by assumption)
    refine go_of ?_
    rename Fr _ _ _ _ => F1
    refine join_sign (fun sg => (0 < m ∧ sg = (if g = 0 ∨ g = 2 then "+" else "")) ∨ (¬ 0 < m ∧ sg = "-")) F1 ?_ ?_
    · refine wpAny_If ?_
      walk_at "P steps"
      · exact sign_end (fr_dup (by k_asm)) (.inl ⟨by assumption, by rw [hg]; rfl⟩)
      · exact sign_end (by k_asm) (.inr ⟨by assumption, rfl⟩)
    intro h₁ tk₁ sg tg F₁ hC
    have hsl := sign_len (f := g) hC
    have N₁ : News s.heap s.heap.objs.size h₁ [] := News.nil
    clear F1
    walk_at "P steps"
    all_goals (
      subst hg
      refine hret _ _ _ (Fr.keep (by k_asm)) (str_eq ?_)
      rcases hC with ⟨hp, e⟩ | ⟨hp, e⟩
      all_goals (
        (first | rw [if_pos (by decide)] at e | rw [if_neg (by decide)] at e | skip)
        subst e
        first
        | with_reducible exact zpz0 (by assumption) (by assumption) (by assumption)
        | with_reducible exact zpo0 (by assumption) (by assumption) (by assumption)
        | with_reducible exact znz0 (by assumption) (by assumption) (by assumption)
        | with_reducible exact zno0 (by assumption) (by assumption) (by assumption)
        | with_reducible exact zpz1 (by assumption) (by assumption) (by assumption)
        | with_reducible exact zpo1 (by assumption) (by assumption) (by assumption)
        | with_reducible exact znz1 (by assumption) (by assumption) (by assumption)
        | with_reducible exact zno1 (by assumption) (by assumption) (by assumption)
        | with_reducible exact zpz2 (by assumption) (by assumption) (by assumption)
        | with_reducible exact zpo2 (by assumption) (by assumption) (by assumption)
        | with_reducible exact znz2 (by assumption) (by assumption) (by assumption)
        | with_reducible exact zno2 (by assumption) (by assumption) (by assumption)
        | with_reducible exact zpz3 (by assumption) (by assumption) (by assumption)
        | with_reducible exact zpo3 (by assumption) (by assumption) (by assumption)
        | with_reducible exact znz3 (by assumption) (by assumption) (by assumption)
        | with_reducible exact zno3 (by assumption) (by assumption) (by assumption))))
end
section
noncomputable def tzCode : Array Nat := #[14, 4, 0, 1, 6, 6, 0, 23, 14, 0, 1, 17, 0, 13, 6, 16, 45, 16, 43, 0, 17, 1, 18, 17, 2, 13, 4, 8, 0, 0, 24, 9, 0, 1, 13, 4, 8, 0, 0, 1, 17, 3, 24, 6, 0, 1, 16, 58, 1, 23, 17, 0, 1, 17, 4, 13, 4, 8, 0, 0, 13, 4, 8, 0, 0, 17, 5, 18, 6, 5, 1]
namespace RX
open PySem.Sre PySem.Sre.M
noncomputable def cls (c : Nat) : Nat := if isDigit c then 48 else c
structure RT (t t' : Array Nat) (a b : Sre.M) : Prop where
  code : b.code = tzCode
  text : b.text = t'
  eq : a = { b with text := t }
section
variable {t t' : Array Nat} {a b : Sre.M}
theorem say_R (h : RT t t' a b) (y : Bool) : RT t t' (a.say y) (b.say y) := by
  obtain ⟨hc, ht, rfl⟩ := h; exact ⟨hc, ht, rfl⟩
theorem stick_R (h : RT t t' a b) (y : String) : RT t t' (a.stick y) (b.stick y) := by
  obtain ⟨hc, ht, rfl⟩ := h; exact ⟨hc, ht, rfl⟩
theorem keep_R (h : RT t t' a b) (y : Bool) : a.keep y = b.keep y := by
  obtain ⟨hc, ht, rfl⟩ := h; rfl
theorem putBack_R (h : RT t t' a b) (k : Sre.Kept) : RT t t' (a.putBack k) (b.putBack k) := by
  obtain ⟨hc, ht, rfl⟩ := h; exact ⟨hc, ht, rfl⟩
theorem attempt_R (h : RT t t' a b) (f : Sre.Frame) (x y : Nat) (z : Bool) : RT t t' (a.attempt f x y z) (b.attempt f x y z) := by
  obtain ⟨hc, ht, rfl⟩ := h
  unfold attempt
  dsimp only
  split <;> exact ⟨hc, ht, rfl⟩
theorem mark_R (h : RT t t' a b) (i : Nat) : RT t t' (a.mark i) (b.mark i) := by
  obtain ⟨hc, ht, rfl⟩ := h; exact ⟨hc, ht, rfl⟩
theorem setLoop_R (h : RT t t' a b) (i : Nat) (f : Loop → Loop) : RT t t' (a.setLoop i f) (b.setLoop i f) := by
  obtain ⟨hc, ht, rfl⟩ := h; exact ⟨hc, ht, rfl⟩
theorem word_R (h : RT t t' a b) (k : Nat) : a.word k = b.word k := by
  obtain ⟨hc, ht, rfl⟩ := h; rfl
theorem loopAt_R (h : RT t t' a b) (k : Nat) : a.loopAt k = b.loopAt k := by
  obtain ⟨hc, ht, rfl⟩ := h; rfl
theorem frame_R (h : RT t t' a b) (k : Wait) : a.frame k = b.frame k := by
  obtain ⟨hc, ht, rfl⟩ := h; rfl
theorem afterRun_R (h : RT t t' a b) (wt : Wait) (c : Int) (k : Sre.Kept) : RT t t' (a.afterRun wt c k) (b.afterRun wt c k) := by
  have e := attempt_R h { b.frame wt with count := c, kept := k } (b.pc + 1 + b.word 1) b.pos b.outermost
  obtain ⟨hc, ht, rfl⟩ := h; exact e
theorem alternative_R (h : RT t t' a b) (x : Nat) (k : Sre.Kept) : RT t t' (a.alternative x k) (b.alternative x k) := by
  have e := attempt_R h { b.frame .nextBranch with pc := x, kept := k } (x + 1) b.pos b.outermost
  have e2 := say_R h false
  obtain ⟨hc, ht, rfl⟩ := h
  unfold alternative
  dsimp only
  split
  · exact e2
  · exact e
theorem afterLoop_R (h : RT t t' a b) (wt : Wait) (i : Nat) (c : Int) (g : Option Nat → Bool) : RT t t' (a.afterLoop wt i c g) (b.afterLoop wt i c g) := by
  obtain ⟨hc, ht, rfl⟩ := h
  exact attempt_R (a := { ({ b with inner := (b.loopAt i).outer } : Sre.M) with text := t }) (b := { b with inner := (b.loopAt i).outer }) ⟨hc, ht, rfl⟩ _ _ _ _
theorem round_R (h : RT t t' a b) (wt : Wait) (i : Nat) (c : Int) (g : Bool) (k : Sre.Kept) : RT t t' (a.round wt i c g k) (b.round wt i c g k) := by
  obtain ⟨hc, ht, rfl⟩ := h
  exact attempt_R (a := { (b.setLoop i fun l => { l with count := c, began := if g then some b.pos else l.began }) with text := t }) (b := b.setLoop i fun l => { l with count := c, began := if g then some b.pos else l.began }) ⟨hc, ht, rfl⟩ _ _ _ _
theorem flds (h : RT t t' a b) : a.inner = b.inner ∧ a.code = b.code ∧ a.pos = b.pos ∧ a.pc = b.pc ∧ a.lim = b.lim ∧ a.seen = b.seen ∧ a.outcome = b.outcome ∧ a.answer = b.answer ∧ a.frames = b.frames ∧ a.loops = b.loops ∧ a.outermost = b.outermost ∧ a.lastStart = b.lastStart ∧ a.weight = b.weight ∧ a.wholeText = b.wholeText ∧ a.mustAdvance = b.mustAdvance ∧ a.start = b.start ∧ a.handed = b.handed := by
  obtain ⟨hc, ht, rfl⟩ := h; exact ⟨rfl, rfl, rfl, rfl, rfl, rfl, rfl, rfl, rfl, rfl, rfl, rfl, rfl, rfl, rfl, rfl, rfl⟩
theorem until_R (h : RT t t' a b) (g : Bool) : RT t t' (a.until_ g) (b.until_ g) := by
  obtain ⟨e1, e2, e3, e4, -⟩ := flds h
  unfold until_
  rw [e1]
  cases b.inner with
  | none => exact stick_R h _
  | some i =>
    dsimp only
    rw [loopAt_R h, e2, e3, keep_R h]
    (repeat' split) <;> first | contradiction | exact round_R h _ _ _ _ _ | exact afterLoop_R h _ _ _ _
theorem attemptAt_R (h : RT t t' a b) (s : Nat) (f : Bool) : RT t t' (a.attemptAt s f) (b.attemptAt s f) := by
  obtain ⟨hc, ht, rfl⟩ := h
  exact attempt_R (a := { ({ b with start := s, pos := s, lastmark := -1, lastindex := -1 } : Sre.M) with text := t }) (b := { b with start := s, pos := s, lastmark := -1, lastindex := -1 }) ⟨hc, ht, rfl⟩ _ _ _ _
theorem first_no (m : Sre.M) (h : m.code = tzCode) : m.hasFirstSet = false := by
  unfold hasFirstSet; rw [h]; rfl
theorem attemptFrom_R (h : RT t t' a b) (s : Nat) (f : Bool) : RT t t' (a.attemptFrom s f) (b.attemptFrom s f) := by
  have ha : a.hasFirstSet = false := first_no a (by rw [h.eq]; exact h.code)
  have hb : b.hasFirstSet = false := first_no b h.code
  unfold attemptFrom
  rw [ha, hb]
  exact attemptAt_R h s f
/-- what the step at hand asks of the text is the same for both -/
structure Good (t t' : Array Nat) (b : Sre.M) : Prop where
  op : b.word 0 = 1 ∨ b.word 0 = 6 ∨ b.word 0 = 13 ∨ b.word 0 = 16 ∨ b.word 0 = 17 ∨ b.word 0 = 18 ∨ b.word 0 = 23 ∨ b.word 0 = 24
  acc : ∀ p seen, accepts tzCode b.pc (t.getD p 0) seen = accepts tzCode b.pc (t'.getD p 0) seen
  acc4 : ∀ p seen, accepts tzCode (b.pc + 4) (t.getD p 0) seen = accepts tzCode (b.pc + 4) (t'.getD p 0) seen
  at_ : b.word 0 = 6 → b.word 1 = 0 ∨ b.word 1 = 5
  ten : ∀ p, (t.getD p 0 == 10) = (t'.getD p 0 == 10)
theorem run_R (i : Nat) (h : ∀ p seen, accepts tzCode i (t.getD p 0) seen = accepts tzCode i (t'.getD p 0) seen) : ∀ n p f seen, Sre.run tzCode t i n p f seen = Sre.run tzCode t' i n p f seen
  | 0, _, _, _ => rfl
  | n + 1, p, f, sn => by
    unfold Sre.run
    rw [h]
    congr 1
    funext x
    obtain ⟨y, sn2⟩ := x
    cases y
    · rfl
    · exact run_R i h n _ _ _
theorem isAt_R (h : RT t t' a b) (g : ∀ p, (t.getD p 0 == 10) = (t'.getD p 0 == 10)) (k : Nat) (hk : k = 0 ∨ k = 5) : a.isAt k = b.isAt k := by
  obtain ⟨hc, ht, rfl⟩ := h
  rcases hk with rfl | rfl
  · rfl
  · show (Except.ok (b.pos == b.lim || b.pos + 1 == b.lim && t.getD b.pos 0 == 10) : Except String Bool) = Except.ok (b.pos == b.lim || b.pos + 1 == b.lim && b.text.getD b.pos 0 == 10)
    rw [ht, g]
theorem exec_R (h : RT t t' a b) (g : Good t t' b) : RT t t' (Sre.M.exec a) (Sre.M.exec b) := by
  have hat := isAt_R h g.ten
  have huntil := fun (sn : Sre.Seen) (pc : Nat) (g' : Bool) => until_R (a := { ({ b with seen := sn, pc := pc } : Sre.M) with text := t }) (b := { b with seen := sn, pc := pc }) (t := t) (t' := t') ⟨h.code, h.text, rfl⟩ g'
  have hrun := fun (sn : Sre.Seen) (pos : Nat) (wt : Wait) (c : Int) (k : Sre.Kept) => afterRun_R (a := { ({ b with seen := sn, pos := pos } : Sre.M) with text := t }) (b := { b with seen := sn, pos := pos }) (t := t) (t' := t') ⟨h.code, h.text, rfl⟩ wt c k
  have hatt := fun (sn : Sre.Seen) (ls : Array Loop) (inn : Option Nat) => attempt_R (a := { ({ b with seen := sn, loops := ls, inner := inn } : Sre.M) with text := t }) (b := { b with seen := sn, loops := ls, inner := inn }) (t := t) (t' := t') ⟨h.code, h.text, rfl⟩
  have hmark := fun (sn : Sre.Seen) (i : Nat) => mark_R (a := { ({ b with seen := sn } : Sre.M) with text := t }) (b := { b with seen := sn }) (t := t) (t' := t') ⟨h.code, h.text, rfl⟩ i
  obtain ⟨gop, gacc, gacc4, gat, gten⟩ := g
  obtain ⟨hc, ht, rfl⟩ := h
  have hw : ({ b with text := t } : Sre.M).word 0 = b.word 0 := rfl
  have hw1 : ({ b with text := t } : Sre.M).word 1 = b.word 1 := rfl
  unfold Sre.M.exec
  rw [hw]
  rcases gop with e | e | e | e | e | e | e | e <;> rw [e]
  · -- SUCCESS
    show RT t t' (if (b.outermost && (b.wholeText && b.pos != b.lim || b.mustAdvance && b.pos == b.start)) = true then _ else _) (if (b.outermost && (b.wholeText && b.pos != b.lim || b.mustAdvance && b.pos == b.start)) = true then _ else _)
    by_cases c : (b.outermost && (b.wholeText && b.pos != b.lim || b.mustAdvance && b.pos == b.start)) = true
    · rw [if_pos c, if_pos c]; exact ⟨hc, ht, rfl⟩
    · rw [if_neg c, if_neg c]; exact ⟨hc, ht, rfl⟩
  · -- AT
    have ha := hat (b.word 1) (gat e)
    show RT t t' (match ({ b with text := t } : Sre.M).isAt (b.word 1) with | .error why => _ | .ok yes => _) (match b.isAt (b.word 1) with | .error why => _ | .ok yes => _)
    rw [ha]
    cases b.isAt (b.word 1) with
    | error why => exact ⟨hc, ht, rfl⟩
    | ok yes => cases yes <;> exact ⟨hc, ht, rfl⟩
  · -- IN
    show RT t t' (if b.pos ≥ b.lim then _ else (match accepts b.code b.pc (t.getD b.pos 0) (b.seen.add 13) with | .error why => _ | .ok (false, sn) => _ | .ok (true, sn) => _)) (if b.pos ≥ b.lim then _ else (match accepts b.code b.pc (b.text.getD b.pos 0) (b.seen.add 13) with | .error why => _ | .ok (false, sn) => _ | .ok (true, sn) => _))
    by_cases c : b.pos ≥ b.lim
    · rw [if_pos c, if_pos c]; first | exact ⟨hc, ht, rfl⟩ | exact ⟨rfl, rfl, rfl⟩
    · rw [if_neg c, if_neg c, ht, hc, gacc]
      rcases accepts tzCode b.pc (t'.getD b.pos 0) (b.seen.add 13) with why | ⟨y, sn⟩
      · first | exact ⟨hc, ht, rfl⟩ | exact ⟨rfl, rfl, rfl⟩
      · cases y <;> first | exact ⟨hc, ht, rfl⟩ | exact ⟨rfl, rfl, rfl⟩
  · -- LITERAL
    show RT t t' (if b.pos ≥ b.lim then _ else (match accepts b.code b.pc (t.getD b.pos 0) (b.seen.add 16) with | .error why => _ | .ok (false, sn) => _ | .ok (true, sn) => _)) (if b.pos ≥ b.lim then _ else (match accepts b.code b.pc (b.text.getD b.pos 0) (b.seen.add 16) with | .error why => _ | .ok (false, sn) => _ | .ok (true, sn) => _))
    by_cases c : b.pos ≥ b.lim
    · rw [if_pos c, if_pos c]; first | exact ⟨hc, ht, rfl⟩ | exact ⟨rfl, rfl, rfl⟩
    · rw [if_neg c, if_neg c, ht, hc, gacc]
      rcases accepts tzCode b.pc (t'.getD b.pos 0) (b.seen.add 16) with why | ⟨y, sn⟩
      · first | exact ⟨hc, ht, rfl⟩ | exact ⟨rfl, rfl, rfl⟩
      · cases y <;> first | exact ⟨hc, ht, rfl⟩ | exact ⟨rfl, rfl, rfl⟩
  · exact hmark _ _
  · exact huntil _ _ _
  · exact hatt _ _ _ _ _ _ _
  · -- REPEAT_ONE
    show RT t t' (if ((b.word 2 : Nat) : Int) > (b.lim : Int) - b.pos then _ else (match Sre.run b.code t (b.pc + 4) (min (b.word 3) ((b.lim : Int) - b.pos).toNat) b.pos 0 ((b.seen.add 24).add (b.word 4)) with | .error why => _ | .ok (n, sn) => if n < b.word 2 then _ else _))
      (if ((b.word 2 : Nat) : Int) > (b.lim : Int) - b.pos then _ else (match Sre.run b.code b.text (b.pc + 4) (min (b.word 3) ((b.lim : Int) - b.pos).toNat) b.pos 0 ((b.seen.add 24).add (b.word 4)) with | .error why => _ | .ok (n, sn) => if n < b.word 2 then _ else _))
    by_cases c : ((b.word 2 : Nat) : Int) > (b.lim : Int) - b.pos
    · rw [if_pos c, if_pos c]; first | exact ⟨hc, ht, rfl⟩ | exact ⟨rfl, rfl, rfl⟩
    · rw [if_neg c, if_neg c, ht, hc, run_R _ gacc4]
      rcases Sre.run tzCode t' (b.pc + 4) (min (b.word 3) ((b.lim : Int) - b.pos).toNat) b.pos 0 ((b.seen.add 24).add (b.word 4)) with why | ⟨n, sn⟩
      · first | exact ⟨hc, ht, rfl⟩ | exact ⟨rfl, rfl, rfl⟩
      · dsimp only
        by_cases c2 : n < b.word 2
        · rw [if_pos c2, if_pos c2]; first | exact ⟨hc, ht, rfl⟩ | exact ⟨rfl, rfl, rfl⟩
        · rw [if_neg c2, if_neg c2]; have q := hrun sn (b.pos + n) .giveBack n (b.keep b.inner.isSome); rw [hc, ht] at q; exact q
/-- frames that ask nothing of the text -/
noncomputable def waitOk : Wait → Bool
  | .takeMore => false
  | .minTail | .minMore | .minBelow | .possBelow | .possMore | .atomic | .look | .lookNot | .nextBranch => false
  | _ => true
theorem resume_R (h : RT t t' a b) (f : Sre.Frame) (y : Bool) (hf : waitOk f.wait = true) : RT t t' (a.resume f y) (b.resume f y) := by
  obtain ⟨e1, e2, e3, e4, e5, e6, e7, e8, e9, e10, e11, e12, e13, e14, e15, e16, e17⟩ := flds h
  have hb := putBack_R h f.kept
  obtain ⟨wt, pc, pos, om, cnt, kept, lp, bg⟩ := f
  cases wt <;> first | exact absurd hf Bool.false_ne_true | skip
  · -- nextStart
    unfold Sre.M.resume
    dsimp only
    cases y with
    | true => exact say_R h _
    | false =>
      show RT t t' (if pos < a.lastStart then _ else _) (if pos < b.lastStart then _ else _)
      rw [e12]
      by_cases c : pos < b.lastStart
      · rw [if_pos c, if_pos c]
        refine attemptFrom_R ?_ _ _
        obtain ⟨hc, ht, rfl⟩ := h; exact ⟨hc, ht, rfl⟩
      · rw [if_neg c, if_neg c]; exact say_R h _
  · -- giveBack
    unfold Sre.M.resume
    dsimp only
    cases y with
    | true => exact say_R h _
    | false =>
      show RT t t' (if cnt - 1 < ((a.word 2 : Nat) : Int) then _ else _) (if cnt - 1 < ((b.word 2 : Nat) : Int) then _ else _)
      rw [word_R h]
      by_cases c : cnt - 1 < ((b.word 2 : Nat) : Int)
      · rw [if_pos c, if_pos c]; exact say_R hb _
      · rw [if_neg c, if_neg c]
        refine afterRun_R ?_ _ _ _
        obtain ⟨hc, ht, q⟩ := hb; rw [q]; exact ⟨hc, ht, rfl⟩
  · -- closeLoop
    obtain ⟨hc, ht, rfl⟩ := h; exact ⟨hc, ht, rfl⟩
  · -- maxBelow
    cases y with
    | true => exact say_R h _
    | false => exact say_R (setLoop_R h _ _) _
  · -- maxMore
    cases y with
    | true => exact say_R (setLoop_R h _ _) _
    | false => exact afterLoop_R (setLoop_R (putBack_R (setLoop_R h lp fun l => { l with began := bg }) kept) lp fun l => { l with count := cnt - 1 }) .maxTail lp cnt fun _ => false
  · -- maxTail
    obtain ⟨hc, ht, rfl⟩ := h; exact ⟨hc, ht, rfl⟩
noncomputable def goodPc : List Nat := [5, 7, 11, 13, 20, 22, 23, 25, 30, 39, 40, 42, 48, 49, 53, 55, 60, 65, 67, 68, 70, 46]
noncomputable def stepOk (m : Sre.M) : Bool :=
  match m.answer, m.frames with
  | some _, f :: _ => waitOk f.wait
  | some _, [] => true
  | none, _ => goodPc.contains m.pc
structure Same (t t' : Array Nat) : Prop where
  acc : ∀ pc ∈ goodPc, ∀ p seen, accepts tzCode pc (t.getD p 0) seen = accepts tzCode pc (t'.getD p 0) seen
  acc4 : ∀ pc ∈ goodPc, ∀ p seen, accepts tzCode (pc + 4) (t.getD p 0) seen = accepts tzCode (pc + 4) (t'.getD p 0) seen
  ten : ∀ p, (t.getD p 0 == 10) = (t'.getD p 0 == 10)
theorem goodOp : ∀ pc ∈ goodPc, (tzCode.getD pc 0 = 1 ∨ tzCode.getD pc 0 = 6 ∨ tzCode.getD pc 0 = 13 ∨ tzCode.getD pc 0 = 16 ∨ tzCode.getD pc 0 = 17 ∨ tzCode.getD pc 0 = 18 ∨ tzCode.getD pc 0 = 23 ∨ tzCode.getD pc 0 = 24) ∧ (tzCode.getD pc 0 = 6 → tzCode.getD (pc + 1) 0 = 0 ∨ tzCode.getD (pc + 1) 0 = 5) := by decide +kernel
theorem step_R (S : Same t t') (h : RT t t' a b) (g : stepOk b = true) : RT t t' a.step b.step := by
  obtain ⟨e1, e2, e3, e4, e5, e6, e7, e8, e9, e10, e11, e12, e13, e14, e15, e16, e17⟩ := flds h
  unfold Sre.M.step
  rw [e7]
  by_cases c : b.outcome.isSome = true
  · rw [if_pos c, if_pos c]; exact h
  · rw [if_neg c, if_neg c]
    unfold stepOk at g
    rw [e8, e9]
    cases ha : b.answer with
    | some yes =>
      cases hf : b.frames with
      | nil => obtain ⟨hc, ht, rfl⟩ := h; exact ⟨hc, ht, rfl⟩
      | cons f rest =>
        rw [ha, hf] at g
        refine resume_R ?_ f yes g
        obtain ⟨hc, ht, rfl⟩ := h; exact ⟨hc, ht, rfl⟩
    | none =>
      rw [ha] at g
      have hm : b.pc ∈ goodPc := by simpa using g
      dsimp only
      rw [e4, e2]
      by_cases c2 : b.pc < b.code.size
      · rw [if_pos c2, if_pos c2]
        refine exec_R h ⟨?_, S.acc _ hm, S.acc4 _ hm, ?_, S.ten⟩
        · have := (goodOp _ hm).1
          rw [← h.code] at this; exact this
        · have := (goodOp _ hm).2
          rw [← h.code] at this; exact this
      · rw [if_neg c2, if_neg c2]; exact stick_R h _
noncomputable def allOk : Nat → Sre.M → Bool
  | 0, _ => true
  | n + 1, m => stepOk m && allOk n m.step
theorem runFor_R (S : Same t t') : ∀ (n : Nat) {a b : Sre.M}, RT t t' a b → allOk n b = true → RT t t' (a.runFor n) (b.runFor n)
  | 0, _, _, h, _ => h
  | n + 1, a, b, h, g => by
    have g' := Bool.and_eq_true_iff.mp (show (stepOk b && allOk n b.step) = true from g)
    unfold Sre.M.runFor
    rw [(flds h).2.2.2.2.2.2.1]
    by_cases c : b.outcome.isSome = true
    · rw [if_pos c, if_pos c]; exact h
    · rw [if_neg c, if_neg c]
      exact runFor_R S n (step_R S h g'.1) g'.2
end
end RX
end
section
namespace RX
open PySem.Sre PySem.Sre.M
noncomputable def AccD : List Nat → Prop
  | [] => True
  | pc :: r => ((∀ sn, accepts tzCode pc 49 sn = accepts tzCode pc 48 sn) ∧ (∀ sn, accepts tzCode pc 50 sn = accepts tzCode pc 48 sn) ∧ (∀ sn, accepts tzCode pc 51 sn = accepts tzCode pc 48 sn) ∧ (∀ sn, accepts tzCode pc 52 sn = accepts tzCode pc 48 sn) ∧ (∀ sn, accepts tzCode pc 53 sn = accepts tzCode pc 48 sn) ∧
      (∀ sn, accepts tzCode pc 54 sn = accepts tzCode pc 48 sn) ∧ (∀ sn, accepts tzCode pc 55 sn = accepts tzCode pc 48 sn) ∧ (∀ sn, accepts tzCode pc 56 sn = accepts tzCode pc 48 sn) ∧ (∀ sn, accepts tzCode pc 57 sn = accepts tzCode pc 48 sn)) ∧ AccD r
theorem accD : AccD goodPc := by
  unfold goodPc
  repeat' (first | exact True.intro | exact fun _ => rfl | refine And.intro ?_ ?_)
theorem accD4 : AccD (goodPc.map (· + 4)) := by
  unfold goodPc
  repeat' (first | exact True.intro | exact fun _ => rfl | refine And.intro ?_ ?_)
theorem accD_of : ∀ {l : List Nat}, AccD l → ∀ pc ∈ l, ∀ c, isDigit c = true → ∀ sn, accepts tzCode pc c sn = accepts tzCode pc 48 sn
  | [], _, _, h, _, _, _ => nomatch h
  | q :: r, H, pc, h, c, hc, sn => by
    rcases List.mem_cons.mp h with rfl | h
    · obtain ⟨⟨a1, a2, a3, a4, a5, a6, a7, a8, a9⟩, -⟩ := H
      have hb : 48 ≤ c ∧ c ≤ 57 := by simpa [isDigit] using hc
      obtain ⟨d, rfl⟩ : ∃ d, c = 48 + d := ⟨c - 48, by omega⟩
      have hd : d < 10 := by omega
      clear hb hc h
      match d, hd with
      | 0, _ => rfl
      | 1, _ => exact a1 _
      | 2, _ => exact a2 _
      | 3, _ => exact a3 _
      | 4, _ => exact a4 _
      | 5, _ => exact a5 _
      | 6, _ => exact a6 _
      | 7, _ => exact a7 _
      | 8, _ => exact a8 _
      | 9, _ => exact a9 _
      | d + 10, h => exact absurd h (Nat.not_lt_of_le (Nat.le_add_left 10 d))
    · exact accD_of H.2 pc h c hc sn
theorem cls_get (t : Array Nat) (p : Nat) : (t.map cls).getD p 0 = cls (t.getD p 0) := by
  simp only [Array.getD_eq_getD_getElem?, Array.getElem?_map]
  cases t[p]? with
  | none => rfl
  | some c => rfl
theorem cls_or (c : Nat) : (isDigit c = true ∧ cls c = 48) ∨ cls c = c := by
  unfold cls
  cases h : isDigit c with
  | true => exact .inl ⟨rfl, rfl⟩
  | false => exact .inr rfl
theorem same_cls (t : Array Nat) : Same t (t.map cls) := by
  refine ⟨fun pc hpc p sn => ?_, fun pc hpc p sn => ?_, fun p => ?_⟩
  · rw [cls_get]
    rcases cls_or (t.getD p 0) with ⟨h, e⟩ | e
    · rw [e]; exact accD_of accD pc hpc _ h sn
    · rw [e]
  · rw [cls_get]
    rcases cls_or (t.getD p 0) with ⟨h, e⟩ | e
    · rw [e]; exact accD_of accD4 (pc + 4) (List.mem_map.mpr ⟨pc, hpc, rfl⟩) _ h sn
    · rw [e]
  · rw [cls_get]
    rcases cls_or (t.getD p 0) with ⟨h, e⟩ | e
    · rw [e]
      have hb : 48 ≤ t.getD p 0 ∧ t.getD p 0 ≤ 57 := by simpa [isDigit] using h
      have : (t.getD p 0 == 10) = false := by
        rw [beq_eq_false_iff_ne]; omega
      rw [this]; rfl
    · rw [e]
noncomputable def tzStart (t : Array Nat) : Sre.M := Sre.forSearch tzCode t 3 0 t.size false
theorem start_R (t t' : Array Nat) (hs : t.size = t'.size) : RT t t' (tzStart t) (tzStart t') := by
  unfold tzStart forSearch
  rw [hs]
  dsimp only
  split
  · refine say_R ?_ _
    exact ⟨rfl, rfl, rfl⟩
  · refine attemptFrom_R ?_ _ _
    exact ⟨rfl, rfl, rfl⟩
/-- what the run says of a text, by its signs' classes -/
structure Says (m : Sre.M) (b e lm : Nat) (li : Int) (marks : Array (Option Nat)) : Prop where
  out : (match m.outcome with | some .matched => true | _ => false) = true
  start : m.start = b
  handed : m.handed = e
  lastmark : m.lastmark = (lm : Int)
  lastindex : m.lastindex = li
  marks : m.marks = marks
theorem says_of {t : Array Nat} {n b e lm : Nat} {li : Int} {marks : Array (Option Nat)} (ok : allOk n (tzStart (t.map cls)) = true) (h : Says ((tzStart (t.map cls)).runFor n) b e lm li marks) :
    Says ((tzStart t).runFor n) b e lm li marks ∧ ((tzStart t).runFor n).seen = ((tzStart (t.map cls)).runFor n).seen := by
  have r := runFor_R (same_cls t) n (start_R t (t.map cls) (by simp)) ok
  obtain ⟨hc, ht, e⟩ := r
  obtain ⟨h1, h2, h3, h4, h5, h6⟩ := h
  rw [e]
  exact ⟨⟨h1, h2, h3, h4, h5, h6⟩, rfl⟩
noncomputable def sayB (t : Array Nat) (n b e lm : Nat) (li : Int) (marks : List (Option Nat)) : Bool :=
  allOk n (tzStart t) && (match ((tzStart t).runFor n).outcome with | some .matched => true | _ => false) && ((tzStart t).runFor n).start == b && ((tzStart t).runFor n).handed == e && ((tzStart t).runFor n).lastmark == (lm : Int) && ((tzStart t).runFor n).lastindex == li && ((tzStart t).runFor n).marks.toList == marks
end RX
end
section
namespace RX
open PySem.Sre PySem.Sre.M PySem.Builtin PySem.Builtin.Re
theorem runFor_add (m : Sre.M) : ∀ a b, m.runFor (a + b) = (m.runFor a).runFor b := by
  intro a
  induction a generalizing m with
  | zero => intro b; rw [Nat.zero_add]; rfl
  | succ a ih =>
    intro b
    rw [Nat.succ_add]
    show (if m.outcome.isSome = true then m else m.step.runFor (a + b)) = (if m.outcome.isSome = true then m else m.step.runFor a).runFor b
    by_cases c : m.outcome.isSome = true
    · rw [if_pos c, if_pos c]
      cases b with
      | zero => rfl
      | succ b => show m = (if m.outcome.isSome = true then m else m.step.runFor b); rw [if_pos c]
    · rw [if_neg c, if_neg c]; exact ih _ b
theorem runFor_done (m : Sre.M) (h : m.outcome.isSome = true) (n : Nat) : m.runFor n = m := by
  cases n with
  | zero => rfl
  | succ n => show (if m.outcome.isSome = true then m else _) = m; rw [if_pos h]
section
variable {M : Model} {A : Around} {E : Value → Shared → Prop} {s : Shared}
theorem drive_wp {Q : Sre.M → Shared → Prop} (N : Nat) : ∀ (k : Nat) (m : Sre.M), (m.runFor (4 * (k + 1))).outcome.isSome = true → Q (m.runFor (4 * (k + 1))) s → wpAny M A (reDrive (N + (k + 1)) m) Q E s := by
  intro k
  induction k with
  | zero =>
    intro m h q
    show wpAny M A (if (m.runFor 4).outcome.isSome = true then pure (m.runFor 4) else _) Q E s
    rw [if_pos h]
    exact wpAny_pure q
  | succ k ih =>
    intro m h q
    show wpAny M A (if (m.runFor 4).outcome.isSome = true then pure (m.runFor 4) else (do rule "sre.turn"; reDrive (N + (k + 1)) (m.runFor 4))) Q E s
    have e : m.runFor (4 * (k + 1 + 1)) = (m.runFor 4).runFor (4 * (k + 1)) := by rw [← runFor_add]; congr 1; omega
    rw [e] at h q
    by_cases c : (m.runFor 4).outcome.isSome = true
    · rw [if_pos c]
      rw [runFor_done _ c] at q
      exact wpAny_pure q
    · rw [if_neg c]
      exact wpAny_bind (wpAny_rule (ih _ h q))
theorem names_wp {m : Sre.M} {Q : PUnit → Shared → Prop} (h : Q ⟨⟩ s) : ∀ l : List Nat, wpAny M A (forIn l PUnit.unit fun i _ => do
    if m.seen.has i then rule (Sre.names.getD i "")
    pure (ForInStep.yield PUnit.unit)) Q E s
  | [] => wpAny_pure h
  | i :: l => by
    rw [List.forIn_cons]
    refine wpAny_bind ?_
    by_cases c : m.seen.has i = true
    · rw [if_pos c]
      exact wpAny_bind (wpAny_rule (wpAny_pure (names_wp h l)))
    · rw [if_neg c]
      exact wpAny_pure (names_wp h l)
theorem toEnd_wp {m : Sre.M} {Q : Option Sre.M → Shared → Prop} (k : Nat) (hk : k + 1 ≤ 2 ^ 64) (h : (match (m.runFor (4 * (k + 1))).outcome with | some .matched => true | _ => false) = true) (q : Q (some (m.runFor (4 * (k + 1)))) s) :
    wpAny M A (reRunToEnd m) Q E s := by
  unfold reRunToEnd
  have ho : (m.runFor (4 * (k + 1))).outcome.isSome = true := by
    cases hq : (m.runFor (4 * (k + 1))).outcome with
    | none => rw [hq] at h; cases h
    | some o => rfl
  have e : 2 ^ 64 = (2 ^ 64 - (k + 1)) + (k + 1) := by omega
  rw [e]
  refine wpAny_bind (drive_wp _ k m ho ?_)
  refine wpAny_bind (names_wp ?_ _)
  generalize m.runFor (4 * (k + 1)) = m' at h q
  cases hq : m'.outcome with
  | none => rw [hq] at h; cases h
  | some o =>
    cases o with
    | matched => exact wpAny_pure q
    | failed => rw [hq] at h; cases h
    | stuck w => rw [hq] at h; cases h
end
theorem named_search (v : Value) : reNamed "re.Pattern.search" "search" ["string", "pos", "endpos"] 1 [v] [] = pure [some v, none, none] := by rfl
noncomputable def patVals : Array Value := #[.str (Str.ofString "^([-+])?(\\d\\d?):?(\\d\\d)?$") 294, .int 256 368, .int 3 0, .none, .none, .ref 36, .int 0 0]
noncomputable def codeVals : Array Value := tzCode.map fun (n : Nat) => Value.int (n : Int) 0
noncomputable def spanVals (m : Sre.M) : List Value := (List.range 3).flatMap fun g =>
    match if ((2 * g + 1 : Nat) : Int) ≤ m.lastmark then (m.marks.getD (2 * g) none, m.marks.getD (2 * g + 1) none) else (none, none) with
    | (some b, some e) => [rawInt b, rawInt e]
    | _ => [rawInt (-1), rawInt (-1)]
theorem spanVals_length (m : Sre.M) : (spanVals m).length = 6 := by
  have two : ∀ p : Option Nat × Option Nat, (match p with | (some b, some e) => [rawInt (b : Int), rawInt (e : Int)] | _ => [rawInt (-1), rawInt (-1)]).length = 2 := by
    rintro ⟨a, b⟩; cases a <;> cases b <;> rfl
  show (_ ++ (_ ++ (_ ++ []))).length = 6
  simp only [List.length_append, List.length_nil]
  have h0 := two (if ((2 * 0 + 1 : Nat) : Int) ≤ m.lastmark then (m.marks.getD (2 * 0) none, m.marks.getD (2 * 0 + 1) none) else (none, none))
  have h1 := two (if ((2 * 1 + 1 : Nat) : Int) ≤ m.lastmark then (m.marks.getD (2 * 1) none, m.marks.getD (2 * 1 + 1) none) else (none, none))
  have h2 := two (if ((2 * 2 + 1 : Nat) : Int) ≤ m.lastmark then (m.marks.getD (2 * 2) none, m.marks.getD (2 * 2 + 1) none) else (none, none))
  exact Eq.trans (congr (congrArg Nat.add h0) (congr (congrArg Nat.add h1) (congrArg (· + 0) h2))) rfl
theorem code_raw : (codeVals.map reRawOf).map (·.toNat) = tzCode := by decide +kernel
section
variable {M : Model} {A : Around} {E : Value → Shared → Prop} {s : Shared}
theorem target_wp {x : Str} {t : Tok} {Q : ReTarget → Shared → Prop} {o o2 : Obj} {n : Nat} (h37 : s.heap.get? 37 = some o) (hd : o.data = .fields patVals) (h36 : s.heap.get? 36 = some o2) (hd2 : o2.data = .seq codeVals n)
    (hx : x.length ≤ 1000000) (h : Q { pattern := .ref 37, string := .str x t, code := tzCode, text := x.cps, kind := 0, groups := 3, pos := 0, lim := x.cps.size } s) :
    wpAny M A (reTarget "re.Pattern.search" "search" ⟨[.ref 37, .str x t], []⟩) Q E s := by
  unfold reTarget
  show wpAny M A (reNamed "re.Pattern.search" "search" ["string", "pos", "endpos"] 1 [.str x t] [] >>= _) Q E s
  rw [named_search]
  refine wpAny_bind (wpAny_pure ?_)
  dsimp only
  refine wpAny_bind (wpAny_pure ?_)
  refine wpAny_bind (wpAny_pure ?_)
  unfold fieldsOf
  refine wpAny_bind (wpAny_bind (wpAny_load h37 ?_))
  rw [hd]
  refine wpAny_pure ?_
  unfold reTextOf
  refine wpAny_bind (wpAny_bind (wpAny_pure ?_))
  refine wpAny_pure ?_
  refine wpAny_ite (KPc.ite_no Bool.false_ne_true ?_)
  refine wpAny_ite (KPc.ite_no Bool.false_ne_true ?_)
  unfold reNoCollectionInside
  refine wpAny_bind (wpAny_ite (KPc.ite_no Bool.false_ne_true (wpAny_pure ?_)))
  unfold reRawItems seqItems?
  refine wpAny_bind (wpAny_bind (wpAny_bind (wpAny_load h36 ?_)))
  rw [hd2]
  refine wpAny_pure (wpAny_pure (wpAny_pure ?_))
  have e1 : min ((2 : Int) ^ 63 - 1).toNat x.cps.size = x.cps.size := by
    have : x.cps.size ≤ 1000000 := hx
    omega
  have e2 : min (Int.toNat 0) x.cps.size = 0 := by omega
  show Q { pattern := .ref 37, string := .str x t, code := (codeVals.map reRawOf).map (·.toNat), text := x.cps, kind := 0, groups := 3, pos := min (Int.toNat 0) x.cps.size, lim := min ((2 : Int) ^ 63 - 1).toNat x.cps.size } s
  rw [code_raw, e1, e2]
  exact h
noncomputable def matchVals (x : Str) (t : Tok) (m : Sre.M) (T : Addr) : List Value := [.str x t, .ref 37, rawInt ((0 : Nat) : Int), rawInt (x.cps.size : Int), rawInt m.lastindex, .ref T]
theorem search_wp {x : Str} {t : Tok} {Q : Fin → Shared → Prop} {o o2 : Obj} {n : Nat} {b e lm : Nat} {li : Int} {marks : Array (Option Nat)} (h37 : s.heap.get? 37 = some o) (hd : o.data = .fields patVals) (h36 : s.heap.get? 36 = some o2) (hd2 : o2.data = .seq codeVals n)
    (hx : x.length ≤ 1000000) (k : Nat) (hk : k + 1 ≤ 2 ^ 64) (S : Says ((tzStart x.cps).runFor (4 * (k + 1))) b e lm li marks)
    (hw : (List.range 3).any (fun g => match marks.getD (2 * g) none, marks.getD (2 * g + 1) none with | some b, some e => decide (((2 * g + 1 : Nat) : Int) ≤ (lm : Int)) && decide (e < b) | _, _ => false) = false)
    (h : Q (.done (.ret (.ref (s.heap.objs.size + 1)))) { s with heap := (s.heap.push { cls := .type "tuple", data := .seq (rawInt (b : Int) :: rawInt (e : Int) :: spanVals ((tzStart x.cps).runFor (4 * (k + 1)))).toArray }).push { cls := .type "re.Match", data := .fields (matchVals x t ((tzStart x.cps).runFor (4 * (k + 1))) s.heap.objs.size).toArray } }) :
    wpAny M A (Builtin.«re.Pattern.search» ⟨[.ref 37, .str x t], []⟩) Q E s := by
  unfold Builtin.«re.Pattern.search»
  refine wpAny_bind (target_wp h37 hd h36 hd2 hx ?_)
  unfold reAnswer
  refine wpAny_bind (toEnd_wp (m := tzStart x.cps) k hk S.out ?_)
  dsimp only
  unfold reNewMatch
  obtain ⟨S1, S2, S3, S4, S5, S6⟩ := S
  generalize (tzStart x.cps).runFor (4 * (k + 1)) = m' at *
  refine wpAny_bind (wpAny_ite (KPc.ite_no ?_ ?_))
  · rw [S6, S4]
    intro q
    exact Bool.false_ne_true (Eq.trans (Eq.symm hw) q)
  have hl := spanVals_length m'
  refine wpAny_bind (wpAny_newObj_type ?_ (hd := ?_))
  rotate_left
  · show (rawInt (m'.start : Int) :: rawInt (m'.handed : Int) :: spanVals m').toArray.size ≤ sizeLine
    rw [List.size_toArray, List.length_cons, List.length_cons, hl]
    decide
  refine wpAny_newObj_type ?_
  refine wpAny_pure ?_
  rw [S2, S3]
  rw [← Heap.size_push s.heap { cls := .type "tuple", data := .seq (rawInt (b : Int) :: rawInt (e : Int) :: spanVals m').toArray }] at h
  exact h
end
end RX
end
section
namespace RX
open PySem.Sre PySem.Sre.M PySem.Builtin PySem.Builtin.Re
section
variable {M : Model} {A : Around} {E : Value → Shared → Prop} {s : Shared}
theorem group_wp {a T : Addr} {o o2 : Obj} {fs its : Array Value} {n : Nat} {x : Str} {t u : Tok} {g : Nat} {b e : Int} {Q : PySem.Fin → Shared → Prop} (ha : s.heap.get? a = some o) (hd : o.data = .fields fs) (hT : s.heap.get? T = some o2) (hd2 : o2.data = .seq its n)
    (f0 : fs.getD 0 .none = .str x t) (f5 : fs.getD 5 .none = .ref T) (hs : its.size = 8) (hg : g < 4) (hb : (its.map reRawOf).getD (2 * g) (-1) = b) (he : (its.map reRawOf).getD (2 * g + 1) (-1) = e) (hx : x.length ≤ 1000000)
    (h1 : b < 0 ∨ e < 0 → Q (.done (.ret .none)) s) (h2 : ¬ (b < 0 ∨ e < 0) → Q (.done (.ret (.str ⟨x.cps.extract b.toNat e.toNat⟩ s.toks))) { s with toks := s.toks + 1 }) :
    wpAny M A (Builtin.«re.Match.group» ⟨[.ref a, .int (g : Int) u], []⟩) Q E s := by
  unfold Builtin.«re.Match.group»
  refine wpAny_bind (wpAny_pure ?_)
  dsimp only
  unfold reFound fieldsOf
  refine wpAny_bind (wpAny_bind (wpAny_bind (wpAny_load ha ?_)))
  rw [hd]
  refine wpAny_pure ?_
  unfold reRawItems seqItems?
  rw [f5]
  refine wpAny_bind (wpAny_bind (wpAny_bind (wpAny_load hT ?_)))
  rw [hd2]
  refine wpAny_pure (wpAny_pure (wpAny_pure ?_))
  have hsz : (its.map reRawOf).size = 8 := by rw [Array.size_map]; exact hs
  unfold reGroupNumber
  refine wpAny_bind (wpAny_bind (wpAny_pure ?_))
  refine wpAny_ite (KPc.ite_yes rfl ?_)
  refine wpAny_bind ?_
  unfold asIndex
  refine wpAny_bind (wpAny_pure ?_)
  dsimp only
  refine wpAny_pure ?_
  refine wpAny_ite (KPc.ite_no ?_ ?_)
  · rw [show ((some its).getD #[]) = its from rfl, hsz]
    intro q
    simp only [Bool.or_eq_true, decide_eq_true_eq] at q
    omega
  refine wpAny_pure ?_
  unfold reGroupText
  rw [show ((some its).getD #[]) = its from rfl, show ((g : Int)).toNat = g from rfl]
  dsimp only
  rw [hb, he]
  by_cases c : b < 0 ∨ e < 0
  · refine wpAny_bind (wpAny_ite (KPc.ite_yes (by simpa using c) (wpAny_pure ?_)))
    exact wpAny_pure (h1 c)
  · refine wpAny_bind (wpAny_ite (KPc.ite_no (by simpa using c) ?_))
    rw [f0]
    unfold reTextOf
    refine wpAny_bind (wpAny_bind (wpAny_pure (wpAny_pure ?_)))
    unfold reSlice
    refine wpAny_ite (KPc.ite_yes rfl ?_)
    refine wpAny_mkStr (wpAny_pure (h2 c)) ?_
    have h3 : (x.cps.extract b.toNat e.toNat).size ≤ x.cps.size := by rw [Array.size_extract]; omega
    have h4 : x.cps.size ≤ 1000000 := hx
    show (x.cps.extract b.toNat e.toNat).size ≤ sizeLine
    rw [sizeLine_eq]; omega
end
end RX
end
section
namespace RX
theorem pa_pat : PlainAttrs "re.Pattern" :=
  ⟨⟨"object.__getattribute__", by rw [typeLookup_type, builtinLookup_eq_fast]; kernel_rfl, by decide +kernel⟩, by rw [typeLookup_type, builtinLookup_eq_fast]; kernel_rfl⟩
theorem pa_mat : PlainAttrs "re.Match" :=
  ⟨⟨"object.__getattribute__", by rw [typeLookup_type, builtinLookup_eq_fast]; kernel_rfl, by decide +kernel⟩, by rw [typeLookup_type, builtinLookup_eq_fast]; kernel_rfl⟩
theorem slot_search : Slot "re.Pattern" "search" "re.Pattern.search" :=
  .of (owner := "re.Pattern") (n := "search") (by rw [typeLookup_type, builtinLookup_eq_fast]; kernel_rfl) (by decide +kernel) (by decide +kernel) (by decide +kernel)
    (by first | exact .inl (by decide +kernel) | exact .inr (by decide +kernel)) (by rw [isSubtype_type]; kernel_rfl)
theorem slot_group : Slot "re.Match" "group" "re.Match.group" :=
  .of (owner := "re.Match") (n := "group") (by rw [typeLookup_type, builtinLookup_eq_fast]; kernel_rfl) (by decide +kernel) (by decide +kernel) (by decide +kernel)
    (by first | exact .inl (by decide +kernel) | exact .inr (by decide +kernel)) (by rw [isSubtype_type]; kernel_rfl)
theorem type_search : typeOf (.builtin "re.Pattern.search") = pure (.type "method_descriptor") := by show builtinType _ = _; rw [builtinType_eq_fast]; kernel_rfl
theorem type_group : typeOf (.builtin "re.Match.group") = pure (.type "method_descriptor") := by show builtinType _ = _; rw [builtinType_eq_fast]; kernel_rfl
theorem entry_search : entryFor table "re.Pattern.search" = some Builtin.«re.Pattern.search» := entryFor_of_tree (by kernel_rfl)
theorem entry_group : entryFor table "re.Match.group" = some Builtin.«re.Match.group» := entryFor_of_tree (by kernel_rfl)
theorem args_search (a b : Value) : argsOk "re.Pattern.search" ⟨[a, b], []⟩ := by
  unfold argsOk; kernel_rfl
theorem args_group (a b : Value) : argsOk "re.Match.group" ⟨[a, b], []⟩ := by
  unfold argsOk; kernel_rfl
theorem bool_mat : typeLookup (.type "re.Match") "__bool__" = pure none := by rw [typeLookup_type, builtinLookup_eq_fast]; kernel_rfl
theorem len_mat : typeLookup (.type "re.Match") "__len__" = pure none := by rw [typeLookup_type, builtinLookup_eq_fast]; kernel_rfl
end RX
end
section
namespace RX
open PySem.Builtin.Re
noncomputable def spansOf (lm : Nat) (marks : Array (Option Nat)) : List Value := (List.range 3).flatMap fun g =>
    match if ((2 * g + 1 : Nat) : Int) ≤ (lm : Int) then (marks.getD (2 * g) none, marks.getD (2 * g + 1) none) else (none, none) with
    | (some b, some e) => [rawInt b, rawInt e]
    | _ => [rawInt (-1), rawInt (-1)]
theorem spans_says {m : Sre.M} {b e lm : Nat} {li : Int} {marks : Array (Option Nat)} (S : Says m b e lm li marks) : spanVals m = spansOf lm marks := by
  obtain ⟨S1, S2, S3, S4, S5, S6⟩ := S
  unfold spanVals spansOf
  rw [S4, S6]
  try rfl
noncomputable abbrev tupOf (l : List Value) : Obj := { cls := .type "tuple", data := .seq l.toArray }
noncomputable abbrev matOf (x : Str) (t : Tok) (li : Int) (T : Addr) : Obj := { cls := .type "re.Match", data := .fields [.str x t, .ref 37, rawInt ((0 : Nat) : Int), rawInt (x.cps.size : Int), rawInt li, .ref T].toArray }
section
variable {w : World} {A : Around} {E : Value → Shared → Prop} {s : Shared} {h₀ : Heap} {L a T : Addr} {m : Str → Option Value} {news : List (Addr × Obj)}
theorem look37 (w : World) : (hd.heap_39 w.params).lookup 37 = some ⟨.type "re.Pattern", none, .fields patVals, #[]⟩ := by with_unfolding_all rfl
theorem look36 (w : World) : (hd.heap_39 w.params).lookup 36 = some ⟨.type "tuple", none, .seq codeVals 0, #[]⟩ := by with_unfolding_all rfl
theorem meth_search {M : Model} {pl : Sem Bool} {Q : Value × List Value → Shared → Prop} (F : Fr h₀ L s.heap m) (X₀ : (hd.heap_39 w.params).In h₀) (h : Q (.builtin "re.Pattern.search", [.ref 37]) s) :
    wpAny M A (getMethod (.ref 37) "search" pl) Q E s := by
  have X := X₀.keeps F.keep
  have hg := X _ _ (look37 w)
  exact getMethod_builtin (T := "re.Pattern") ⟨_, hg, rfl⟩ pa_pat slot_search type_search (fun a e => by cases e; exact ⟨_, hg, rfl⟩) h
theorem meth_group {M : Model} {pl : Sem Bool} {Q : Value × List Value → Shared → Prop} {x : Str} {t : Tok} {li : Int} (N : News h₀ L s.heap news) (ha : (a, matOf x t li T) ∈ news) (h : Q (.builtin "re.Match.group", [.ref a]) s) :
    wpAny M A (getMethod (.ref a) "group" pl) Q E s := by
  have hg := (N _ ha).1
  exact getMethod_builtin (T := "re.Match") ⟨_, hg, rfl⟩ pa_mat slot_group type_group (fun b e => by cases e; exact ⟨_, hg, rfl⟩) h
theorem truthy_mat {M : Model} {Q : Bool → Shared → Prop} {x : Str} {t : Tok} {li : Int} (N : News h₀ L s.heap news) (ha : (a, matOf x t li T) ∈ news) (h : Q true s) : wpAny M A (truthy (.ref a)) Q E s := by
  have hT : s.TypeIs (.ref a) "re.Match" := ⟨_, (N _ ha).1, rfl⟩
  unfold truthy
  refine wpAny_bind (wpAny_callSpecial?_none hT bool_mat ?_)
  refine wpAny_bind (wpAny_specialOf hT len_mat ?_)
  exact wpAny_pure h
theorem call_search {prog : Program} {Q : Value → Shared → Prop} {x : Str} {t : Tok} {b e lm : Nat} {li : Int} {marks : Array (Option Nat)} (F : Fr h₀ L s.heap m) (X₀ : (hd.heap_39 w.params).In h₀) (N : News h₀ L s.heap news)
    (hx : x.length ≤ 1000000) (S : Says ((tzStart x.cps).runFor 40) b e lm li marks)
    (hw : (List.range 3).any (fun g => match marks.getD (2 * g) none, marks.getD (2 * g + 1) none with | some b, some e => decide (((2 * g + 1 : Nat) : Int) ≤ (lm : Int)) && decide (e < b) | _, _ => false) = false)
    (h : ∀ a T h', Fr h₀ L h' m → News h₀ L h' ((a, matOf x t li T) :: (T, tupOf (rawInt (b : Int) :: rawInt (e : Int) :: spansOf lm marks)) :: news) → Q (.ref a) { s with heap := h' }) :
    wpAny (model prog w) A (call (.builtin "re.Pattern.search") [.ref 37, .str x t]) Q E s := by
  have X := X₀.keeps F.keep
  have hT : s.TypeIs (.ref 37) "re.Pattern" := ⟨_, X _ _ (look37 w), rfl⟩
  refine wpAny_call_entry slot_search hT entry_search ?_ (args_search _ _)
  refine search_wp (X _ _ (look37 w)) rfl (X _ _ (look36 w)) rfl hx 9 (by decide) S hw ?_
  have hl := S.lastindex
  rw [spans_says S]
  refine ⟨_, rfl, ?_⟩
  have F1 := F.push (tupOf (rawInt (b : Int) :: rawInt (e : Int) :: spansOf lm marks))
  have N1 := News.push F N (tupOf (rawInt (b : Int) :: rawInt (e : Int) :: spansOf lm marks))
  have F2 := F1.push (matOf x t li s.heap.objs.size)
  have N2 := News.push F1 N1 (matOf x t li s.heap.objs.size)
  rw [Heap.size_push] at N2
  have := h _ _ _ F2 N2
  rw [← hl] at this
  exact this
end
end RX
end
section
namespace RX
open PySem.Builtin.Re
noncomputable def utcKey (x : Str) : Bool := x == "GMT" || x == "UTC" || x == "UT" || x == "Z"
noncomputable def utcEs (P : Params) : Array DictEntry := #[{ hash := PyData.keyHash P (Str.ofString "GMT"), key := .str (Str.ofString "GMT") 284, val := .none }, { hash := PyData.keyHash P (Str.ofString "UTC"), key := .str (Str.ofString "UTC") 285, val := .none },
  { hash := PyData.keyHash P (Str.ofString "UT"), key := .str (Str.ofString "UT") 286, val := .none }, { hash := PyData.keyHash P (Str.ofString "Z"), key := .str (Str.ofString "Z") 287, val := .none }]
theorem utc_find (P : Params) (x : Str) : (findBy Value.isStrOf (utcEs P) x).isSome = utcKey x := by
  unfold findBy utcEs utcKey
  rw [List.find?_toArray, Option.isSome_map]
  simp only [List.find?_cons, List.find?_nil]
  have e : ∀ (y : Str) (t : Tok), Value.isStrOf x (.str y t) = (x == y) := fun y t => by
    show (_ : Bool) = _
    first | rfl | (unfold Value.isStrOf; rw [Bool.beq_comm]) | (simp [Value.isStrOf, Bool.beq_comm])
  rw [e, e, e, e]
  cases x == ("GMT" : Str) <;> cases x == ("UTC" : Str) <;> cases x == ("UT" : Str) <;> cases x == ("Z" : Str) <;> rfl
theorem look32 (w : World) : (hd.heap_39 w.params).lookup 32 = some ⟨.type "dict", none, .dict (utcEs w.params) 4, #[]⟩ := by with_unfolding_all rfl
section
variable {w : World} {A : Around} {E : Value → Shared → Prop} {s : Shared} {h₀ : Heap} {L a T : Addr} {m : Str → Option Value} {news : List (Addr × Obj)}
theorem call_group {prog : Program} {Q : Value → Shared → Prop} {x : Str} {t u : Tok} {li : Int} {g : Nat} {b e : Int} {its : List Value} (N : News h₀ L s.heap news) (ha : (a, matOf x t li T) ∈ news) (hT : (T, tupOf its) ∈ news)
    (hs : its.length = 8) (hg : g < 4) (hb : (its.toArray.map reRawOf).getD (2 * g) (-1) = b) (he : (its.toArray.map reRawOf).getD (2 * g + 1) (-1) = e) (hx : x.length ≤ 1000000)
    (h1 : b < 0 ∨ e < 0 → Q .none s) (h2 : ¬ (b < 0 ∨ e < 0) → Q (.str ⟨x.cps.extract b.toNat e.toNat⟩ s.toks) { s with toks := s.toks + 1 }) :
    wpAny (model prog w) A (call (.builtin "re.Match.group") [.ref a, .int (g : Int) u]) Q E s := by
  have h0 := (N _ ha).1
  have hT' : s.TypeIs (.ref a) "re.Match" := ⟨_, h0, rfl⟩
  refine wpAny_call_entry slot_group hT' entry_group ?_ (args_group _ _)
  exact group_wp h0 rfl (N _ hT).1 rfl rfl rfl (by rw [List.size_toArray]; exact hs) hg hb he hx (fun c => ⟨_, rfl, h1 c⟩) (fun c => ⟨_, rfl, h2 c⟩)
theorem call_searchS {prog : Program} {Q : Value → Shared → Prop} {x : Str} {t : Tok} {b e lm : Nat} {li : Int} {marks : Array (Option Nat)} {its : List Value} (F : Fr h₀ L s.heap m) (X₀ : (hd.heap_39 w.params).In h₀) (N : News h₀ L s.heap news)
    (hx : x.length ≤ 1000000) (S : Says ((tzStart x.cps).runFor 40) b e lm li marks)
    (hw : (List.range 3).any (fun g => match marks.getD (2 * g) none, marks.getD (2 * g + 1) none with | some b, some e => decide (((2 * g + 1 : Nat) : Int) ≤ (lm : Int)) && decide (e < b) | _, _ => false) = false)
    (hsp : spansOf lm marks = its)
    (h : ∀ a T h', Fr h₀ L h' m → News h₀ L h' ((a, matOf x t li T) :: (T, tupOf (rawInt (b : Int) :: rawInt (e : Int) :: its)) :: news) → Q (.ref a) { s with heap := h' }) :
    wpAny (model prog w) A (call (.builtin "re.Pattern.search") [.ref 37, .str x t]) Q E s := by
  subst hsp
  exact call_search F X₀ N hx S hw h
theorem call_group1 {prog : Program} {Q : Value → Shared → Prop} {x : Str} {t u : Tok} {li z0 z1 a1 b1 a2 b2 a3 b3 : Int} (N : News h₀ L s.heap news) (ha : (a, matOf x t li T) ∈ news) (hT : (T, tupOf [rawInt z0, rawInt z1, rawInt a1, rawInt b1, rawInt a2, rawInt b2, rawInt a3, rawInt b3]) ∈ news)
    (hx : x.length ≤ 1000000) (h1 : a1 < 0 ∨ b1 < 0 → Q .none s) (h2 : ¬ (a1 < 0 ∨ b1 < 0) → Q (.str ⟨x.cps.extract a1.toNat b1.toNat⟩ s.toks) { s with toks := s.toks + 1 }) :
    wpAny (model prog w) A (call (.builtin "re.Match.group") [.ref a, .int 1 u]) Q E s :=
  call_group (g := 1) (b := a1) (e := b1) N ha hT rfl (by decide) (by simp [reRawOf, rawInt]) (by simp [reRawOf, rawInt]) hx h1 h2
theorem call_group2 {prog : Program} {Q : Value → Shared → Prop} {x : Str} {t u : Tok} {li z0 z1 a1 b1 a2 b2 a3 b3 : Int} (N : News h₀ L s.heap news) (ha : (a, matOf x t li T) ∈ news) (hT : (T, tupOf [rawInt z0, rawInt z1, rawInt a1, rawInt b1, rawInt a2, rawInt b2, rawInt a3, rawInt b3]) ∈ news)
    (hx : x.length ≤ 1000000) (h1 : a2 < 0 ∨ b2 < 0 → Q .none s) (h2 : ¬ (a2 < 0 ∨ b2 < 0) → Q (.str ⟨x.cps.extract a2.toNat b2.toNat⟩ s.toks) { s with toks := s.toks + 1 }) :
    wpAny (model prog w) A (call (.builtin "re.Match.group") [.ref a, .int 2 u]) Q E s :=
  call_group (g := 2) (b := a2) (e := b2) N ha hT rfl (by decide) (by simp [reRawOf, rawInt]) (by simp [reRawOf, rawInt]) hx h1 h2
theorem call_group3 {prog : Program} {Q : Value → Shared → Prop} {x : Str} {t u : Tok} {li z0 z1 a1 b1 a2 b2 a3 b3 : Int} (N : News h₀ L s.heap news) (ha : (a, matOf x t li T) ∈ news) (hT : (T, tupOf [rawInt z0, rawInt z1, rawInt a1, rawInt b1, rawInt a2, rawInt b2, rawInt a3, rawInt b3]) ∈ news)
    (hx : x.length ≤ 1000000) (h1 : a3 < 0 ∨ b3 < 0 → Q .none s) (h2 : ¬ (a3 < 0 ∨ b3 < 0) → Q (.str ⟨x.cps.extract a3.toNat b3.toNat⟩ s.toks) { s with toks := s.toks + 1 }) :
    wpAny (model prog w) A (call (.builtin "re.Match.group") [.ref a, .int 3 u]) Q E s :=
  call_group (g := 3) (b := a3) (e := b3) N ha hT rfl (by decide) (by simp [reRawOf, rawInt]) (by simp [reRawOf, rawInt]) hx h1 h2
theorem in_utc {prog : Program} {Q : Value → Shared → Prop} {x : Str} {t : Tok} (F : Fr h₀ L s.heap m) (X₀ : (hd.heap_39 w.params).In h₀) (h : Q (.bool (utcKey x)) { s with toks := s.toks + 1 }) :
    wpAny (model prog w) A (compareOp .In (.str x t) (.ref 32)) Q E s := by
  refine wpAny_in_of (strKind_is prog w x t) (by decide) (mapOf_K (prog := prog) (X₀.keeps F.keep) (look32 w) ⟨⟨_, _, rfl, rfl⟩, ⟨_, _, rfl, rfl⟩, ⟨_, _, rfl, rfl⟩, ⟨_, _, rfl, rfl⟩, trivial⟩) ?_
  rw [utc_find]
  exact h
end
end RX
end
section
local macro_rules | `(tactic| walk_at "getMethod ref") => `(tactic| (k_dflt (first | (refine' RX.meth_search (by k_asm) (by k_asm) ?_) | (refine' RX.meth_group (by k_asm) (by k_mem) ?_))))
local macro_rules | `(tactic| walk_at "call builtin:re.Pattern.search") => `(tactic| (k_dflt (refine' RX.call_searchS (by k_asm) (by k_asm) (by k_asm) (by assumption) (by assumption) (by assumption) (by assumption) ?_); intro a9 T9 h9 F9 N9; (try dsimp only)))
local macro_rules | `(tactic| walk_at "truthy ref") => `(tactic| (k_dflt (refine' RX.truthy_mat (by k_asm) (by k_mem) ?_)))
local macro_rules | `(tactic| walk_at "compareOp In str ref") => `(tactic| (k_dflt (refine' RX.in_utc (by k_asm) (by k_asm) ?_)))
theorem utc_spec (w : World) (x : Str) (t : Tok) (hx : RX.utcKey x = true) : Spec w 44 [.str x t] 1 8 (fun _ => True) (fun _ v _ => ∃ t, v = .int 0 t) := by
  intro p loose mean mg mb dp un gd cn cs a ccd cl outer A₀ base h₀ L m' s Q E B F X T hk hP hd hu hret
  walk_at "P enter"
  walk_at "P steps"
  exact hret _ _ _ (Fr.keep (by k_asm)) ⟨_, rfl⟩
local macro_rules | `(tactic| walk_at "call builtin:re.Match.group") => `(tactic| ((k_dflt (first | (refine' RX.call_group1 (by k_asm) (by k_mem) (by k_mem) (by assumption) ?_ ?_) | (refine' RX.call_group2 (by k_asm) (by k_mem) (by k_mem) (by assumption) ?_ ?_) | (refine' RX.call_group3 (by k_asm) (by k_mem) (by k_mem) (by assumption) ?_ ?_))) <;> intro _ <;> first | (exfalso; omega) | skip))
theorem int_eq {x y : Int} {t : Tok} (h : x = y) : ∃ t', Value.int x t = Value.int y t' := ⟨t, by rw [h]⟩
theorem tz_spec (w : World) (x : Str) (t : Tok) (hk0 : RX.utcKey x = false) (hx : x.length ≤ 1000000) {b e lm : Nat} {li : Int} {marks : Array (Option Nat)} (S : RX.Says ((RX.tzStart x.cps).runFor 40) b e lm li marks)
    (hw : (List.range 3).any (fun g => match marks.getD (2 * g) none, marks.getD (2 * g + 1) none with | some b, some e => decide (((2 * g + 1 : Nat) : Int) ≤ (lm : Int)) && decide (e < b) | _, _ => false) = false)
    (a1 b1 a2 b2 a3 b3 : Int) (hspans : RX.spansOf lm marks = [rawInt a1, rawInt b1, rawInt a2, rawInt b2, rawInt a3, rawInt b3]) (H R r3 : Int) (sgn : Bool)
    (h2 : ¬ (a2 < 0 ∨ b2 < 0)) (hH : PySem.intText? ⟨x.cps.extract a2.toNat b2.toNat⟩ = some H) (lH : (⟨x.cps.extract a2.toNat b2.toNat⟩ : Str).length ≤ 640) (H0 : 0 ≤ H) (H1 : H < 100)
    (hR : ¬ (a3 < 0 ∨ b3 < 0) → (⟨x.cps.extract a3.toNat b3.toNat⟩ : Str).length ≠ 0 ∧ (⟨x.cps.extract a3.toNat b3.toNat⟩ : Str).length ≤ 640 ∧ PySem.intText? ⟨x.cps.extract a3.toNat b3.toNat⟩ = some R) (R0 : 0 ≤ R) (R1 : R < 100)
    (hs1 : (a1 < 0 ∨ b1 < 0) → sgn = false) (hs2 : ¬ (a1 < 0 ∨ b1 < 0) → sgn = (⟨x.cps.extract a1.toNat b1.toNat⟩ == ("-" : Str))) (hr1 : (a3 < 0 ∨ b3 < 0) → r3 = 0) (hr2 : ¬ (a3 < 0 ∨ b3 < 0) → r3 = 60 * R) :
    Spec w 44 [.str x t] 1 8 (fun _ => True) (fun _ v _ => ∃ t, v = .int (if sgn = true then -(3600 * H + r3) else 3600 * H + r3) t) := by
  intro p loose mean mg mb dp un gd cn cs a ccd cl outer A₀ base h₀ L m' s Q E B F X T hk hP hd hu hret
  by_cases c3 : a3 < 0 ∨ b3 < 0
  · replace hr1 := hr1 c3
    clear hR hr2
    walk_at "P enter"
    walk_at "P steps"
    all_goals (
      refine hret _ _ _ (Fr.keep (by k_asm)) (int_eq ?_)
      first
        | (rw [hr1, hs1 (by assumption)]; simp; done)
        | (rename (((_ : Str) == _) = _) => hb9; rw [hr1, hs2 (by assumption), hb9]; simp; done))
  · obtain ⟨q1, q2, q3⟩ := hR c3
    replace hr2 := hr2 c3
    clear hR hr1
    walk_at "P enter"
    walk_at "P steps"
    all_goals first
      | (exfalso; omega)
      | (refine hret _ _ _ (Fr.keep (by k_asm)) (int_eq ?_)
         first
           | (rw [hr2, hs1 (by assumption)]; simp; done)
           | (rename (((_ : Str) == _) = _) => hb9; rw [hr2, hs2 (by assumption), hb9]; simp; done))
end
section
theorem cls_dig {a : Nat} (h : a < 10) : RX.cls (48 + a) = 48 := by
  unfold RX.cls PySem.Sre.isDigit
  rw [if_pos]
  simp only [Bool.and_eq_true, decide_eq_true_eq]
  omega
theorem cls_p : RX.cls 43 = 43 := by decide
theorem cls_m : RX.cls 45 = 45 := by decide
theorem cls_c : RX.cls 58 = 58 := by decide
theorem int2_fin : ∀ a < 10, ∀ b < 10, PySem.intText? ⟨#[48 + a, 48 + b]⟩ = some (Int.ofNat (10 * a + b)) := by decide +kernel
theorem int1_fin : ∀ a < 10, PySem.intText? ⟨#[48 + a]⟩ = some (Int.ofNat a) := by decide +kernel
theorem ne_key {l l' : List Nat} (h : l ≠ l') : ((⟨l.toArray⟩ : Str) == ⟨l'.toArray⟩) = false := by
  rw [beq_eq_false_iff_ne]
  intro e
  exact h (congrArg (fun z : Str => z.cps.toList) e)
theorem key_of (l : List Nat) (h1 : l ≠ [71, 77, 84]) (h2 : l ≠ [85, 84, 67]) (h3 : l ≠ [85, 84]) (h4 : l ≠ [90]) : RX.utcKey ⟨l.toArray⟩ = false := by
  have e1 : ("GMT" : Str) = ⟨[71, 77, 84].toArray⟩ := by decide +kernel
  have e2 : ("UTC" : Str) = ⟨[85, 84, 67].toArray⟩ := by decide +kernel
  have e3 : ("UT" : Str) = ⟨[85, 84].toArray⟩ := by decide +kernel
  have e4 : ("Z" : Str) = ⟨[90].toArray⟩ := by decide +kernel
  unfold RX.utcKey
  rw [e1, e2, e3, e4, ne_key h1, ne_key h2, ne_key h3, ne_key h4]
  rfl
theorem says_mk {t t' : Array Nat} (hc : t.map RX.cls = t') {e lm : Nat} {li : Int} {marks : List (Option Nat)} (h : RX.sayB t' 40 0 e lm li marks = true) : RX.Says ((RX.tzStart t).runFor 40) 0 e lm li marks.toArray := by
  subst hc
  unfold RX.sayB at h
  simp only [Bool.and_eq_true, beq_iff_eq] at h
  obtain ⟨⟨⟨⟨⟨⟨h0, h1⟩, h2⟩, h3⟩, h4⟩, h5⟩, h6⟩ := h
  exact (RX.says_of h0 ⟨h1, h2, h3, h4, h5, by rw [← h6]⟩).1

theorem say_pA : RX.sayB #[43, 48, 48, 58, 48, 48] 40 0 6 5 3 [some 0, some 1, some 1, some 3, some 4, some 6] = true := by decide +kernel
theorem sh_pA (w : World) (t : Tok) {a b c d : Nat} (ha : a < 10) (hb : b < 10) (hc : c < 10) (hd : d < 10) : Spec w 44 [.str ⟨#[43, 48 + a, 48 + b, 58, 48 + c, 48 + d]⟩ t] 1 8 (fun _ => True) (fun _ v _ => ∃ t, v = .int ((3600 * (((10 * a + b) : Nat) : Int) + 60 * (((10 * c + d) : Nat) : Int))) t) := by
  have hcls : (#[43, 48 + a, 48 + b, 58, 48 + c, 48 + d] : Array Nat).map RX.cls = #[43, 48, 48, 58, 48, 48] := by
    simp only [List.map_toArray, List.map_cons, List.map_nil, cls_dig ha, cls_dig hb, cls_dig hc, cls_dig hd,  cls_p, cls_m, cls_c]
  have S := says_mk hcls say_pA
  have q := tz_spec w ⟨#[43, 48 + a, 48 + b, 58, 48 + c, 48 + d]⟩ t ?k0 (by simp [Str.length]) S (by decide) (0) (1) (1) (3) (4) (6) (by decide) (((10 * a + b) : Nat) : Int) (((10 * c + d) : Nat) : Int) (60 * (((10 * c + d) : Nat) : Int)) false
    (by decide) (int2_fin _ ha _ hb) (show _ ≤ 640 by simp [Str.length]) (by omega) (by omega) (fun _ => ⟨by simp [Str.length], by simp [Str.length], int2_fin _ hc _ hd⟩) (by omega) (by omega) (fun c => absurd c (by decide)) (fun _ => by rfl) (fun c => absurd c (by decide)) (fun _ => rfl)
  · simpa using q
  · refine key_of [43, 48 + a, 48 + b, 58, 48 + c, 48 + d] ?_ ?_ ?_ ?_ <;> exact fun e => absurd (List.cons.inj e).1 (by omega)
theorem say_pB : RX.sayB #[43, 48, 48, 48, 48] 40 0 5 5 3 [some 0, some 1, some 1, some 3, some 3, some 5] = true := by decide +kernel
theorem sh_pB (w : World) (t : Tok) {a b c d : Nat} (ha : a < 10) (hb : b < 10) (hc : c < 10) (hd : d < 10) : Spec w 44 [.str ⟨#[43, 48 + a, 48 + b, 48 + c, 48 + d]⟩ t] 1 8 (fun _ => True) (fun _ v _ => ∃ t, v = .int ((3600 * (((10 * a + b) : Nat) : Int) + 60 * (((10 * c + d) : Nat) : Int))) t) := by
  have hcls : (#[43, 48 + a, 48 + b, 48 + c, 48 + d] : Array Nat).map RX.cls = #[43, 48, 48, 48, 48] := by
    simp only [List.map_toArray, List.map_cons, List.map_nil, cls_dig ha, cls_dig hb, cls_dig hc, cls_dig hd,  cls_p, cls_m, cls_c]
  have S := says_mk hcls say_pB
  have q := tz_spec w ⟨#[43, 48 + a, 48 + b, 48 + c, 48 + d]⟩ t ?k0 (by simp [Str.length]) S (by decide) (0) (1) (1) (3) (3) (5) (by decide) (((10 * a + b) : Nat) : Int) (((10 * c + d) : Nat) : Int) (60 * (((10 * c + d) : Nat) : Int)) false
    (by decide) (int2_fin _ ha _ hb) (show _ ≤ 640 by simp [Str.length]) (by omega) (by omega) (fun _ => ⟨by simp [Str.length], by simp [Str.length], int2_fin _ hc _ hd⟩) (by omega) (by omega) (fun c => absurd c (by decide)) (fun _ => by rfl) (fun c => absurd c (by decide)) (fun _ => rfl)
  · simpa using q
  · refine key_of [43, 48 + a, 48 + b, 48 + c, 48 + d] ?_ ?_ ?_ ?_ <;> exact fun e => absurd (List.cons.inj e).1 (by omega)
theorem say_pC : RX.sayB #[43, 48] 40 0 2 3 2 [some 0, some 1, some 1, some 2, some 2, none] = true := by decide +kernel
theorem sh_pC (w : World) (t : Tok) {a : Nat} (ha : a < 10) : Spec w 44 [.str ⟨#[43, 48 + a]⟩ t] 1 8 (fun _ => True) (fun _ v _ => ∃ t, v = .int ((3600 * ((a : Nat) : Int) + 60 * ((0 : Nat) : Int))) t) := by
  have hcls : (#[43, 48 + a] : Array Nat).map RX.cls = #[43, 48] := by
    simp only [List.map_toArray, List.map_cons, List.map_nil, cls_dig ha,  cls_p, cls_m, cls_c]
  have S := says_mk hcls say_pC
  have q := tz_spec w ⟨#[43, 48 + a]⟩ t ?k0 (by simp [Str.length]) S (by decide) (0) (1) (1) (2) (-1) (-1) (by decide) ((a : Nat) : Int) ((0 : Nat) : Int) (60 * ((0 : Nat) : Int)) false
    (by decide) (int1_fin _ ha) (show _ ≤ 640 by simp [Str.length]) (by omega) (by omega) (fun c => absurd (.inl (by decide)) c) (by omega) (by omega) (fun c => absurd c (by decide)) (fun _ => by rfl) (fun _ => by simp) (fun _ => rfl)
  · simpa using q
  · refine key_of [43, 48 + a] ?_ ?_ ?_ ?_ <;> exact fun e => absurd (List.cons.inj e).1 (by omega)
theorem say_pD : RX.sayB #[43, 48, 48] 40 0 3 3 2 [some 0, some 1, some 1, some 3, some 3, none] = true := by decide +kernel
theorem sh_pD (w : World) (t : Tok) {a b : Nat} (ha : a < 10) (hb : b < 10) : Spec w 44 [.str ⟨#[43, 48 + a, 48 + b]⟩ t] 1 8 (fun _ => True) (fun _ v _ => ∃ t, v = .int ((3600 * (((10 * a + b) : Nat) : Int) + 60 * ((0 : Nat) : Int))) t) := by
  have hcls : (#[43, 48 + a, 48 + b] : Array Nat).map RX.cls = #[43, 48, 48] := by
    simp only [List.map_toArray, List.map_cons, List.map_nil, cls_dig ha, cls_dig hb,  cls_p, cls_m, cls_c]
  have S := says_mk hcls say_pD
  have q := tz_spec w ⟨#[43, 48 + a, 48 + b]⟩ t ?k0 (by simp [Str.length]) S (by decide) (0) (1) (1) (3) (-1) (-1) (by decide) (((10 * a + b) : Nat) : Int) ((0 : Nat) : Int) (60 * ((0 : Nat) : Int)) false
    (by decide) (int2_fin _ ha _ hb) (show _ ≤ 640 by simp [Str.length]) (by omega) (by omega) (fun c => absurd (.inl (by decide)) c) (by omega) (by omega) (fun c => absurd c (by decide)) (fun _ => by rfl) (fun _ => by simp) (fun _ => rfl)
  · simpa using q
  · refine key_of [43, 48 + a, 48 + b] ?_ ?_ ?_ ?_ <;> exact fun e => absurd (List.cons.inj e).1 (by omega)
theorem say_pE : RX.sayB #[43, 48, 58, 48, 48] 40 0 5 5 3 [some 0, some 1, some 1, some 2, some 3, some 5] = true := by decide +kernel
theorem sh_pE (w : World) (t : Tok) {a b c : Nat} (ha : a < 10) (hb : b < 10) (hc : c < 10) : Spec w 44 [.str ⟨#[43, 48 + a, 58, 48 + b, 48 + c]⟩ t] 1 8 (fun _ => True) (fun _ v _ => ∃ t, v = .int ((3600 * ((a : Nat) : Int) + 60 * (((10 * b + c) : Nat) : Int))) t) := by
  have hcls : (#[43, 48 + a, 58, 48 + b, 48 + c] : Array Nat).map RX.cls = #[43, 48, 58, 48, 48] := by
    simp only [List.map_toArray, List.map_cons, List.map_nil, cls_dig ha, cls_dig hb, cls_dig hc,  cls_p, cls_m, cls_c]
  have S := says_mk hcls say_pE
  have q := tz_spec w ⟨#[43, 48 + a, 58, 48 + b, 48 + c]⟩ t ?k0 (by simp [Str.length]) S (by decide) (0) (1) (1) (2) (3) (5) (by decide) ((a : Nat) : Int) (((10 * b + c) : Nat) : Int) (60 * (((10 * b + c) : Nat) : Int)) false
    (by decide) (int1_fin _ ha) (show _ ≤ 640 by simp [Str.length]) (by omega) (by omega) (fun _ => ⟨by simp [Str.length], by simp [Str.length], int2_fin _ hb _ hc⟩) (by omega) (by omega) (fun c => absurd c (by decide)) (fun _ => by rfl) (fun c => absurd c (by decide)) (fun _ => rfl)
  · simpa using q
  · refine key_of [43, 48 + a, 58, 48 + b, 48 + c] ?_ ?_ ?_ ?_ <;> exact fun e => absurd (List.cons.inj e).1 (by omega)
theorem say_mA : RX.sayB #[45, 48, 48, 58, 48, 48] 40 0 6 5 3 [some 0, some 1, some 1, some 3, some 4, some 6] = true := by decide +kernel
theorem sh_mA (w : World) (t : Tok) {a b c d : Nat} (ha : a < 10) (hb : b < 10) (hc : c < 10) (hd : d < 10) : Spec w 44 [.str ⟨#[45, 48 + a, 48 + b, 58, 48 + c, 48 + d]⟩ t] 1 8 (fun _ => True) (fun _ v _ => ∃ t, v = .int (-(3600 * (((10 * a + b) : Nat) : Int) + 60 * (((10 * c + d) : Nat) : Int))) t) := by
  have hcls : (#[45, 48 + a, 48 + b, 58, 48 + c, 48 + d] : Array Nat).map RX.cls = #[45, 48, 48, 58, 48, 48] := by
    simp only [List.map_toArray, List.map_cons, List.map_nil, cls_dig ha, cls_dig hb, cls_dig hc, cls_dig hd,  cls_p, cls_m, cls_c]
  have S := says_mk hcls say_mA
  have q := tz_spec w ⟨#[45, 48 + a, 48 + b, 58, 48 + c, 48 + d]⟩ t ?k0 (by simp [Str.length]) S (by decide) (0) (1) (1) (3) (4) (6) (by decide) (((10 * a + b) : Nat) : Int) (((10 * c + d) : Nat) : Int) (60 * (((10 * c + d) : Nat) : Int)) true
    (by decide) (int2_fin _ ha _ hb) (show _ ≤ 640 by simp [Str.length]) (by omega) (by omega) (fun _ => ⟨by simp [Str.length], by simp [Str.length], int2_fin _ hc _ hd⟩) (by omega) (by omega) (fun c => absurd c (by decide)) (fun _ => by rfl) (fun c => absurd c (by decide)) (fun _ => rfl)
  · simpa using q
  · refine key_of [45, 48 + a, 48 + b, 58, 48 + c, 48 + d] ?_ ?_ ?_ ?_ <;> exact fun e => absurd (List.cons.inj e).1 (by omega)
theorem say_mB : RX.sayB #[45, 48, 48, 48, 48] 40 0 5 5 3 [some 0, some 1, some 1, some 3, some 3, some 5] = true := by decide +kernel
theorem sh_mB (w : World) (t : Tok) {a b c d : Nat} (ha : a < 10) (hb : b < 10) (hc : c < 10) (hd : d < 10) : Spec w 44 [.str ⟨#[45, 48 + a, 48 + b, 48 + c, 48 + d]⟩ t] 1 8 (fun _ => True) (fun _ v _ => ∃ t, v = .int (-(3600 * (((10 * a + b) : Nat) : Int) + 60 * (((10 * c + d) : Nat) : Int))) t) := by
  have hcls : (#[45, 48 + a, 48 + b, 48 + c, 48 + d] : Array Nat).map RX.cls = #[45, 48, 48, 48, 48] := by
    simp only [List.map_toArray, List.map_cons, List.map_nil, cls_dig ha, cls_dig hb, cls_dig hc, cls_dig hd,  cls_p, cls_m, cls_c]
  have S := says_mk hcls say_mB
  have q := tz_spec w ⟨#[45, 48 + a, 48 + b, 48 + c, 48 + d]⟩ t ?k0 (by simp [Str.length]) S (by decide) (0) (1) (1) (3) (3) (5) (by decide) (((10 * a + b) : Nat) : Int) (((10 * c + d) : Nat) : Int) (60 * (((10 * c + d) : Nat) : Int)) true
    (by decide) (int2_fin _ ha _ hb) (show _ ≤ 640 by simp [Str.length]) (by omega) (by omega) (fun _ => ⟨by simp [Str.length], by simp [Str.length], int2_fin _ hc _ hd⟩) (by omega) (by omega) (fun c => absurd c (by decide)) (fun _ => by rfl) (fun c => absurd c (by decide)) (fun _ => rfl)
  · simpa using q
  · refine key_of [45, 48 + a, 48 + b, 48 + c, 48 + d] ?_ ?_ ?_ ?_ <;> exact fun e => absurd (List.cons.inj e).1 (by omega)
theorem say_mC : RX.sayB #[45, 48] 40 0 2 3 2 [some 0, some 1, some 1, some 2, some 2, none] = true := by decide +kernel
theorem sh_mC (w : World) (t : Tok) {a : Nat} (ha : a < 10) : Spec w 44 [.str ⟨#[45, 48 + a]⟩ t] 1 8 (fun _ => True) (fun _ v _ => ∃ t, v = .int (-(3600 * ((a : Nat) : Int) + 60 * ((0 : Nat) : Int))) t) := by
  have hcls : (#[45, 48 + a] : Array Nat).map RX.cls = #[45, 48] := by
    simp only [List.map_toArray, List.map_cons, List.map_nil, cls_dig ha,  cls_p, cls_m, cls_c]
  have S := says_mk hcls say_mC
  have q := tz_spec w ⟨#[45, 48 + a]⟩ t ?k0 (by simp [Str.length]) S (by decide) (0) (1) (1) (2) (-1) (-1) (by decide) ((a : Nat) : Int) ((0 : Nat) : Int) (60 * ((0 : Nat) : Int)) true
    (by decide) (int1_fin _ ha) (show _ ≤ 640 by simp [Str.length]) (by omega) (by omega) (fun c => absurd (.inl (by decide)) c) (by omega) (by omega) (fun c => absurd c (by decide)) (fun _ => by rfl) (fun _ => by simp) (fun _ => rfl)
  · simpa using q
  · refine key_of [45, 48 + a] ?_ ?_ ?_ ?_ <;> exact fun e => absurd (List.cons.inj e).1 (by omega)
theorem say_mD : RX.sayB #[45, 48, 48] 40 0 3 3 2 [some 0, some 1, some 1, some 3, some 3, none] = true := by decide +kernel
theorem sh_mD (w : World) (t : Tok) {a b : Nat} (ha : a < 10) (hb : b < 10) : Spec w 44 [.str ⟨#[45, 48 + a, 48 + b]⟩ t] 1 8 (fun _ => True) (fun _ v _ => ∃ t, v = .int (-(3600 * (((10 * a + b) : Nat) : Int) + 60 * ((0 : Nat) : Int))) t) := by
  have hcls : (#[45, 48 + a, 48 + b] : Array Nat).map RX.cls = #[45, 48, 48] := by
    simp only [List.map_toArray, List.map_cons, List.map_nil, cls_dig ha, cls_dig hb,  cls_p, cls_m, cls_c]
  have S := says_mk hcls say_mD
  have q := tz_spec w ⟨#[45, 48 + a, 48 + b]⟩ t ?k0 (by simp [Str.length]) S (by decide) (0) (1) (1) (3) (-1) (-1) (by decide) (((10 * a + b) : Nat) : Int) ((0 : Nat) : Int) (60 * ((0 : Nat) : Int)) true
    (by decide) (int2_fin _ ha _ hb) (show _ ≤ 640 by simp [Str.length]) (by omega) (by omega) (fun c => absurd (.inl (by decide)) c) (by omega) (by omega) (fun c => absurd c (by decide)) (fun _ => by rfl) (fun _ => by simp) (fun _ => rfl)
  · simpa using q
  · refine key_of [45, 48 + a, 48 + b] ?_ ?_ ?_ ?_ <;> exact fun e => absurd (List.cons.inj e).1 (by omega)
theorem say_mE : RX.sayB #[45, 48, 58, 48, 48] 40 0 5 5 3 [some 0, some 1, some 1, some 2, some 3, some 5] = true := by decide +kernel
theorem sh_mE (w : World) (t : Tok) {a b c : Nat} (ha : a < 10) (hb : b < 10) (hc : c < 10) : Spec w 44 [.str ⟨#[45, 48 + a, 58, 48 + b, 48 + c]⟩ t] 1 8 (fun _ => True) (fun _ v _ => ∃ t, v = .int (-(3600 * ((a : Nat) : Int) + 60 * (((10 * b + c) : Nat) : Int))) t) := by
  have hcls : (#[45, 48 + a, 58, 48 + b, 48 + c] : Array Nat).map RX.cls = #[45, 48, 58, 48, 48] := by
    simp only [List.map_toArray, List.map_cons, List.map_nil, cls_dig ha, cls_dig hb, cls_dig hc,  cls_p, cls_m, cls_c]
  have S := says_mk hcls say_mE
  have q := tz_spec w ⟨#[45, 48 + a, 58, 48 + b, 48 + c]⟩ t ?k0 (by simp [Str.length]) S (by decide) (0) (1) (1) (2) (3) (5) (by decide) ((a : Nat) : Int) (((10 * b + c) : Nat) : Int) (60 * (((10 * b + c) : Nat) : Int)) true
    (by decide) (int1_fin _ ha) (show _ ≤ 640 by simp [Str.length]) (by omega) (by omega) (fun _ => ⟨by simp [Str.length], by simp [Str.length], int2_fin _ hb _ hc⟩) (by omega) (by omega) (fun c => absurd c (by decide)) (fun _ => by rfl) (fun c => absurd c (by decide)) (fun _ => rfl)
  · simpa using q
  · refine key_of [45, 48 + a, 58, 48 + b, 48 + c] ?_ ?_ ?_ ?_ <;> exact fun e => absurd (List.cons.inj e).1 (by omega)
theorem say_oA : RX.sayB #[48, 48, 58, 48, 48] 40 0 5 5 3 [none, none, some 0, some 2, some 3, some 5] = true := by decide +kernel
theorem sh_oA (w : World) (t : Tok) {a b c d : Nat} (ha : a < 10) (hb : b < 10) (hc : c < 10) (hd : d < 10) : Spec w 44 [.str ⟨#[48 + a, 48 + b, 58, 48 + c, 48 + d]⟩ t] 1 8 (fun _ => True) (fun _ v _ => ∃ t, v = .int ((3600 * (((10 * a + b) : Nat) : Int) + 60 * (((10 * c + d) : Nat) : Int))) t) := by
  have hcls : (#[48 + a, 48 + b, 58, 48 + c, 48 + d] : Array Nat).map RX.cls = #[48, 48, 58, 48, 48] := by
    simp only [List.map_toArray, List.map_cons, List.map_nil, cls_dig ha, cls_dig hb, cls_dig hc, cls_dig hd,  cls_p, cls_m, cls_c]
  have S := says_mk hcls say_oA
  have q := tz_spec w ⟨#[48 + a, 48 + b, 58, 48 + c, 48 + d]⟩ t ?k0 (by simp [Str.length]) S (by decide) (-1) (-1) (0) (2) (3) (5) (by decide) (((10 * a + b) : Nat) : Int) (((10 * c + d) : Nat) : Int) (60 * (((10 * c + d) : Nat) : Int)) false
    (by decide) (int2_fin _ ha _ hb) (show _ ≤ 640 by simp [Str.length]) (by omega) (by omega) (fun _ => ⟨by simp [Str.length], by simp [Str.length], int2_fin _ hc _ hd⟩) (by omega) (by omega) (fun _ => rfl) (fun c => absurd (.inl (by decide)) c) (fun c => absurd c (by decide)) (fun _ => rfl)
  · simpa using q
  · refine key_of [48 + a, 48 + b, 58, 48 + c, 48 + d] ?_ ?_ ?_ ?_ <;> exact fun e => absurd (List.cons.inj e).1 (by omega)
theorem say_oB : RX.sayB #[48, 48, 48, 48] 40 0 4 5 3 [none, none, some 0, some 2, some 2, some 4] = true := by decide +kernel
theorem sh_oB (w : World) (t : Tok) {a b c d : Nat} (ha : a < 10) (hb : b < 10) (hc : c < 10) (hd : d < 10) : Spec w 44 [.str ⟨#[48 + a, 48 + b, 48 + c, 48 + d]⟩ t] 1 8 (fun _ => True) (fun _ v _ => ∃ t, v = .int ((3600 * (((10 * a + b) : Nat) : Int) + 60 * (((10 * c + d) : Nat) : Int))) t) := by
  have hcls : (#[48 + a, 48 + b, 48 + c, 48 + d] : Array Nat).map RX.cls = #[48, 48, 48, 48] := by
    simp only [List.map_toArray, List.map_cons, List.map_nil, cls_dig ha, cls_dig hb, cls_dig hc, cls_dig hd,  cls_p, cls_m, cls_c]
  have S := says_mk hcls say_oB
  have q := tz_spec w ⟨#[48 + a, 48 + b, 48 + c, 48 + d]⟩ t ?k0 (by simp [Str.length]) S (by decide) (-1) (-1) (0) (2) (2) (4) (by decide) (((10 * a + b) : Nat) : Int) (((10 * c + d) : Nat) : Int) (60 * (((10 * c + d) : Nat) : Int)) false
    (by decide) (int2_fin _ ha _ hb) (show _ ≤ 640 by simp [Str.length]) (by omega) (by omega) (fun _ => ⟨by simp [Str.length], by simp [Str.length], int2_fin _ hc _ hd⟩) (by omega) (by omega) (fun _ => rfl) (fun c => absurd (.inl (by decide)) c) (fun c => absurd c (by decide)) (fun _ => rfl)
  · simpa using q
  · refine key_of [48 + a, 48 + b, 48 + c, 48 + d] ?_ ?_ ?_ ?_ <;> exact fun e => absurd (List.cons.inj e).1 (by omega)
theorem say_oC : RX.sayB #[48] 40 0 1 3 2 [none, none, some 0, some 1, some 1, none] = true := by decide +kernel
theorem sh_oC (w : World) (t : Tok) {a : Nat} (ha : a < 10) : Spec w 44 [.str ⟨#[48 + a]⟩ t] 1 8 (fun _ => True) (fun _ v _ => ∃ t, v = .int ((3600 * ((a : Nat) : Int) + 60 * ((0 : Nat) : Int))) t) := by
  have hcls : (#[48 + a] : Array Nat).map RX.cls = #[48] := by
    simp only [List.map_toArray, List.map_cons, List.map_nil, cls_dig ha,  cls_p, cls_m, cls_c]
  have S := says_mk hcls say_oC
  have q := tz_spec w ⟨#[48 + a]⟩ t ?k0 (by simp [Str.length]) S (by decide) (-1) (-1) (0) (1) (-1) (-1) (by decide) ((a : Nat) : Int) ((0 : Nat) : Int) (60 * ((0 : Nat) : Int)) false
    (by decide) (int1_fin _ ha) (show _ ≤ 640 by simp [Str.length]) (by omega) (by omega) (fun c => absurd (.inl (by decide)) c) (by omega) (by omega) (fun _ => rfl) (fun c => absurd (.inl (by decide)) c) (fun _ => by simp) (fun _ => rfl)
  · simpa using q
  · refine key_of [48 + a] ?_ ?_ ?_ ?_ <;> exact fun e => absurd (List.cons.inj e).1 (by omega)
theorem say_oD : RX.sayB #[48, 48] 40 0 2 3 2 [none, none, some 0, some 2, some 2, none] = true := by decide +kernel
theorem sh_oD (w : World) (t : Tok) {a b : Nat} (ha : a < 10) (hb : b < 10) : Spec w 44 [.str ⟨#[48 + a, 48 + b]⟩ t] 1 8 (fun _ => True) (fun _ v _ => ∃ t, v = .int ((3600 * (((10 * a + b) : Nat) : Int) + 60 * ((0 : Nat) : Int))) t) := by
  have hcls : (#[48 + a, 48 + b] : Array Nat).map RX.cls = #[48, 48] := by
    simp only [List.map_toArray, List.map_cons, List.map_nil, cls_dig ha, cls_dig hb,  cls_p, cls_m, cls_c]
  have S := says_mk hcls say_oD
  have q := tz_spec w ⟨#[48 + a, 48 + b]⟩ t ?k0 (by simp [Str.length]) S (by decide) (-1) (-1) (0) (2) (-1) (-1) (by decide) (((10 * a + b) : Nat) : Int) ((0 : Nat) : Int) (60 * ((0 : Nat) : Int)) false
    (by decide) (int2_fin _ ha _ hb) (show _ ≤ 640 by simp [Str.length]) (by omega) (by omega) (fun c => absurd (.inl (by decide)) c) (by omega) (by omega) (fun _ => rfl) (fun c => absurd (.inl (by decide)) c) (fun _ => by simp) (fun _ => rfl)
  · simpa using q
  · refine key_of [48 + a, 48 + b] ?_ ?_ ?_ ?_ <;> exact fun e => absurd (List.cons.inj e).1 (by omega)
theorem say_oE : RX.sayB #[48, 58, 48, 48] 40 0 4 5 3 [none, none, some 0, some 1, some 2, some 4] = true := by decide +kernel
theorem sh_oE (w : World) (t : Tok) {a b c : Nat} (ha : a < 10) (hb : b < 10) (hc : c < 10) : Spec w 44 [.str ⟨#[48 + a, 58, 48 + b, 48 + c]⟩ t] 1 8 (fun _ => True) (fun _ v _ => ∃ t, v = .int ((3600 * ((a : Nat) : Int) + 60 * (((10 * b + c) : Nat) : Int))) t) := by
  have hcls : (#[48 + a, 58, 48 + b, 48 + c] : Array Nat).map RX.cls = #[48, 58, 48, 48] := by
    simp only [List.map_toArray, List.map_cons, List.map_nil, cls_dig ha, cls_dig hb, cls_dig hc,  cls_p, cls_m, cls_c]
  have S := says_mk hcls say_oE
  have q := tz_spec w ⟨#[48 + a, 58, 48 + b, 48 + c]⟩ t ?k0 (by simp [Str.length]) S (by decide) (-1) (-1) (0) (1) (2) (4) (by decide) ((a : Nat) : Int) (((10 * b + c) : Nat) : Int) (60 * (((10 * b + c) : Nat) : Int)) false
    (by decide) (int1_fin _ ha) (show _ ≤ 640 by simp [Str.length]) (by omega) (by omega) (fun _ => ⟨by simp [Str.length], by simp [Str.length], int2_fin _ hb _ hc⟩) (by omega) (by omega) (fun _ => rfl) (fun c => absurd (.inl (by decide)) c) (fun c => absurd c (by decide)) (fun _ => rfl)
  · simpa using q
  · refine key_of [48 + a, 58, 48 + b, 48 + c] ?_ ?_ ?_ ?_ <;> exact fun e => absurd (List.cons.inj e).1 (by omega)
end
section
theorem num1_fin : ∀ a < 10, Str.ofString (toString (Int.ofNat a)) = ⟨#[48 + a]⟩ := by decide +kernel
theorem num2_fin : ∀ a < 100, 10 ≤ a → Str.ofString (toString (Int.ofNat a)) = ⟨#[48 + a / 10, 48 + a % 10]⟩ := by decide +kernel
noncomputable abbrev IntSpec (w : World) (x : Str) (t : Tok) (o : Int) : Prop := Spec w 44 [.str x t] 1 8 (fun _ => True) (fun _ v _ => ∃ t, v = .int o t)
theorem spec_val {w : World} {x y : Str} {t : Tok} {o o' : Int} (S : IntSpec w y t o') (hx : x = y) (ho : o' = o) : IntSpec w x t o := by
  subst hx ho; exact S
theorem fd60 (n : Nat) : ((n : Nat) : Int).fdiv 60 = ((n / 60 : Nat) : Int) := by rw [Int.fdiv_eq_ediv_of_nonneg _ (by decide)]; rfl
theorem fm60 (n : Nat) : ((n : Nat) : Int).fmod 60 = ((n % 60 : Nat) : Int) := by rw [Int.fmod_eq_emod_of_nonneg _ (by decide)]; rfl
theorem abs_parts (m : Int) (m0 : -720 ≤ m) (m1 : m ≤ 720) : ∃ n : Nat, n ≤ 720 ∧ ((0 ≤ m ∧ m = (n : Int)) ∨ (m < 0 ∧ m = -(n : Int))) ∧ (if m < 0 then -m else m).fdiv 60 = ((n / 60 : Nat) : Int) ∧ (if m < 0 then -m else m).fmod 60 = ((n % 60 : Nat) : Int) := by
  rcases Int.lt_or_le m 0 with h | h
  · obtain ⟨n, e⟩ := Int.eq_ofNat_of_zero_le (show 0 ≤ -m by omega)
    have e' : m = -(n : Int) := by omega
    refine ⟨n, by omega, .inr ⟨h, e'⟩, ?_, ?_⟩
    · rw [if_pos h, e]; exact fd60 n
    · rw [if_pos h, e]; exact fm60 n
  · obtain ⟨n, rfl⟩ := Int.eq_ofNat_of_zero_le h
    refine ⟨n, by omega, .inl ⟨h, rfl⟩, ?_, ?_⟩
    · rw [if_neg (Int.not_lt.mpr h)]; exact fd60 n
    · rw [if_neg (Int.not_lt.mpr h)]; exact fm60 n
theorem pos_of {m : Int} (h : 0 ≤ m) (z : ¬ m = 0) : 0 < m := by omega
theorem dig_bd {n : Nat} (h : n ≤ 720) : n / 60 < 100 ∧ n / 60 / 10 < 10 ∧ n / 60 % 10 < 10 ∧ n % 60 / 10 < 10 ∧ n % 60 % 10 < 10 := by omega
theorem vA (n : Nat) : (3600 * ((10 * (n / 60 / 10) + n / 60 % 10 : Nat) : Int) + 60 * ((10 * (n % 60 / 10) + n % 60 % 10 : Nat) : Int)) = 60 * (n : Int) := by omega
theorem vD (n : Nat) (h : n % 60 = 0) : (3600 * ((10 * (n / 60 / 10) + n / 60 % 10 : Nat) : Int) + 60 * ((0 : Nat) : Int)) = 60 * (n : Int) := by omega
theorem vC (n : Nat) (h : n % 60 = 0) : (3600 * ((n / 60 : Nat) : Int) + 60 * ((0 : Nat) : Int)) = 60 * (n : Int) := by omega
theorem vE (n : Nat) : (3600 * ((n / 60 : Nat) : Int) + 60 * ((10 * (n % 60 / 10) + n % 60 % 10 : Nat) : Int)) = 60 * (n : Int) := by omega
theorem zone_off (w : World) (m f : Int) (t : Tok) (m0 : -720 ≤ m) (m1 : m ≤ 720) (f0 : 0 ≤ f) (f1 : f ≤ 3) : IntSpec w (zoneT m f) t (60 * m) := by
  by_cases hz : m = 0
  · subst hz
    obtain rfl | rfl | rfl | rfl : f = 0 ∨ f = 1 ∨ f = 2 ∨ f = 3 := by omega
    · exact spec_val (utc_spec w "GMT" t (by decide +kernel)) rfl rfl
    · exact spec_val (utc_spec w "Z" t (by decide +kernel)) rfl rfl
    · exact spec_val (utc_spec w "UTC" t (by decide +kernel)) rfl rfl
    · exact spec_val (utc_spec w "UT" t (by decide +kernel)) rfl rfl
  · obtain ⟨n, hn, hs, eH, eR⟩ := abs_parts m m0 m1
    obtain ⟨h100, a1, a2, a3, a4⟩ := dig_bd hn
    obtain rfl | rfl | rfl | rfl : f = 0 ∨ f = 1 ∨ f = 2 ∨ f = 3 := by omega
    · rcases hs with ⟨hp, e⟩ | ⟨hp, e⟩
      · have hp' : 0 < m := pos_of hp hz
        by_cases hr : (if m < 0 then -m else m).fmod 60 = 0
        · have eR0 : n % 60 = 0 := Int.natCast_eq_zero.mp (hr.symm.trans eR).symm
          refine spec_val (sh_pA w t a1 a2 a3 a4) ((zpz0 hz hp' hr).symm.trans ?_) (by rw [e, vA n])
          rw [eH, eR]
          rfl
        · refine spec_val (sh_pA w t a1 a2 a3 a4) ((zpo0 hz hp' hr).symm.trans ?_) (by rw [e, vA n])
          rw [eH, eR]
          rfl
      · have hp' : ¬ 0 < m := Int.not_lt.mpr (Int.le_of_lt hp)
        by_cases hr : (if m < 0 then -m else m).fmod 60 = 0
        · have eR0 : n % 60 = 0 := Int.natCast_eq_zero.mp (hr.symm.trans eR).symm
          refine spec_val (sh_mA w t a1 a2 a3 a4) ((znz0 hz hp' hr).symm.trans ?_) (by rw [e, Int.mul_neg, vA n])
          rw [eH, eR]
          rfl
        · refine spec_val (sh_mA w t a1 a2 a3 a4) ((zno0 hz hp' hr).symm.trans ?_) (by rw [e, Int.mul_neg, vA n])
          rw [eH, eR]
          rfl
    · rcases hs with ⟨hp, e⟩ | ⟨hp, e⟩
      · have hp' : 0 < m := pos_of hp hz
        by_cases hr : (if m < 0 then -m else m).fmod 60 = 0
        · have eR0 : n % 60 = 0 := Int.natCast_eq_zero.mp (hr.symm.trans eR).symm
          refine spec_val (sh_oB w t a1 a2 a3 a4) ((zpz1 hz hp' hr).symm.trans ?_) (by rw [e, vA n])
          rw [eH, eR]
          rfl
        · refine spec_val (sh_oB w t a1 a2 a3 a4) ((zpo1 hz hp' hr).symm.trans ?_) (by rw [e, vA n])
          rw [eH, eR]
          rfl
      · have hp' : ¬ 0 < m := Int.not_lt.mpr (Int.le_of_lt hp)
        by_cases hr : (if m < 0 then -m else m).fmod 60 = 0
        · have eR0 : n % 60 = 0 := Int.natCast_eq_zero.mp (hr.symm.trans eR).symm
          refine spec_val (sh_mB w t a1 a2 a3 a4) ((znz1 hz hp' hr).symm.trans ?_) (by rw [e, Int.mul_neg, vA n])
          rw [eH, eR]
          rfl
        · refine spec_val (sh_mB w t a1 a2 a3 a4) ((zno1 hz hp' hr).symm.trans ?_) (by rw [e, Int.mul_neg, vA n])
          rw [eH, eR]
          rfl
    · rcases hs with ⟨hp, e⟩ | ⟨hp, e⟩
      · have hp' : 0 < m := pos_of hp hz
        by_cases hr : (if m < 0 then -m else m).fmod 60 = 0
        · have eR0 : n % 60 = 0 := Int.natCast_eq_zero.mp (hr.symm.trans eR).symm
          by_cases h10 : n / 60 < 10
          · refine spec_val (sh_pC w t h10) ((zpz2 hz hp' hr).symm.trans ?_) (by rw [e, vC n eR0])
            rw [eH]
            rw [show ((n / 60 : Nat) : Int) = Int.ofNat (n / 60) from rfl, num1_fin _ h10]
            rfl
          · refine spec_val (sh_pD w t a1 a2) ((zpz2 hz hp' hr).symm.trans ?_) (by rw [e, vD n eR0])
            rw [eH]
            rw [show ((n / 60 : Nat) : Int) = Int.ofNat (n / 60) from rfl, num2_fin _ h100 (Nat.le_of_not_lt h10)]
            rfl
        · by_cases h10 : n / 60 < 10
          · refine spec_val (sh_pE w t h10 a3 a4) ((zpo2 hz hp' hr).symm.trans ?_) (by rw [e, vE n])
            rw [eH, eR]
            rw [show ((n / 60 : Nat) : Int) = Int.ofNat (n / 60) from rfl, num1_fin _ h10]
            rfl
          · refine spec_val (sh_pA w t a1 a2 a3 a4) ((zpo2 hz hp' hr).symm.trans ?_) (by rw [e, vA n])
            rw [eH, eR]
            rw [show ((n / 60 : Nat) : Int) = Int.ofNat (n / 60) from rfl, num2_fin _ h100 (Nat.le_of_not_lt h10)]
            rfl
      · have hp' : ¬ 0 < m := Int.not_lt.mpr (Int.le_of_lt hp)
        by_cases hr : (if m < 0 then -m else m).fmod 60 = 0
        · have eR0 : n % 60 = 0 := Int.natCast_eq_zero.mp (hr.symm.trans eR).symm
          by_cases h10 : n / 60 < 10
          · refine spec_val (sh_mC w t h10) ((znz2 hz hp' hr).symm.trans ?_) (by rw [e, Int.mul_neg, vC n eR0])
            rw [eH]
            rw [show ((n / 60 : Nat) : Int) = Int.ofNat (n / 60) from rfl, num1_fin _ h10]
            rfl
          · refine spec_val (sh_mD w t a1 a2) ((znz2 hz hp' hr).symm.trans ?_) (by rw [e, Int.mul_neg, vD n eR0])
            rw [eH]
            rw [show ((n / 60 : Nat) : Int) = Int.ofNat (n / 60) from rfl, num2_fin _ h100 (Nat.le_of_not_lt h10)]
            rfl
        · by_cases h10 : n / 60 < 10
          · refine spec_val (sh_mE w t h10 a3 a4) ((zno2 hz hp' hr).symm.trans ?_) (by rw [e, Int.mul_neg, vE n])
            rw [eH, eR]
            rw [show ((n / 60 : Nat) : Int) = Int.ofNat (n / 60) from rfl, num1_fin _ h10]
            rfl
          · refine spec_val (sh_mA w t a1 a2 a3 a4) ((zno2 hz hp' hr).symm.trans ?_) (by rw [e, Int.mul_neg, vA n])
            rw [eH, eR]
            rw [show ((n / 60 : Nat) : Int) = Int.ofNat (n / 60) from rfl, num2_fin _ h100 (Nat.le_of_not_lt h10)]
            rfl
    · rcases hs with ⟨hp, e⟩ | ⟨hp, e⟩
      · have hp' : 0 < m := pos_of hp hz
        by_cases hr : (if m < 0 then -m else m).fmod 60 = 0
        · have eR0 : n % 60 = 0 := Int.natCast_eq_zero.mp (hr.symm.trans eR).symm
          by_cases h10 : n / 60 < 10
          · refine spec_val (sh_oC w t h10) ((zpz3 hz hp' hr).symm.trans ?_) (by rw [e, vC n eR0])
            rw [eH]
            rw [show ((n / 60 : Nat) : Int) = Int.ofNat (n / 60) from rfl, num1_fin _ h10]
            rfl
          · refine spec_val (sh_oD w t a1 a2) ((zpz3 hz hp' hr).symm.trans ?_) (by rw [e, vD n eR0])
            rw [eH]
            rw [show ((n / 60 : Nat) : Int) = Int.ofNat (n / 60) from rfl, num2_fin _ h100 (Nat.le_of_not_lt h10)]
            rfl
        · refine spec_val (sh_oB w t a1 a2 a3 a4) ((zpo3 hz hp' hr).symm.trans ?_) (by rw [e, vA n])
          rw [eH, eR]
          rfl
      · have hp' : ¬ 0 < m := Int.not_lt.mpr (Int.le_of_lt hp)
        by_cases hr : (if m < 0 then -m else m).fmod 60 = 0
        · have eR0 : n % 60 = 0 := Int.natCast_eq_zero.mp (hr.symm.trans eR).symm
          by_cases h10 : n / 60 < 10
          · refine spec_val (sh_mC w t h10) ((znz3 hz hp' hr).symm.trans ?_) (by rw [e, Int.mul_neg, vC n eR0])
            rw [eH]
            rw [show ((n / 60 : Nat) : Int) = Int.ofNat (n / 60) from rfl, num1_fin _ h10]
            rfl
          · refine spec_val (sh_mD w t a1 a2) ((znz3 hz hp' hr).symm.trans ?_) (by rw [e, Int.mul_neg, vD n eR0])
            rw [eH]
            rw [show ((n / 60 : Nat) : Int) = Int.ofNat (n / 60) from rfl, num2_fin _ h100 (Nat.le_of_not_lt h10)]
            rfl
        · refine spec_val (sh_mB w t a1 a2 a3 a4) ((zno3 hz hp' hr).symm.trans ?_) (by rw [e, Int.mul_neg, vA n])
          rw [eH, eR]
          rfl
end
section
theorem rng_small {b : Int} {n : Nat} (hb : b = (n : Int)) (hn : n ≤ 1000) : Builtin.Range.small 0 b 1 = true := by
  have h62 : (2 : Int) ^ 62 = 4611686018427387904 := by decide
  exact small_one (by omega) (by omega) (by omega) (by omega)
theorem rng_size {b : Int} {n : Nat} (hb : b = (n : Int)) : Builtin.Range.rangeSize 0 b 1 = (n : Int) := by
  rw [rangeSize_one]; split <;> omega
theorem rng_smallF {a b : Int} {n : Nat} (h0 : 0 ≤ a) (h1 : a ≤ 1000) (hb : b = a + (n : Int)) (hn : n ≤ 1000) : Builtin.Range.small a b 1 = true := by
  have h62 : (2 : Int) ^ 62 = 4611686018427387904 := by decide
  exact small_one (by omega) (by omega) (by omega) (by omega)
theorem rng_sizeF {a b : Int} {n : Nat} (hb : b = a + (n : Int)) : Builtin.Range.rangeSize a b 1 = (n : Int) := by
  rw [rangeSize_one]; split <;> omega
theorem rng_at {a₀ : Int} {n i : Nat} {k : Int} (h : (rangeKs a₀ n)[i]? = some k) : k = a₀ + (i : Int) ∧ i < n := by
  unfold rangeKs at h
  rw [List.getElem?_map] at h
  obtain ⟨j, hj, rfl⟩ := Option.map_eq_some_iff.mp h
  obtain ⟨h1, h2⟩ := List.getElem?_eq_some_iff.mp hj
  rw [List.getElem_range] at h2
  subst h2
  exact ⟨rfl, by simpa using h1⟩
theorem ns_some {h : Heap} {L : Addr} {m : Str → Option Value} (n : h.Ns L m) : ¬ h.get? L = none := fun e => by
  obtain ⟨es, n1, e1, e2⟩ := n
  simp_all
theorem news_addO {h₀ h h' : Heap} {L D : Addr} {m : Str → Option Value} {news : List (Addr × Obj)} {o : Obj} (F : Fr h₀ L h m) (N : News h₀ L h' news) (hs : h.get? D = none) (ho : h'.get? D = some o) : News h₀ L h' ((D, o) :: news) := by
  intro p hp
  rcases List.mem_cons.mp hp with rfl | hp
  · refine ⟨ho, ?_, ?_⟩
    · intro e
      have e : D = L := e
      exact absurd hs (ns_some (e ▸ F.ns))
    · cases e : h₀.get? D with
      | none => rfl
      | some q => rw [F.keep _ _ e] at hs; cases hs
  · exact N p hp
theorem news_neO {h₀ h : Heap} {L D : Addr} {news : List (Addr × Obj)} (N : News h₀ L h news) (hs : h.get? D = none) : ∀ p ∈ news, p.1 ≠ D := fun p hp e => by
  have := (N p hp).1
  rw [e, hs] at this
  cases this
theorem nm_eq {x : Str} {m : Str → Option Value} {v : Value} : (fun z => if z = x then some v else m z) x = some v := if_pos rfl
theorem nm_ne {x y : Str} {m : Str → Option Value} {u : Option Value} {v : Value} (h : y ≠ x) (e : m y = some v) : (fun z => if z = x then u else m z) y = some v := (if_neg h).trans e
theorem news_cons {h₀ h : Heap} {L : Addr} {p : Addr × Obj} {own : List (Addr × Obj)} (N : News h₀ L h ([p] ++ own)) : News h₀ L h (p :: own) := N
theorem inv_end1 {h₀ : Heap} {L D : Addr} {J : (Str → Option Value) → List (Addr × Obj) → Prop} {m' : Str → Option Value} {own : List (Addr × Obj)} {o : Obj} {s₁ : Shared} {h' : Heap} {tk : Nat} (F : Fr h₀ L h' m') (N : News h₀ L h' ((D, o) :: own))
    (hj : J m' [(D, o)]) : InvEndN h₀ L J own [D] s₁ { s₁ with heap := h', toks := tk } := InvEndN.intro F N hj rfl (fun _ hp => List.mem_append_left own hp) (fun _ hp => .tail _ hp)
theorem inv_end3 {h₀ : Heap} {L D1 D2 D3 : Addr} {J : (Str → Option Value) → List (Addr × Obj) → Prop} {m' : Str → Option Value} {own : List (Addr × Obj)} {o1 o2 o3 : Obj} {s₁ : Shared} {h' : Heap} {tk : Nat} (F : Fr h₀ L h' m') (N : News h₀ L h' ((D1, o1) :: (D2, o2) :: (D3, o3) :: own))
    (hj : J m' [(D1, o1), (D2, o2), (D3, o3)]) : InvEndN h₀ L J own [D1, D2, D3] s₁ { s₁ with heap := h', toks := tk } := InvEndN.intro F N hj rfl (fun _ hp => List.mem_append_left own hp) (fun _ hp => .tail _ (.tail _ (.tail _ hp)))
end
section
section
variable {prog : Program} {w : World} {A : Around} {s : Shared} {h₀ : Heap} {L : Addr} {m : Str → Option Value} {env : Env}
theorem rest_ind {elt : Expr} {x : Str} {scope : Scope} {cl : List (Str × Addr)} {S : List (Addr × Obj) → Prop} {P : Nat → Value → Prop} {Fin : List Value → List (Addr × Obj) → Prop} {n : Nat} (J : Nat → List Value → List (Addr × Obj) → Prop)
    (step : ∀ i ys news v I oI C oC D m₂ h tk (E' : Value → Shared → Prop), i < n → J i ys news → P i v → LCg.NsObj oC m₂ → m₂ x = some v → Fr h₀ L h m → News h₀ L h ((I, oI) :: (C, oC) :: (D, LCg.lst ys) :: news) → LCg.Off3 I C D news → ((@Ne Nat I C) ∧ (@Ne Nat I D) ∧ (@Ne Nat C D)) →
      wpAny (model prog w) A (eval elt (compEnvC scope cl C env)) (LCg.CompEnd h₀ L m { s with heap := h, toks := tk } I oI C oC D (LCg.lst ys) S (fun y news' => J (i + 1) (ys ++ [y]) news')) E' { s with heap := h, toks := tk })
    (fin : ∀ ys news, J n ys news → Fin ys news) {news : List (Addr × Obj)} (h0 : J 0 [] news) : LCg.CompRest prog w A h₀ L m env elt x scope cl s S P Fin n 0 [] news := by
  have key : ∀ k i ys news, i + k = n → J i ys news → LCg.CompRest prog w A h₀ L m env elt x scope cl s S P Fin k i ys news := by
    intro k
    induction k with
    | zero =>
      intro i ys news e hj
      obtain rfl : i = n := by omega
      exact LCg.CompRest.zero (fin ys news hj)
    | succ k ih =>
      intro i ys news e hj
      refine LCg.CompRest.succ fun v I oI C oC D m₂ h tk E' hP hC hx F N off ne => ?_
      refine wpAny_mono (step i ys news v I oI C oC D m₂ h tk E' (by omega) hj hP hC hx F N off ne) (fun y s₂ q => ?_) fun _ _ e => e
      obtain ⟨h', tk', news', e1, F', N', off', hS, r⟩ := q
      exact ⟨h', tk', news', e1, F', N', off', hS, ih (i + 1) _ _ (by omega) r⟩
  exact key n 0 [] news (by omega) h0
end
structure NameAt (h : Heap) (x : Addr) (T : Str) : Prop where
  ex : ∃ dx k4 k5 hs, InstAt h x (instObj 174 dx) 174 (some (dictOf [⟨hs, .str "text" k4, .str T k5⟩] 1))
theorem refs_at {xs : List Addr} {i : Nat} {v : Value} (h : (xs.map Value.ref).toArray[i]? = some v) : v = .ref (xs.getD i 0) ∧ i < xs.length := by
  have h' : (xs.map Value.ref)[i]? = some v := by simpa using h
  rw [List.getElem?_map] at h'
  obtain ⟨a, ha, rfl⟩ := Option.map_eq_some_iff.mp h'
  obtain ⟨h1, h2⟩ := List.getElem?_eq_some_iff.mp ha
  refine ⟨?_, h1⟩
  rw [List.getD_eq_getElem?_getD, ha]
  rfl
theorem strs_snoc {vs : List Value} {ys : List Str} {y : Str} {t : Tok} (h : StrsAre vs ys) : StrsAre (vs ++ [.str y t]) (ys ++ [y]) := by
  induction h with
  | nil => exact .cons y t .nil
  | cons z u _ ih => exact .cons z u ih
theorem ints_snoc {vs : List Value} {ys : List Int} {y : Int} {t : Tok} (h : IntsAre vs ys) : IntsAre (vs ++ [.int y t]) (ys ++ [y]) := by
  induction h with
  | nil => exact .cons y t .nil
  | cons z u _ ih => exact .cons z u ih
theorem take_snoc {α : Type} {l : List α} {i : Nat} {d : α} (h : i < l.length) : l.take (i + 1) = l.take i ++ [l.getD i d] := by
  rw [List.take_add_one, List.getD_eq_getElem?_getD, List.getElem?_eq_getElem h]
  rfl
theorem strs_to {vs : List Value} {ys zs : List Str} (h : StrsAre vs ys) (e : ys = zs) : StrsAre vs zs := e ▸ h
theorem ints_to {vs : List Value} {ys zs : List Int} (h : IntsAre vs ys) (e : ys = zs) : IntsAre vs zs := e ▸ h
theorem comp_end0 {h₀ h' : Heap} {L I C D : Addr} {m : Str → Option Value} {s₁ : Shared} {oI oC oD : Obj} {S : List (Addr × Obj) → Prop} {rest : Value → List (Addr × Obj) → Prop} {y : Value} {tk : Nat} {news : List (Addr × Obj)}
    (F : Fr h₀ L h' m) (N : News h₀ L h' ((I, oI) :: (C, oC) :: (D, oD) :: news)) (off : LCg.Off3 I C D news) (hS : S news) (r : rest y news) :
    LCg.CompEnd h₀ L m s₁ I oI C oC D oD S rest y { s₁ with heap := h', toks := tk } := LCg.CompEnd.intro F N news (fun _ hp => hp) off hS r
theorem mem_eq0 {α : Type} {a : α} {l c : List α} (h : a :: l = c) : a ∈ c := h ▸ .head _
theorem mem_eq1 {α : Type} {a b : α} {l c : List α} (h : b :: a :: l = c) : a ∈ c := h ▸ .tail _ (.head _)
theorem mem_eq2 {α : Type} {a b d : α} {l c : List α} (h : d :: b :: a :: l = c) : a ∈ c := h ▸ .tail _ (.tail _ (.head _))
theorem mem_eq3 {α : Type} {a b d e : α} {l c : List α} (h : e :: d :: b :: a :: l = c) : a ∈ c := h ▸ .tail _ (.tail _ (.tail _ (.head _)))
theorem mem_eq4 {α : Type} {a b d e f : α} {l c : List α} (h : f :: e :: d :: b :: a :: l = c) : a ∈ c := h ▸ .tail _ (.tail _ (.tail _ (.tail _ (.head _))))
theorem ints_at {vs : List Value} {ns : List Int} {i : Nat} {v : Value} (h : IntsAre vs ns) (e : vs.toArray[i]? = some v) : (∃ t, v = .int (ns.getD i 0) t) ∧ i < ns.length := by
  have e' : vs[i]? = some v := by simpa using e
  obtain ⟨h1, _⟩ := List.getElem?_eq_some_iff.mp e'
  have h2 : i < ns.length := h.length ▸ h1
  obtain ⟨t, ht⟩ := h.get i ns[i] (by simp [h2])
  rw [e'] at ht
  refine ⟨⟨t, ?_⟩, h2⟩
  rw [Option.some.inj ht, List.getD_eq_getElem?_getD, List.getElem?_eq_getElem h2]
  rfl
theorem comp_end1 {h₀ h h' : Heap} {L I C D : Addr} {m : Str → Option Value} {s₁ : Shared} {oI oC oD o : Obj} {S : List (Addr × Obj) → Prop} {rest : Value → List (Addr × Obj) → Prop} {y : Value} {tk : Nat} {news : List (Addr × Obj)}
    (N : News h₀ L h ((I, oI) :: (C, oC) :: (D, oD) :: news)) (F : Fr h₀ L h' m) (N' : News h₀ L h' ((h.objs.size, o) :: (I, oI) :: (C, oC) :: (D, oD) :: news)) (off : LCg.Off3 I C D news) (hS : S ((h.objs.size, o) :: news)) (r : rest y ((h.objs.size, o) :: news)) :
    LCg.CompEnd h₀ L m s₁ I oI C oC D oD S rest y { s₁ with heap := h', toks := tk } := by
  have l1 : I < h.objs.size := Heap.lt_size (N _ (.head _)).1
  have l2 : C < h.objs.size := Heap.lt_size (N _ (.tail _ (.head _))).1
  have l3 : D < h.objs.size := Heap.lt_size (N _ (.tail _ (.tail _ (.head _)))).1
  refine LCg.CompEnd.intro F N' ((h.objs.size, o) :: news) (fun p hp => ?_) ⟨⟨?_, ?_, ?_⟩, off⟩ hS r
  · rcases List.mem_cons.mp hp with rfl | hp
    · exact .tail _ (.head _)
    · rcases List.mem_cons.mp hp with rfl | hp
      · exact .tail _ (.tail _ (.head _))
      · rcases List.mem_cons.mp hp with rfl | hp
        · exact .tail _ (.tail _ (.tail _ (.head _)))
        · rcases List.mem_cons.mp hp with rfl | hp
          · exact .head _
          · exact .tail _ (.tail _ (.tail _ (.tail _ hp)))
  · exact Nat.ne_of_gt l1
  · exact Nat.ne_of_gt l2
  · exact Nat.ne_of_gt l3
theorem getD_snoc {α : Type} {l : List α} {a d : α} {j : Nat} (h : j < l.length) : (l ++ [a]).getD j d = l.getD j d := by
  rw [List.getD_eq_getElem?_getD, List.getElem?_append_left h, List.getD_eq_getElem?_getD]
theorem getD_last' {α : Type} {l : List α} {a d : α} : (l ++ [a]).getD l.length d = a := by
  rw [List.getD_eq_getElem?_getD, List.getElem?_append_right (Nat.le_refl _)]; simp
theorem allLt_at {d : Addr} : ∀ {l : List (Addr × Obj)}, AllLt d l → ∀ p ∈ l, @LT.lt Nat _ p.1 d
  | [], _, _, h => nomatch h
  | _ :: _, x, p, h => by
    rcases List.mem_cons.mp h with rfl | h
    · exact x.1
    · exact allLt_at x.2 p h
theorem regroup {h₀ h : Heap} {L : Addr} {D3 D2 D1 e3 e2 e1 T : Nat} {o3 o2 o1 p3 p2 p1 ot : Obj} {rest : List (Addr × Obj)} (N : News h₀ L h ((D3, o3) :: (e3, p3) :: (D2, o2) :: (e2, p2) :: (D1, o1) :: (e1, p1) :: (T, ot) :: rest))
    (c : e1 < D1 ∧ T < D1 ∧ D1 < e2 ∧ e2 < D2 ∧ D2 < e3 ∧ e3 < D3) (a1 : AllLt D1 rest) (a2 : AllLt D2 rest) (a3 : AllLt D3 rest) :
    ∃ ro, News h₀ L h ((D3, o3) :: (D2, o2) :: (D1, o1) :: ro) ∧ (T, ot) ∈ ro ∧ (∀ p ∈ rest, p ∈ ro) ∧ (∀ p ∈ ro, p.1 ≠ (D3 : Addr)) ∧ (∀ p ∈ ro, p.1 ≠ (D2 : Addr)) ∧ (∀ p ∈ ro, p.1 ≠ (D1 : Addr)) ∧ D1 < D2 ∧ D2 < D3 := by
  have b1 := allLt_at a1
  have b2 := allLt_at a2
  have b3 := allLt_at a3
  refine ⟨(e3, p3) :: (e2, p2) :: (e1, p1) :: (T, ot) :: rest, ?_, ?_, ?_, ?_, ?_, ?_, by omega, by omega⟩
  · intro p hp
    refine N p ?_
    simp only [List.mem_cons] at hp ⊢
    rcases hp with hp | hp | hp | hp | hp | hp | hp | hp <;> simp [hp]
  · simp
  · intro p hp; simp [hp]
  all_goals (
    intro p hp
    simp only [List.mem_cons] at hp
    rcases hp with rfl | rfl | rfl | rfl | hp
    · refine neN ?_; dsimp only; omega
    · refine neN ?_; dsimp only; omega
    · refine neN ?_; dsimp only; omega
    · refine neN ?_; dsimp only; omega
    · refine neN ?_
      have q1 := b1 p hp
      have q2 := b2 p hp
      have q3 := b3 p hp
      omega)
theorem inv_endR {h₀ h' : Heap} {L D1 D2 D3 : Addr} {J : (Str → Option Value) → List (Addr × Obj) → Prop} {m' : Str → Option Value} {r own : List (Addr × Obj)} {o1 o2 o3 : Obj} {s₁ : Shared} {tk : Nat} (F : Fr h₀ L h' m') (N : News h₀ L h' ((D3, o3) :: (D2, o2) :: (D1, o1) :: (r ++ own)))
    (hj : J m' ((D3, o3) :: (D2, o2) :: (D1, o1) :: r)) : InvEndN h₀ L J own (D3 :: D2 :: D1 :: r.map (·.1)) s₁ { s₁ with heap := h', toks := tk } :=
  InvEndN.intro F N hj rfl (fun p hp => by
    simp only [List.mem_cons, List.mem_append] at hp ⊢
    rcases hp with hp | hp | hp | hp <;> simp [hp]) (fun p hp => by simp [hp])
theorem news_split {h₀ h : Heap} {L : Addr} {a b c : Addr × Obj} {r own : List (Addr × Obj)} (N : News h₀ L h ((a :: b :: c :: r) ++ own)) : News h₀ L h (a :: b :: c :: (r ++ own)) := N
theorem off_app {D : Addr} {r own : List (Addr × Obj)} {adr : List Addr} (z : ∀ p ∈ r, p.1 ≠ D) (o : OwnOff own adr) (h : D ∈ adr) : ∀ p ∈ r ++ own, p.1 ≠ D := fun p hp => (List.mem_append.mp hp).elim (z p) (fun hp => o p hp D h)
theorem rep_flat (n : Nat) : (List.replicate ((n : Int)).toNat [(0 : Int)]).flatten = List.replicate n 0 := by simp
theorem getD_mem {ds : List Int} {j : Nat} (h : j < ds.length) : ds.getD j 0 ∈ ds := by
  rw [List.getD_eq_getElem?_getD, List.getElem?_eq_getElem h]
  exact List.getElem_mem h
theorem news_tail {h₀ h : Heap} {L : Addr} {a : Addr × Obj} {l : List (Addr × Obj)} (N : News h₀ L h (a :: l)) : News h₀ L h l := fun p hp => N p (.tail _ hp)
theorem ints_pos {c : Prop} [Decidable c] {v : List Value} {a b : List Int} (h : c) (k : IntsAre v a) : IntsAre v (if c then a else b) := by rw [if_pos h]; exact k
theorem ints_neg {c : Prop} [Decidable c] {v : List Value} {a b : List Int} (h : ¬ c) (k : IntsAre v b) : IntsAre v (if c then a else b) := by rw [if_neg h]; exact k
theorem ints_negB {b : Bool} {v : List Value} {x y : List Int} (h : b = false) (k : IntsAre v y) : IntsAre v (if b = true then x else y) := by rw [h]; exact k
end
section
local macro_rules | `(tactic| walk_at "pyIter ref") => `(tactic| refine stop_of ?_)

theorem fmod_mil (a : Int) : 0 ≤ a.fmod 1000000 ∧ a.fmod 1000000 < 1000000 := ⟨Int.fmod_nonneg_of_pos _ (by decide), Int.fmod_lt_of_pos _ (by decide)⟩
theorem draws_spec (w : World) (l : Addr) (vs : List Value) (ns : List Int) (hv : IntsAre vs ns) (hn : ns.length ≤ 63) : Spec w 185 [.ref l] 1 8 (fun h => h.IsList l vs.toArray) (fun h v h' => ∃ D us ms n, v = .ref D ∧ h.get? D = none ∧ h'.get? D = some (listOf us.toArray n) ∧ IntsAre us ms ∧ ms.length = 3 ∧ ∀ x ∈ ms, 0 ≤ x ∧ x < 1000000) := by
  intro p loose mean mg mb dp un gd cn cs a ccd cl outer A₀ base h₀ L m' s Q E B F X T hk hP hd hu hret
  walk_at "P enter"
  walk_at "P steps"
  refine go_of ?_
  rename IsRange _ _ _ _ _ _ _ _ => hr
  rename News _ _ _ [(_, _)] => N₁
  generalize hD : ([(_, _)] : List (Addr × Obj)) = nw at N₁
  obtain ⟨n, en, hn1, hn2⟩ : ∃ n : Nat, (if (ns.length : Int) < 24 then (ns.length : Int) else 24) = (n : Int) ∧ n ≤ 24 ∧ n ≤ ns.length := by
    by_cases c : ns.length < 24
    · exact ⟨ns.length, by rw [if_pos (by omega)], by omega, by omega⟩
    · exact ⟨24, by rw [if_neg (by omega)]; rfl, by omega, by omega⟩
  refine kpr_invN (n := n) (fun i m nx => ∃ us ms n, nx = [(_, listOf us.toArray n)] ∧ IntsAre us ms ∧ ms.length = 3 ∧ (∀ x ∈ ms, 0 ≤ x ∧ x < 1000000) ∧ m "draws" = some (.ref _) ∧ m "script" = some (.ref l)) rfl hr ?_ ?_ (by k_asm) N₁ ⟨_, _, _, hD.symm, .cons _ _ (.cons _ _ (.cons _ _ .nil)), rfl, by decide, rfl, rfl⟩ ?_ ?_
  · exact rng_small en (by omega)
  · exact rng_size en
  · rintro i k t m₁ nx h₁ tk₁ own hi hoff ⟨us, ms, n, rfl, hu', hl, hb, e1, e2⟩ F₁ N₁
    obtain ⟨rfl, hi'⟩ := rng_at hi
    have hi2 : i < 24 ∧ i < ns.length := by omega
    clear hi hi' hr en
    subst hD
    simp only [List.map_cons, List.map_nil] at hoff
    replace N₁ := news_cons N₁
    replace F₁ := fr_names [("k", .int (0 + (i : Int)) t), ("draws", .ref _), ("script", .ref l)] F₁ ⟨nm_eq, nm_ne (y := "draws") (by decide) e1, nm_ne (y := "script") (by decide) e2, trivial⟩
    dsimp only [bindM] at F₁
    walk_at "P steps"
    refine inv_end1 (by k_asm) (by k_asm) ⟨_, _, _, rfl, by assumption, ?_, ?_, rfl, rfl⟩
    · rw [List.length_set]; exact hl
    · intro x hx
      rcases List.mem_or_eq_of_mem_set hx with hx | rfl
      · exact hb x hx
      · exact fmod_mil _
  · rintro m₁ nx h₁ tk₁ ⟨us, ms, n, rfl, hu', hl, hb, e1, e2⟩ F₁ N₁
    replace F₁ := fr_names [("draws", .ref _)] F₁ ⟨e1, trivial⟩
    dsimp only [bindM] at F₁
    walk_at "P steps"
    have q := N₁ _ (.head _)
    exact hret _ _ _ (Fr.keep (by k_asm)) ⟨_, us, ms, _, rfl, q.2.2, q.1, hu', hl, hb⟩
end
section
theorem instAt_keeps {h h' : Heap} {x C : Addr} {ox : Obj} {od : Option Obj} (I : InstAt h x ox C od) (hk : ∀ b o, h.get? b = some o → h'.get? b = some o) : InstAt h' x ox C od := by
  obtain ⟨a, b, c, d⟩ := I
  refine ⟨hk _ _ a, b, c, ?_⟩
  cases e : ox.dict <;> cases od <;> rw [e] at d <;> first | exact d | exact hk _ _ d
section
variable {prog : Program} {w : World} {A : Around} {E : Value → Shared → Prop} {s : Shared} {env : Env} {h₀ : Heap} {L : Addr} {m : Str → Option Value} {news : List (Addr × Obj)} {target : Expr} {body : List Stmt}
theorem inst_base {x C : Addr} {ox : Obj} {od : Option Obj} (F : Fr h₀ L s.heap m) (I : InstAt h₀ x ox C od) : InstAt s.heap x ox C od := instAt_keeps I F.keep
theorem iter_listB {Q : Flow → Shared → Prop} {ax : Addr} {vs : List Value} {m₀ : Str → Option Value}
    (hh : A.handled = none) (F : Fr h₀ env.locals s.heap m₀) (N : News h₀ env.locals s.heap news) (hl₀ : h₀.IsList ax vs.toArray)
    (rest₀ : ∀ I : Addr, (∀ p ∈ news, p.1 < I) → ItemsRest prog w A E h₀ env target body Q s [(I, "list_iterator")] [] (vs.map .val) m₀ news) :
    wpAny (model prog w) A (pyIter (.ref ax)) (fun it s₂ => TurnsAt prog w A h₀ env target body Q E it s₂) E s := by
  obtain ⟨lo, hg, hc, n, hd⟩ := id hl₀
  have hax : s.heap.get? ax = some lo := F.keep _ _ hg
  have hl : s.heap.IsList ax vs.toArray := ⟨lo, hax, hc, n, hd⟩
  have hlt : ax < s.heap.objs.size := Heap.lt_size hax
  have hne : ax ≠ s.heap.objs.size := Nat.ne_of_lt hlt
  refine wpAny_pyIter_list hl ?_
  refine ktg_core (tk0 := s.toks) (keep := []) (KTurns.ofWalks (Walks.list hh s.heap.objs.size ax hne vs.toArray) fun i v s Q E st q => letGo_listiter st.1 q) (by simp) (fun i v h hp => ⟨.val v, ?_, rfl⟩) (fun i h st => ?_) (fun b hb => ?_) (fun b hb => by simpa using hb) (fun b hb => ?_) ?_ (fun p hp hI => ?_) ?_ (F.push _) (fun p hp => ⟨Heap.get?_push_of_some _ (N p hp).1, (N p hp).2⟩) trivial (rest₀ _ fun p hp => Heap.lt_size (N p hp).1)
  · have hp' : vs.toArray[i]? = some v := hp
    simpa using hp'
  · obtain ⟨it, hit, hic, _⟩ := st.1
    exact ⟨[(s.heap.objs.size, it)], ⟨⟨rfl, hic⟩, trivial⟩, fun p hp => by rw [List.mem_singleton.mp hp]; exact hit⟩
  · have hb' : b = s.heap.objs.size := by simpa using hb
    rw [hb']
    exact ⟨List.mem_cons_self .., next_is_new F⟩
  · have hb' : b = s.heap.objs.size ∨ b = ax := by simpa using hb
    rcases hb' with e | e
    · exact .inl (by simp [e])
    · exact .inr (.inr ⟨lo, by rw [e]; exact hg⟩)
  · intro hI
    rcases List.mem_cons.mp hI with e | hI
    · exact absurd F.ns.lt (e ▸ Nat.lt_irrefl _)
    · have e : env.locals = ax := List.mem_singleton.mp hI
      exact absurd (Heap.lt_size hg) (Nat.not_lt.mpr (e ▸ F.above))
  · exact absurd (Heap.lt_size (N p hp).1) ((List.mem_singleton.mp hI) ▸ Nat.lt_irrefl _)
  · exact ⟨⟨_, Heap.get?_push_size _ rfl, rfl, rfl⟩, hl.at fun o e => Heap.get?_push_of_some _ e⟩
theorem unpackB {elts : List Expr} {k} {pos : Pos} {t : Addr} {items : List Value} {Q : Unit → Shared → Prop} (F : Fr h₀ L s.heap m) (N : News h₀ L s.heap news) (ht : IsTup h₀ t items.toArray)
    (hh : A.handled = none) (hn : (assignEach elts env).length = items.toArray.size) (hstar : (assignEach elts env).findIdx? (·.1) = none)
    (h : ∀ h', Fr h₀ L h' m → News h₀ L h' news → wpAny (model prog w) A (assignInOrder ((assignEach elts env).map (·.2)) items) Q E { s with heap := h' }) :
    wpAny (model prog w) A (assign (.Tuple elts k pos) env (.ref t)) Q E s := unpackN_ F N (ht.keeps F.keep) hh hn hstar h
theorem item_tupB {value slice : Expr} {t : Addr} {l : List Value} {k : Int} {u : Tok} {j : Nat} {x : Value} {Q : Value → Shared → Prop} (F : Fr h₀ L s.heap m) (ht : IsTup h₀ t l.toArray)
    (hlo : -(2 ^ 63) ≤ k) (hhi : k < 2 ^ 63) (hj : seqIndex? k l.length = some j) (hx : l[j]? = some x) (h : Q x s)
    (hs : subscripted slice false (.ref t) (.int k u) = operate [.ref t, .int k u] (getItem (.ref t) (.int k u)) := by with_unfolding_all rfl) :
    wpAny (model prog w) A (subscriptTail value slice (.ref t) (.int k u)) Q E s := item_tupleT (ht.keeps F.keep) hlo hhi hj hx h hs
end
local macro_rules | `(tactic| k_inst) => `(tactic| (refine inst_base (by k_asm) (by assumption)))
local macro_rules | `(tactic| walk_at "exec For Tuple Attribute cons nil") => `(tactic| (k_dflt (refine' For_turns (by k_asm) ?_)))
local macro_rules | `(tactic| walk_at "pyIter ref") => `(tactic| ((with_reducible show wpAny _ _ (pyIter (Value.ref _)) (fun it s₂ => TurnsAt _ _ _ _ _ _ _ _ _ it s₂) _ _); (k_dflt (refine' iter_listB (by walk_at "U") (by k_asm) (by k_asm) (by assumption) ?_)); intro i' l1; (try k_lt l1)))
local macro_rules | `(tactic| walk_at "assign Tuple") => `(tactic| ((with_reducible show wpAny _ _ (assign (Expr.Tuple _ _ _) _ (Value.ref _)) _ _ _); (k_dflt (refine' unpackB (by k_asm) (by k_asm) (by assumption) (by walk_at "R") (by walk_at "R") (by walk_at "R") ?_)); intro h' F' N'))
local macro_rules | `(tactic| walk_at "subscriptTail Name Name ref int") => `(tactic| ((with_reducible show wpAny _ _ (subscriptTail _ _ (Value.ref _) (Value.int _ _)) _ _ _); k_dflt (refine' item_tupB (by k_asm) (by assumption) (by decide) (by decide) (by walk_at "R") (by walk_at "R") ?_ (by walk_at "U"))))

structure CompAt (h : Heap) (x : Addr) : Prop where
  ex : ∃ dx l t0 t1 k0 k1 k2 k3 k4 hs, InstAt h x (instObj 75 dx) 75 (some (dictOf [⟨hs, .str "comp_select_list" k4, .ref l⟩] 1)) ∧ h.IsList l [.ref t0, .ref t1].toArray ∧ IsTup h t0 [.int 0 k0, .int 1 k1].toArray ∧ IsTup h t1 [.int 1 k2, .int 1 k3].toArray
noncomputable def lexI (a b c d : Int) : Int := if a < c then -1 else if c < a then 1 else if b < d then -1 else if d < b then 1 else 0
theorem comp_spec (w : World) (x l r : Addr) (a b c d : Int) (ta tb tc td : Tok) : Spec w 72 [.ref x, .ref l, .ref r] 1 8 (fun h => CompAt h x ∧ IsTup h l [.int a ta, .int b tb].toArray ∧ IsTup h r [.int c tc, .int d td].toArray) (fun _ v _ => ∃ t, v = .int (lexI a b c d) t) := by
  intro p loose mean mg mb dp un gd cn cs a9 ccd cl outer A₀ base h₀ L m' s Q E B F X T hk hP hd hu hret
  obtain ⟨⟨dx, l', t0, t1, k0, k1, k2, k3, k4, hs, I, hl, h0, h1⟩, hL, hR⟩ := hP
  walk_at "P enter"
  walk_at "P steps"
  all_goals (
    refine hret _ _ _ (Fr.keep (by k_asm)) ⟨_, congrArg (Value.int · _) ?_⟩
    unfold lexI
    (repeat' split) <;> first | rfl | omega)
theorem nameAt_base {h₀ h : Heap} {L x : Addr} {m : Str → Option Value} {T : Str} (F : Fr h₀ L h m) (n : NameAt h₀ x T) : NameAt h x T := by
  obtain ⟨dx, k4, k5, hs, I⟩ := n
  exact ⟨dx, k4, k5, hs, instAt_keeps I F.keep⟩
theorem compAt_news {h₀ h : Heap} {L x dx l t0 t1 : Addr} {news : List (Addr × Obj)} {hs : Int} {k0 k1 k2 k3 k4 : Tok} {n0 n1 n2 : Nat} (N : News h₀ L h news) (m1 : (x, instObj 75 dx) ∈ news) (m2 : (dx, dictOf [⟨hs, .str "comp_select_list" k4, .ref l⟩] 1) ∈ news)
    (m3 : (l, listOf #[.ref t0, .ref t1] n0) ∈ news) (m4 : (t1, ({ cls := .type "tuple", data := .seq #[.int 1 k2, .int 1 k3] n2 } : Obj)) ∈ news) (m5 : (t0, ({ cls := .type "tuple", data := .seq #[.int 0 k0, .int 1 k1] n1 } : Obj)) ∈ news) : CompAt h x :=
  ⟨⟨_, _, _, _, _, _, _, _, _, _, InstAt.of_news N m1 m2, ⟨_, (N _ m3).1, rfl, _, rfl⟩, ⟨_, (N _ m5).1, rfl, _, rfl⟩, ⟨_, (N _ m4).1, rfl, _, rfl⟩⟩⟩
local macro_rules | `(tactic| walk_at "call ref") => `(tactic| refine stop_of ?_)
theorem gt_spec (w : World) (x y : Addr) (Tx Ty : Str) : Spec w 164 [.ref x, .ref y] 1 8 (fun h => NameAt h x Tx ∧ NameAt h y Ty) (fun _ v _ => v = .bool (decide (Ty.cps.toList < Tx.cps.toList))) := by
  intro p loose mean mg mb dp un gd cn cs a9 ccd cl outer A₀ base h₀ L m' s Q E B F X T hk hP hd hu hret
  obtain ⟨⟨dx, k4, k5, hs, Ix⟩, ⟨dy, l4, l5, ht, Iy⟩⟩ := hP
  walk_at "P enter"
  walk_at "P steps"
  exact hret _ _ _ (Fr.keep (by k_asm)) rfl
theorem cmpBack_bool {Q : Value → Shared → Prop} {b : Bool} {s : Shared} (h : Q (.bool b) s) : W.CmpBack Q (.bool b) s := h
end
section
theorem split4 {prog : Program} {w : World} {A : Around} {E : Value → Shared → Prop} {s : Shared} {h₀ : Heap} {L : Addr} {m : Str → Option Value} {news : List (Addr × Obj)} {x y a b c d : Str} {t u : Tok} {Q : Value → Shared → Prop}
    (hF : Fr h₀ L s.heap m) (hN : News h₀ L s.heap news) (hy : (y.length == 0) = false) (hs : Txt.split x y = [a, b, c, d])
    (h : ∀ D t0 t1 t2 t3 h' k, Fr h₀ L h' m → News h₀ L h' ((D, W.listOf #[.str a t0, .str b t1, .str c t2, .str d t3] 0) :: news) → (∀ p ∈ news, p.1 < D) → Q (.ref D) { s with heap := h', toks := k }) (hsz : x.length + 2 ≤ sizeLine) :
    wpAny (model prog w) A (call (.builtin "str.split") [.str x t, .str y u]) Q E s := by
  refine KSpl.split1 hF hN hy (fun D l h' k e _ F N lt => ?_) hsz
  rw [hs] at e
  obtain ⟨t0, l0, q0, e⟩ := KSpl.cons_of e
  obtain ⟨t1, l1, q1, e⟩ := KSpl.cons_of e
  obtain ⟨t2, l2, q2, e⟩ := KSpl.cons_of e
  obtain ⟨t3, l3, q3, e⟩ := KSpl.cons_of e
  have q4 := KSpl.nil_of e
  subst q4 q3 q2 q1 q0
  exact h D t0 t1 t2 t3 h' k F N lt
noncomputable def find4 (x y : Str) (i j : Int) : Int := match Builtin.Str.occurrences x y (fromIndex x.length i) (min (fromIndex x.length j) x.length) 1 with | k :: _ => (k : Int) | [] => -1
theorem gives_find4 (x y : Str) (i j : Int) (t u v v' : Tok) : Gives (Builtin.«str.find» ⟨[.str x t, .str y u, .int i v, .int j v'], []⟩) (.int (find4 x y i j)) := by
  show Gives (match Builtin.Str.occurrences x y (fromIndex x.length i) (min (fromIndex x.length j) x.length) 1 with | k :: _ => retInt k | [] => (do rule "str.find.not-found"; retInt (-1))) _
  unfold find4
  cases Builtin.Str.occurrences x y (fromIndex x.length i) (min (fromIndex x.length j) x.length) 1 with
  | nil => exact .rule (.of_eq rfl)
  | cons k _ => exact .of_eq rfl
theorem call_find4 {prog : Program} {w : World} {A : Around} {E : Value → Shared → Prop} {s : Shared} {x y : Str} {t u v v' : Tok} {i j : Int} {Q : Value → Shared → Prop} (hq : Q (.int (find4 x y i j) s.toks) { s with toks := s.toks + 1 }) :
    wpAny (model prog w) A (call (.builtin "str.find") [.str x t, .str y u, .int i v, .int j v']) Q E s :=
  call_gives F.slot_str_find (typeIs_str _ _ _) F.entry_str_find (F.args_str_find_4 _ _ _ _) (gives_find4 x y i j t u v v') hq
local macro_rules | `(tactic| walk_at "call builtin:str.find") => `(tactic| refine call_find4 ?_)
local macro_rules | `(tactic| walk_at "call builtin:str.split") => `(tactic| (k_dflt (refine' split4 (by k_asm) (by k_asm) (by decide) (by walk_at "S") ?_ (by size_fits)); intro D' _ _ _ _ h' k' F' N' l1; (try k_lt l1); (try k_sweep)))
noncomputable def ellB (y b c : Str) : Bool :=
  if find4 y "" 0 (y.length : Int) < 0 then false
  else if find4 y b (find4 y "" 0 (y.length : Int) + ((0 : Nat) : Int)) (y.length : Int) < 0 then false
  else if find4 y c (find4 y b (find4 y "" 0 (y.length : Int) + ((0 : Nat) : Int)) (y.length : Int) + (b.length : Int)) (y.length : Int) < 0 then false
  else if find4 y "" (find4 y c (find4 y b (find4 y "" 0 (y.length : Int) + ((0 : Nat) : Int)) (y.length : Int) + (b.length : Int)) (y.length : Int) + (c.length : Int)) (y.length : Int) < 0 then false
  else true
section
variable {y b c : Str}
theorem ell0 (h : find4 y "" 0 (y.length : Int) < 0) : Value.bool false = Value.bool (ellB y b c) := by
  unfold ellB; rw [if_pos h]
theorem ell1 (h : ¬ find4 y "" 0 (y.length : Int) < 0) (h1 : find4 y b (find4 y "" 0 (y.length : Int) + ((0 : Nat) : Int)) (y.length : Int) < 0) : Value.bool false = Value.bool (ellB y b c) := by
  unfold ellB; rw [if_neg h, if_pos h1]
theorem ell2 (h : ¬ find4 y "" 0 (y.length : Int) < 0) (h1 : ¬ find4 y b (find4 y "" 0 (y.length : Int) + ((0 : Nat) : Int)) (y.length : Int) < 0)
    (h2 : find4 y c (find4 y b (find4 y "" 0 (y.length : Int) + ((0 : Nat) : Int)) (y.length : Int) + (b.length : Int)) (y.length : Int) < 0) : Value.bool false = Value.bool (ellB y b c) := by
  unfold ellB; rw [if_neg h, if_neg h1, if_pos h2]
theorem ell3 (h : ¬ find4 y "" 0 (y.length : Int) < 0) (h1 : ¬ find4 y b (find4 y "" 0 (y.length : Int) + ((0 : Nat) : Int)) (y.length : Int) < 0)
    (h2 : ¬ find4 y c (find4 y b (find4 y "" 0 (y.length : Int) + ((0 : Nat) : Int)) (y.length : Int) + (b.length : Int)) (y.length : Int) < 0)
    (h3 : find4 y "" (find4 y c (find4 y b (find4 y "" 0 (y.length : Int) + ((0 : Nat) : Int)) (y.length : Int) + (b.length : Int)) (y.length : Int) + (c.length : Int)) (y.length : Int) < 0) : Value.bool false = Value.bool (ellB y b c) := by
  unfold ellB; rw [if_neg h, if_neg h1, if_neg h2, if_pos h3]
theorem ell4 (h : ¬ find4 y "" 0 (y.length : Int) < 0) (h1 : ¬ find4 y b (find4 y "" 0 (y.length : Int) + ((0 : Nat) : Int)) (y.length : Int) < 0)
    (h2 : ¬ find4 y c (find4 y b (find4 y "" 0 (y.length : Int) + ((0 : Nat) : Int)) (y.length : Int) + (b.length : Int)) (y.length : Int) < 0)
    (h3 : ¬ find4 y "" (find4 y c (find4 y b (find4 y "" 0 (y.length : Int) + ((0 : Nat) : Int)) (y.length : Int) + (b.length : Int)) (y.length : Int) + (c.length : Int)) (y.length : Int) < 0) : Value.bool true = Value.bool (ellB y b c) := by
  unfold ellB; rw [if_neg h, if_neg h1, if_neg h2, if_neg h3]
end
theorem ell_spec (w : World) (x y b c : Str) (t u : Tok) (hx : x.length ≤ 100) (hy : y.length ≤ 1000) (hs : Txt.split x "..." = [("" : Str), b, c, ""]) (hb : b.length ≤ 100) (hc : c.length ≤ 100) (ho : (Builtin.Str.occurrences x "..." 0 x.length 1).isEmpty = false) :
    Spec w 51 [.str x t, .str y u] 1 8 (fun _ => True) (fun _ v _ => v = .bool (ellB y b c)) := by
  intro p loose mean mg mb dp un gd cn cs a ccd cl outer A₀ base h₀ L m' s Q E B F X T hk hP hd hu hret
  walk_at "P enter"
  walk_at "P steps"
  all_goals (
    refine hret _ _ _ (Fr.keep (by k_asm)) ?_
    first
      | with_reducible exact ell0 (by assumption)
      | with_reducible exact ell1 (by assumption) (by assumption)
      | with_reducible exact ell2 (by assumption) (by assumption) (by assumption)
      | with_reducible exact ell3 (by assumption) (by assumption) (by assumption) (by assumption)
      | with_reducible exact ell4 (by assumption) (by assumption) (by assumption) (by assumption))
end
section
noncomputable def mx (a b : Int) : Int := if b > a then b else a
noncomputable def mn (a b : Int) : Int := if b < a then b else a
section
variable {prog : Program} {w : World} {A : Around} {E : Value → Shared → Prop} {s : Shared} {h₀ : Heap} {L D : Addr} {m : Str → Option Value} {news news' : List (Addr × Obj)}
theorem max_mx {a b : Int} {t u : Tok} {Q : Value → Shared → Prop} (hh : A.handled = none) (F : Fr h₀ L s.heap m) (N : News h₀ L s.heap news)
    (h : ∀ h' k t', Fr h₀ L h' m → News h₀ L h' news → Q (.int (mx a b) t') { s with heap := h', toks := k }) : wpAny (model prog w) A (call (.builtin "max") [.int a t, .int b u]) Q E s :=
  max_two_N hh F N fun h' k F' N' => h h' k _ F' N'
theorem min_mn {a b : Int} {t u : Tok} {Q : Value → Shared → Prop} (hh : A.handled = none) (F : Fr h₀ L s.heap m) (N : News h₀ L s.heap news)
    (h : ∀ h' k t', Fr h₀ L h' m → News h₀ L h' news → Q (.int (mn a b) t') { s with heap := h', toks := k }) : wpAny (model prog w) A (call (.builtin "min") [.int a t, .int b u]) Q E s :=
  min_two_N hh F N fun h' k F' N' => h h' k _ F' N'
end
theorem mn_mx (a b : Int) : mn a b ≤ mx a b := by unfold mn mx; split <;> split <;> omega
theorem mx_lo {a b c : Int} (h1 : c ≤ a) (h2 : c ≤ b) : c ≤ mx a b := by unfold mx; split <;> omega
theorem mx_hi {a b c : Int} (h1 : a < c) (h2 : b < c) : mx a b < c := by unfold mx; split <;> omega
theorem mn_lo {a b c : Int} (h1 : c ≤ a) (h2 : c ≤ b) : c ≤ mn a b := by unfold mn; split <;> omega
theorem mn_hi {a b c : Int} (h1 : a < c) (h2 : b < c) : mn a b < c := by unfold mn; split <;> omega
section
variable {prog : Program} {w : World} {A : Around} {E : Value → Shared → Prop} {s : Shared} {h₀ : Heap} {L D a : Addr} {m : Str → Option Value} {news : List (Addr × Obj)} {xs : List Addr} {k : Int} {u : Tok} {value slice : PySem.Expr} {Q : Value → Shared → Prop}
theorem refs_get {j : Nat} (h : j < xs.length) : (xs.map Value.ref)[j]? = some (.ref (xs.getD j 0)) := by
  rw [List.getElem?_map, List.getD_eq_getElem?_getD, List.getElem?_eq_getElem h]
  rfl
theorem item_refsB (F : Fr h₀ L s.heap m) (hl : h₀.IsList a (xs.map Value.ref).toArray) (h0 : 0 ≤ k) (h1 : k < xs.length) (hfit : k < 2 ^ 63) (h : Q (.ref (xs.getD k.toNat 0)) s)
    (hs : subscripted slice false (.ref a) (.int k u) = operate [.ref a, .int k u] (getItem (.ref a) (.int k u)) := by with_unfolding_all rfl) (hg : ∀ r, letTemporaryGo value (.ref a) r = pure () := by intro _; with_unfolding_all rfl) :
    wpAny (model prog w) A (subscriptTail value slice (.ref a) (.int k u)) Q E s :=
  item_listL (hl.at fun o e => F.keep _ _ e) h0 hfit (refs_get (by omega)) h hs hg
theorem item_refsN {n : Nat} (N : News h₀ L s.heap news) (hm : (a, ({ cls := .type "list", data := .seq (xs.map Value.ref).toArray n } : Obj)) ∈ news) (h0 : 0 ≤ k) (h1 : k < xs.length) (hfit : k < 2 ^ 63) (h : Q (.ref (xs.getD k.toNat 0)) s)
    (hs : subscripted slice false (.ref a) (.int k u) = operate [.ref a, .int k u] (getItem (.ref a) (.int k u)) := by with_unfolding_all rfl) (hg : ∀ r, letTemporaryGo value (.ref a) r = pure () := by intro _; with_unfolding_all rfl) :
    wpAny (model prog w) A (subscriptTail value slice (.ref a) (.int k u)) Q E s :=
  item_listL ⟨_, (N _ hm).1, rfl, n, rfl⟩ h0 hfit (refs_get (by omega)) h hs hg
theorem item_intsB {vs : List Value} {ns : List Int} (F : Fr h₀ L s.heap m) (hl : h₀.IsList a vs.toArray) (hi : IntsAre vs ns) (h0 : 0 ≤ k) (h1 : k < ns.length) (hfit : k < 2 ^ 63) (h : ∀ t, Q (.int (ns.getD k.toNat 0) t) s)
    (hs : subscripted slice false (.ref a) (.int k u) = operate [.ref a, .int k u] (getItem (.ref a) (.int k u)) := by with_unfolding_all rfl) :
    wpAny (model prog w) A (subscriptTail value slice (.ref a) (.int k u)) Q E s :=
  item_anyK (hl.at fun o e => F.keep _ _ e) hi h0 h1 hfit h hs
end
end
section
open PySem.Builtin.Str PySem.StrLaws in
theorem want_occ {a b c d : Nat} (ha : a ≠ 46) (hb : b ≠ 46) (hc : c ≠ 46) (hd : d ≠ 46) :
    occurrences ⟨#[46, 46, 46, 123, 100, 101, 99, 107, 125, a, b, 46, 46, 46, 123, 100, 101, 99, 107, 125, c, d, 46, 46, 46]⟩ ⟨#[46, 46, 46]⟩ 0 25 26 = [0, 11, 22] := by
  rw [occ_eq]
  have e : List.range' 0 (25 + 1 - 0) = [0, 1, 2, 3, 4, 5, 6, 7, 8, 9, 10, 11, 12, 13, 14, 15, 16, 17, 18, 19, 20, 21, 22, 23, 24, 25] := by decide
  rw [e]
  simp [List.forIn_cons, occBody, subAt_eq, Str.length, ha, hb, hc, hd]
theorem str_of_list {x y : Str} (h : x.cps.toList = y.cps.toList) : x = y := by
  obtain ⟨⟨x⟩⟩ := x
  obtain ⟨⟨y⟩⟩ := y
  have : x = y := h
  rw [this]
open PySem.Builtin.Str in
theorem want_split {a b c d : Nat} (ha : a ≠ 46) (hb : b ≠ 46) (hc : c ≠ 46) (hd : d ≠ 46) :
    Txt.split ⟨#[46, 46, 46, 123, 100, 101, 99, 107, 125, a, b, 46, 46, 46, 123, 100, 101, 99, 107, 125, c, d, 46, 46, 46]⟩ ⟨#[46, 46, 46]⟩ = [⟨#[]⟩, ⟨#[123, 100, 101, 99, 107, 125, a, b]⟩, ⟨#[123, 100, 101, 99, 107, 125, c, d]⟩, ⟨#[]⟩] := by
  have h1 : Builtin.Str.strKind ⟨#[46, 46, 46]⟩ = 1 := by decide +kernel
  have h2 : ∀ x : Str, ¬ Builtin.Str.strKind x < 1 := by
    intro x
    unfold Builtin.Str.strKind
    split
    · omega
    · split <;> omega
  have o := want_occ ha hb hc hd
  unfold Txt.split
  rw [h1, if_neg (by simp [Str.length, h2])]
  have l1 : (⟨#[46, 46, 46, 123, 100, 101, 99, 107, 125, a, b, 46, 46, 46, 123, 100, 101, 99, 107, 125, c, d, 46, 46, 46]⟩ : Str).length = 25 := rfl
  rw [l1, o]
  rfl
end
section
noncomputable abbrev St := List Int × List Int × List Int
noncomputable def cardT (c : Int) : Str := ("{deck}" : Str) ++ pad2 c
noncomputable def wantT (P Q : Int) : Str := (((("...{deck}" : Str) ++ pad2 P) ++ ("...{deck}" : Str)) ++ pad2 Q) ++ ("..." : Str)
theorem card_len (c : Int) : (cardT c).length ≤ 100 := by
  have : (cardT c).length = (("{deck}" : Str).cps ++ (pad2 c).cps).size := rfl
  rw [this, Array.size_append]
  exact (by decide : 6 + 2 ≤ 100)
theorem wantT_eq (P Q : Int) : wantT P Q = ⟨#[46, 46, 46, 123, 100, 101, 99, 107, 125, 48 + P.toNat / 10, 48 + P.toNat % 10, 46, 46, 46, 123, 100, 101, 99, 107, 125, 48 + Q.toNat / 10, 48 + Q.toNat % 10, 46, 46, 46]⟩ := by
  apply str_of_list
  have e : (wantT P Q).cps = (((("...{deck}" : Str).cps ++ (pad2 P).cps) ++ ("...{deck}" : Str).cps) ++ (pad2 Q).cps) ++ ("..." : Str).cps := rfl
  rw [e, Array.toList_append, Array.toList_append, Array.toList_append, Array.toList_append]
  rfl
theorem cardT_eq (P : Int) : cardT P = ⟨#[123, 100, 101, 99, 107, 125, 48 + P.toNat / 10, 48 + P.toNat % 10]⟩ := by
  apply str_of_list
  have e : (cardT P).cps = ("{deck}" : Str).cps ++ (pad2 P).cps := rfl
  rw [e, Array.toList_append]
  rfl
theorem want_at (P Q : Int) : Txt.split (wantT P Q) "..." = [("" : Str), cardT P, cardT Q, ""] ∧ (Builtin.Str.occurrences (wantT P Q) "..." 0 (wantT P Q).length 1).isEmpty = false ∧ (wantT P Q).length ≤ 100 := by
  have e3 : ("..." : Str) = ⟨#[46, 46, 46]⟩ := by decide
  have e0 : ("" : Str) = ⟨#[]⟩ := by decide
  have n1 : ∀ n : Nat, 48 + n ≠ 46 := by omega
  rw [wantT_eq, cardT_eq, cardT_eq, e3, e0]
  refine ⟨want_split (n1 _) (n1 _) (n1 _) (n1 _), ?_, show (25 : Nat) ≤ 100 by decide⟩
  have f := (PySem.StrLaws.found_iff ⟨#[46, 46, 46, 123, 100, 101, 99, 107, 125, 48 + P.toNat / 10, 48 + P.toNat % 10, 46, 46, 46, 123, 100, 101, 99, 107, 125, 48 + Q.toNat / 10, 48 + Q.toNat % 10, 46, 46, 46]⟩ ⟨#[46, 46, 46]⟩).mpr ⟨0, show (3 : Nat) ≤ 25 by decide, by rw [PySem.StrLaws.subAt_eq]; rfl⟩
  rw [Bool.not_eq_true'] at f
  exact f
/-- one turn of the inner loop: place p against place q -/
noncomputable def stepB (line : Str) (ds os : List Int) (Ts : List Str) (q p : Nat) (st : St) : St :=
  (if ellB line (cardT (mx (ds.getD (0 + (p : Int)).toNat 0) (ds.getD (0 + (q : Int)).toNat 0))) (cardT (mn (ds.getD (0 + (p : Int)).toNat 0) (ds.getD (0 + (q : Int)).toNat 0))) = true then st.1.set (mx (ds.getD (0 + (p : Int)).toNat 0) (ds.getD (0 + (q : Int)).toNat 0)).toNat (st.1.getD (mx (ds.getD (0 + (p : Int)).toNat 0) (ds.getD (0 + (q : Int)).toNat 0)).toNat 0 + 1) else st.1,
   if (Ts.getD (0 + (q : Int)).toNat "").cps.toList < (Ts.getD (0 + (p : Int)).toNat "").cps.toList then st.2.1.set (ds.getD (0 + (p : Int)).toNat 0).toNat (st.2.1.getD (ds.getD (0 + (p : Int)).toNat 0).toNat 0 + 1) else st.2.1,
   if 0 < lexI ((os.getD (ds.getD (0 + (p : Int)).toNat 0).toNat 0).fdiv 3600) ((os.getD (ds.getD (0 + (p : Int)).toNat 0).toNat 0).fmod 3600) ((os.getD (ds.getD (0 + (q : Int)).toNat 0).toNat 0).fdiv 3600) ((os.getD (ds.getD (0 + (q : Int)).toNat 0).toNat 0).fmod 3600) then st.2.2.set (ds.getD (0 + (p : Int)).toNat 0).toNat (st.2.2.getD (ds.getD (0 + (p : Int)).toNat 0).toNat 0 + 1) else st.2.2)
theorem stepB_len {line : Str} {ds os : List Int} {Ts : List Str} {q p : Nat} {st : St} {n : Nat} (h : st.1.length = n ∧ st.2.1.length = n ∧ st.2.2.length = n) : (stepB line ds os Ts q p st).1.length = n ∧ (stepB line ds os Ts q p st).2.1.length = n ∧ (stepB line ds os Ts q p st).2.2.length = n := by
  obtain ⟨h1, h2, h3⟩ := h
  unfold stepB
  refine ⟨?_, ?_, ?_⟩
  · dsimp only; split
    · rw [List.length_set]; exact h1
    · exact h1
  · dsimp only; split
    · rw [List.length_set]; exact h2
    · exact h2
  · dsimp only; split
    · rw [List.length_set]; exact h3
    · exact h3
noncomputable def runI (line : Str) (ds os : List Int) (Ts : List Str) (q : Nat) : Nat → St → St
  | 0, st => st
  | p + 1, st => stepB line ds os Ts q p (runI line ds os Ts q p st)
noncomputable def runO (line : Str) (ds os : List Int) (Ts : List Str) : Nat → St → St
  | 0, st => st
  | q + 1, st => runI line ds os Ts q q (runO line ds os Ts q st)
end
section
local macro_rules | `(tactic| walk_at "CompSrc") => `(tactic| refine stop_of ?_)
local macro_rules | `(tactic| k_inst) => `(tactic| (refine inst_base (by k_asm) (by assumption)))
local macro_rules | `(tactic| walk_at "exec For Tuple Attribute cons nil") => `(tactic| (k_dflt (refine' For_turns (by k_asm) ?_)))
local macro_rules | `(tactic| walk_at "pyIter ref") => `(tactic| ((with_reducible show wpAny _ _ (pyIter (Value.ref _)) (fun it s₂ => TurnsAt _ _ _ _ _ _ _ _ _ it s₂) _ _); (k_dflt (refine' iter_listB (by walk_at "U") (by k_asm) (by k_asm) (by assumption) ?_)); intro i' l1; (try k_lt l1)))
local macro_rules | `(tactic| walk_at "assign Tuple") => `(tactic| ((with_reducible show wpAny _ _ (assign (Expr.Tuple _ _ _) _ (Value.ref _)) _ _ _); (k_dflt (refine' unpackB (by k_asm) (by k_asm) (by assumption) (by walk_at "R") (by walk_at "R") (by walk_at "R") ?_)); intro h' F' N'))
local macro_rules | `(tactic| walk_at "subscriptTail Name Name ref int") => `(tactic| ((with_reducible show wpAny _ _ (subscriptTail _ _ (Value.ref _) (Value.int _ _)) _ _ _); k_dflt (refine' item_tupB (by k_asm) (by assumption) (by decide) (by decide) (by walk_at "R") (by walk_at "R") ?_ (by walk_at "U"))))

local macro_rules | `(tactic| walk_at "call builtin:str.join") => `(tactic| (k_dflt (refine' join_listW (by exact News.isList (by k_asm) (by k_mem)) (by assumption) (by decide) (by omega) ?_); intro _ _))
local macro_rules | `(tactic| walk_at "P deep") => `(tactic| (refine' code_def (by k_asm) (by k_asm) (by k_asm) (by k_asm) (by k_asm) (by walk_at "R") (by walk_at "R") (by walk_at "R") (by k_is) (by k_is) (by ktr_room) (by first | exact BindsTo.of_eq rfl | exact binds_K (by k_in) rfl (by k_is) rfl rfl rfl) (by exact locs rfl) ?_ (by walk_at "R") (by walk_at "R") (by walk_at "R") (by decide); k_whole; intro g' L' h' FG' F' N' B' X' T'; (try dsimp only); (try k_fold)))
local macro_rules | `(tactic| walk_at "call ref") => `(tactic| (first | (k_dflt (refine' call_cls (by k_asm) (by k_asm) (by k_asm) (by k_is) (by k_is) (by k_is) ?_; k_whole; intro x' d' h' F' N' l1 l2; (try k_lt l1); (try k_lt2 l2); (try k_sweep); walk_at "P deep")) | refine stop_of ?_))

local macro_rules | `(tactic| walk_at "pyIter ref") => `(tactic| refine stop_of ?_)

local macro_rules | `(tactic| k_all) => `(tactic| assumption)
local macro_rules | `(tactic| walk_at "call builtin:max") => `(tactic| (k_dflt (refine' max_mx (by walk_at "U") (by k_asm) (by k_asm) ?_); intro h' k' t' F' N'))
local macro_rules | `(tactic| walk_at "call builtin:min") => `(tactic| (k_dflt (refine' min_mn (by walk_at "U") (by k_asm) (by k_asm) ?_); intro h' k' t' F' N'))
local macro_rules | `(tactic| walk_at "setItem ref int") => `(tactic| (k_dflt (refine' ksa_set (by k_asm) (by k_asm) (by k_upd) (by walk_at "S") (by walk_at "A") (by walk_at "A") (by walk_at "A") ?_); intro h' F' N' hi' hl' hs'))
local macro_rules | `(tactic| walk_at "getItem ref int") => `(tactic| (k_dflt (refine' ksa_get (by k_asm) (by k_mem) (by walk_at "S") (by walk_at "A") (by walk_at "A") (by walk_at "A") ?_); intro _))
local macro_rules | `(tactic| walk_at "subscriptTail Name Name ref int") => `(tactic| (k_dflt (first
  | (refine' item_intsB (by k_asm) (by walk_at "S") (by walk_at "S") (by walk_at "A") (by walk_at "A") (by walk_at "A") ?_ (by walk_at "U"); intro _)
  | (refine' item_refsB (by k_asm) (by walk_at "S") (by walk_at "A") (by walk_at "A") (by walk_at "A") ?_ (by walk_at "U") (by walk_at "V")))))
local macro_rules | `(tactic| walk_at "subscriptTail Name Subscript ref int") => `(tactic| (k_dflt (refine' item_refsN (by k_asm) (by k_mem) (by walk_at "A") (by walk_at "A") (by walk_at "A") ?_ (by walk_at "U") (by walk_at "V"))))
local macro_rules | `(tactic| walk_at "compareOp Gt ref") => `(tactic| ((refine cmp_ofGt ?_); k_dflt (refine' cmp_K (by ktr_units) (by k_asm) (by k_asm) (by (refine inst_base (by k_asm) (by assumption))) (by exact InstAt.type (inst_base (by k_asm) (by assumption))) (by k_is) (by k_is) (by k_is) ?_)))
local macro_rules | `(tactic| k_mem) => `(tactic| ((with_reducible show List.Mem _ (_ ++ _)); assumption))

local macro_rules | `(tactic| walk_at "binaryOp Mod str ref") => `(tactic| (k_dflt (refine' KPt.mod_tuple (X' := sE) (by k_asm) (by k_mem) (by decide +kernel) (by (refine fmtE _ _ _ _ _ _ ?_ ?_ ?_ ?_ <;> walk_at "D")) ?_); intro _ _))

theorem lt100 {a : Int} {n : Nat} (h : a < (n : Int)) (hn : n ≤ 12) : a < 100 := by omega
theorem tn {j n : Nat} (h : j < n) : (0 + (j : Int)).toNat < n := by omega
theorem tl {a : Int} {n : Nat} (h0 : 0 ≤ a) (h : a < (n : Int)) : a.toNat < n := by omega
theorem lt63 {a : Int} {n : Nat} (h : a < (n : Int)) (hn : n ≤ 12) : a < 2 ^ 63 := by omega
theorem z0 (j : Nat) : (0 : Int) ≤ 0 + (j : Int) := by omega
theorem lt_cast {j n : Nat} (h : j < n) : 0 + (j : Int) < (n : Int) := by omega
theorem lt_of_len {a : Int} {n m : Nat} (h : a < (n : Int)) (e : m = n) : a < (m : Int) := e ▸ h
/-- behind an if that may store into one list of the ledger -/
noncomputable def JoinAt (h₀ : Heap) (L : Addr) (m : Str → Option Value) (g : Obj → List (Addr × Obj)) (C : List Value → Prop) (s : Shared) (f : Flow) (s' : Shared) : Prop :=
  f = .next ∧ ∃ h' tk xv n, s' = { s with heap := h', toks := tk } ∧ Fr h₀ L h' m ∧ News h₀ L h' (g (listOf xv.toArray n)) ∧ C xv
section
variable {M : Model} {A : Around} {E : Value → Shared → Prop} {s : Shared} {env : Env} {h₀ : Heap} {L D1 D2 D3 : Addr} {m : Str → Option Value} {ox oy oz : Obj} {r : List (Addr × Obj)} {st : Stmt} {Q : Flow → Shared → Prop}
theorem join_end {g : Obj → List (Addr × Obj)} {C : List Value → Prop} {h' : Heap} {tk n : Nat} {xv : List Value} (F : Fr h₀ L h' m) (N : News h₀ L h' (g (listOf xv.toArray n))) (c : C xv) : JoinAt h₀ L m g C s .next { s with heap := h', toks := tk } := ⟨rfl, h', tk, xv, n, rfl, F, N, c⟩
theorem join_any {g : Obj → List (Addr × Obj)} (C : List Value → Prop) (h : wpAny M A (exec st env) (JoinAt h₀ L m g C s) E s)
    (k : ∀ h' tk xv n, Fr h₀ L h' m → News h₀ L h' (g (listOf xv.toArray n)) → C xv → Q .next { s with heap := h', toks := tk }) : wpAny M A (exec st env) Q E s :=
  wpAny_mono h (fun _ _ q => by obtain ⟨rfl, h', tk, xv, n, rfl, F, N, c⟩ := q; exact k h' tk xv n F N c) fun _ _ e => e
theorem join_1 (C : List Value → Prop) (_F : Fr h₀ L s.heap m) (_N : News h₀ L s.heap ((D3, oz) :: (D2, oy) :: (D1, ox) :: r)) (h : wpAny M A (exec st env) (JoinAt h₀ L m (fun o => (D3, oz) :: (D2, oy) :: (D1, o) :: r) C s) E s)
    (k : ∀ h' tk xv n, Fr h₀ L h' m → News h₀ L h' ((D3, oz) :: (D2, oy) :: (D1, listOf xv.toArray n) :: r) → C xv → Q .next { s with heap := h', toks := tk }) : wpAny M A (exec st env) Q E s := join_any C h k
theorem join_2 (C : List Value → Prop) (_F : Fr h₀ L s.heap m) (_N : News h₀ L s.heap ((D3, oz) :: (D2, oy) :: (D1, ox) :: r)) (h : wpAny M A (exec st env) (JoinAt h₀ L m (fun o => (D3, oz) :: (D2, o) :: (D1, ox) :: r) C s) E s)
    (k : ∀ h' tk xv n, Fr h₀ L h' m → News h₀ L h' ((D3, oz) :: (D2, listOf xv.toArray n) :: (D1, ox) :: r) → C xv → Q .next { s with heap := h', toks := tk }) : wpAny M A (exec st env) Q E s := join_any C h k
theorem join_3 (C : List Value → Prop) (_F : Fr h₀ L s.heap m) (_N : News h₀ L s.heap ((D3, oz) :: (D2, oy) :: (D1, ox) :: r)) (h : wpAny M A (exec st env) (JoinAt h₀ L m (fun o => (D3, o) :: (D2, oy) :: (D1, ox) :: r) C s) E s)
    (k : ∀ h' tk xv n, Fr h₀ L h' m → News h₀ L h' ((D3, listOf xv.toArray n) :: (D2, oy) :: (D1, ox) :: r) → C xv → Q .next { s with heap := h', toks := tk }) : wpAny M A (exec st env) Q E s := join_any C h k
end
local macro_rules | `(tactic| walk_at "exec If") => `(tactic| refine stop_of ?_)
theorem beh_spec (w : World) (d nm of : Addr) (dv ov : List Value) (xs : List Addr) (ds os : List Int) (Ts : List Str) (hT : Ts.length ≤ 12) (hO : os.length ≤ 12) (hL : (Txt.join " " Ts).length ≤ 1000) (hD : ds.length ≤ 12) (hdT : Ts.length = ds.length) (hds : ∀ x ∈ ds, 1 ≤ x ∧ x < (os.length : Int)) (hw : (Ts.map (·.length)).sum + Ts.length ≤ 1000) (hd1 : IntsAre dv ds) (ho1 : IntsAre ov os) :
    Spec w 211 [.ref d, .ref nm, .ref of] 4 60 (fun h => h.IsList d dv.toArray ∧ h.IsList of ov.toArray ∧ h.IsList nm (xs.map Value.ref).toArray ∧ xs.length = Ts.length ∧ ∀ i, i < Ts.length → NameAt h (xs.getD i 0) (Ts.getD i "")) (fun h v h' => ∃ T D1 D2 D3 xv tv zv n1 n2 n3 nT, v = .ref T ∧ h.get? T = none ∧ h'.get? T = some ({ cls := .type "tuple", data := .seq #[.ref D1, .ref D2, .ref D3] nT } : Obj) ∧ h.get? D1 = none ∧ h'.get? D1 = some (listOf xv.toArray n1) ∧ h.get? D2 = none ∧ h'.get? D2 = some (listOf tv.toArray n2) ∧ h.get? D3 = none ∧ h'.get? D3 = some (listOf zv.toArray n3) ∧
      IntsAre xv (runO (Txt.join " " Ts) ds os Ts ds.length (List.replicate os.length 0, List.replicate os.length 0, List.replicate os.length 0)).1 ∧ IntsAre tv (runO (Txt.join " " Ts) ds os Ts ds.length (List.replicate os.length 0, List.replicate os.length 0, List.replicate os.length 0)).2.1 ∧ IntsAre zv (runO (Txt.join " " Ts) ds os Ts ds.length (List.replicate os.length 0, List.replicate os.length 0, List.replicate os.length 0)).2.2) := by
  intro p loose mean mg mb dp un gd cn cs a9 ccd cl outer A₀ base h₀ L m' s Q E B F X T hk hP hd hu hret
  obtain ⟨hd2, ho2, hn2, hnl, hna⟩ := hP
  walk_at "P enter"
  walk_at "P steps"
  refine go_of ?_
  refine LCg.CompSrc.base rfl (by k_asm) (by k_asm) hn2 (by rw [PySem.sizeLine_eq]; simp; omega) ?_
  intro g9
  refine rest_ind (fun i ys news => news = [] ∧ StrsAre ys (Ts.take i)) ?_ ?_ ⟨rfl, .nil⟩
  · rintro i ys news v I oI C oC D m₂ h tk E' hi ⟨rfl, hys⟩ hv hC hx F N off ne
    obtain ⟨rfl, hi'⟩ := refs_at hv
    obtain ⟨dx, k4, k5, hs, In⟩ := (hna i (by omega)).ex
    walk_at "P steps"
    exact strs_to (strs_snoc hys) (take_snoc (by omega)).symm
  · rintro ys news ⟨rfl, hys⟩
    have hys : StrsAre ys Ts := strs_to hys (by rw [List.take_of_length_le]; simp; omega)
    walk_at "P steps"
    refine go_of ?_
    rename News _ _ _ ((_, instObj _ _) :: _) => N1
    generalize hcN : ((_, instObj _ _) :: _ : List (Addr × Obj)) = cN at N1
    have m1 := mem_eq0 hcN
    have m2 := mem_eq1 hcN
    have m3 := mem_eq2 hcN
    have m4 := mem_eq3 hcN
    have m5 := mem_eq4 hcN
    refine LCg.CompSrc.base rfl (by k_asm) N1 ho2 (by rw [PySem.sizeLine_eq]; have := ho1.length; simp; omega) ?_
    intro g9
    refine rest_ind (fun i ys news => ∃ (trs : List Addr) (tups : List (Addr × Obj)), ys = trs.map Value.ref ∧ trs.length = i ∧ news = tups ++ cN ∧ ∀ j, j < i → ∃ ta tb n, (trs.getD j 0, ({ cls := .type "tuple", data := .seq #[.int ((os.getD j 0).fdiv 3600) ta, .int ((os.getD j 0).fmod 3600) tb] n } : Obj)) ∈ tups) ?_ ?_ ⟨[], [], rfl, rfl, rfl, fun j hj => absurd hj (Nat.not_lt_zero _)⟩
    · rintro i ys news v I oI C oC D m₂ h tk E' hi ⟨trs, tups, rfl, hl, rfl, ht⟩ hv hC hx F N off ne
      obtain ⟨⟨t, rfl⟩, hi'⟩ := ints_at ho1 hv
      walk_at "P steps"
      refine comp_end1 N (by k_asm) (by k_asm) off (.inl ho2) ⟨trs ++ [h.objs.size], (_, _) :: tups, ?_, ?_, rfl, fun j hj => ?_⟩
      · simp
      · simp [hl]
      · rcases Nat.lt_or_ge j i with hj' | hj'
        · obtain ⟨ta, tb, n, hm⟩ := ht j hj'
          exact ⟨ta, tb, n, .tail _ (by rw [getD_snoc (by omega)]; exact hm)⟩
        · obtain rfl : j = i := by omega
          subst hl
          exact ⟨_, _, _, by rw [getD_last']; exact .head _⟩
    · rintro ys news ⟨trs, tups, rfl, hl, rfl, ht⟩
      rw [show ov.toArray.size = os.length by have := ho1.length; simp [this]] at hl ht
      walk_at "P steps"
      refine go_of ?_
      rename IsRange _ _ _ _ _ _ _ _ => hr
      rename Fr _ _ _ _ => F2
      rename News _ _ _ (_ :: _) => N2
      obtain ⟨ro, N3, t1, hro, z3, z2, z1, q1, q2⟩ := regroup N2 ⟨(‹_ ∧ _ ∧ AllLt _ _›).1, (‹_ ∧ _ ∧ AllLt _ _›).2.1, (‹_ ∧ _ ∧ _ ∧ AllLt _ _›).1, (‹_ ∧ _ ∧ _ ∧ _ ∧ AllLt _ _›).1, (‹_ ∧ _ ∧ _ ∧ _ ∧ _ ∧ AllLt _ _›).1, (‹_ ∧ _ ∧ _ ∧ _ ∧ _ ∧ _ ∧ AllLt _ _›).1⟩ ((‹_ ∧ _ ∧ AllLt _ _›).2.2) ((‹_ ∧ _ ∧ _ ∧ _ ∧ AllLt _ _›).2.2.2.2) ((‹_ ∧ _ ∧ _ ∧ _ ∧ _ ∧ _ ∧ AllLt _ _›).2.2.2.2.2.2)
      have M1 := hro _ (List.mem_append_right tups m1)
      have M2 := hro _ (List.mem_append_right tups m2)
      have M3 := hro _ (List.mem_append_right tups m3)
      have M4 := hro _ (List.mem_append_right tups m4)
      have M5 := hro _ (List.mem_append_right tups m5)
      have MT := fun j hj => (ht j hj).imp fun _ x => x.imp fun _ x => x.imp fun _ x => hro _ (List.mem_append_left cN x)
      clear N2 ht m1 m2 m3 m4 m5 hro
      generalize hN : ((_, _) :: (_, _) :: (_, _) :: ro : List (Addr × Obj)) = nw at N3
      refine kpr_invN (n := ds.length) (fun i m nx => ∃ xv tv zv n1 n2 n3 σ, nx = (_, listOf zv.toArray n3) :: (_, listOf tv.toArray n2) :: (_, listOf xv.toArray n1) :: ro ∧ IntsAre xv σ.1 ∧ IntsAre tv σ.2.1 ∧ IntsAre zv σ.2.2 ∧
        σ = runO (Txt.join " " Ts) ds os Ts i (List.replicate os.length 0, List.replicate os.length 0, List.replicate os.length 0) ∧ (σ.1.length = os.length ∧ σ.2.1.length = os.length ∧ σ.2.2.length = os.length) ∧
        m "deck" = some (.ref d) ∧ m "names" = some (.ref nm) ∧ m "line" = some (.str (Txt.join " " Ts) _) ∧ m "comp" = some (.ref _) ∧ m "times" = some (.ref _) ∧ m "dots" = some (.ref _) ∧ m "texts" = some (.ref _) ∧ m "zones" = some (.ref _)) rfl hr (rng_small rfl (by omega)) (rng_size rfl) F2 N3 ⟨_, _, _, _, _, _, _, hN.symm, ints_to (by assumption) (rep_flat _), ints_to (by assumption) (rep_flat _), ints_to (by assumption) (rep_flat _), rfl, ⟨List.length_replicate, List.length_replicate, List.length_replicate⟩, rfl, rfl, rfl, rfl, rfl, rfl, rfl, rfl⟩ ?_ ?_
      · rintro i k t m₁ nx h₁ tk₁ own hi hoff ⟨xv, tv, zv, n1, n2, n3, σ, rfl, hx, hy, hz, hσ, hlen, e1, e2, e3, e4, e5, e6, e7, e8⟩ F₁ N₁
        obtain ⟨rfl, hi'⟩ := rng_at hi
        subst hN
        simp only [List.map_cons, List.map_nil] at hoff
        replace N₁ := news_split N₁
        replace F₁ := fr_names [("q", .int (0 + (i : Int)) t), ("deck", .ref d), ("names", .ref nm), ("line", .str (Txt.join " " Ts) _), ("comp", .ref _), ("times", .ref _), ("dots", .ref _), ("texts", .ref _), ("zones", .ref _)] F₁ ⟨nm_eq, nm_ne (y := "deck") (by decide) e1, nm_ne (y := "names") (by decide) e2, nm_ne (y := "line") (by decide) e3, nm_ne (y := "comp") (by decide) e4, nm_ne (y := "times") (by decide) e5, nm_ne (y := "dots") (by decide) e6, nm_ne (y := "texts") (by decide) e7, nm_ne (y := "zones") (by decide) e8, trivial⟩
        dsimp only [bindM] at F₁
        clear hr F2 hi N3
        walk_at "P steps"
        refine go_of ?_
        rename IsRange _ _ _ _ _ _ _ _ => hr
        rename Fr _ _ _ _ => F2
        rename News _ _ _ (_ :: _) => N3
        have y3 := off_app z3 hoff (by simp)
        have y2 := off_app z2 hoff (by simp)
        have y1 := off_app z1 hoff (by simp)
        generalize hN : ((_, _) :: (_, _) :: (_, _) :: (ro ++ own) : List (Addr × Obj)) = nw at N3
        refine kpr_invN (n := i) (fun j m nx => ∃ xv tv zv n1 n2 n3 σ', nx = (_, listOf zv.toArray n3) :: (_, listOf tv.toArray n2) :: (_, listOf xv.toArray n1) :: (ro ++ own) ∧ IntsAre xv σ'.1 ∧ IntsAre tv σ'.2.1 ∧ IntsAre zv σ'.2.2 ∧
          σ' = runI (Txt.join " " Ts) ds os Ts i j σ ∧ (σ'.1.length = os.length ∧ σ'.2.1.length = os.length ∧ σ'.2.2.length = os.length) ∧
          m "q" = some (.int (0 + (i : Int)) _) ∧ m "deck" = some (.ref d) ∧ m "names" = some (.ref nm) ∧ m "line" = some (.str (Txt.join " " Ts) _) ∧ m "comp" = some (.ref _) ∧ m "times" = some (.ref _) ∧ m "dots" = some (.ref _) ∧ m "texts" = some (.ref _) ∧ m "zones" = some (.ref _)) rfl hr (rng_small (n := i) (by omega) (by omega)) (rng_size (n := i) (by omega)) F2 N3 ⟨_, _, _, _, _, _, _, hN.symm, hx, hy, hz, rfl, hlen, rfl, rfl, rfl, rfl, rfl, rfl, rfl, rfl, rfl⟩ ?_ ?_
        · rintro j k' t' m₂ nx h₂ tk₂ own' hj hoff' ⟨xv', tv', zv', n1', n2', n3', σ', rfl, hx', hy', hz', hσ', hlen', f0, f1, f2, f3, f4, f5, f6, f7, f8⟩ F₂ N₂
          obtain ⟨rfl, hj'⟩ := rng_at hj
          subst hN
          simp only [List.map_cons] at hoff'
          replace N₂ := news_split N₂
          replace F₂ := fr_names [("p", .int (0 + (j : Int)) t'), ("q", .int (0 + (i : Int)) _), ("deck", .ref d), ("names", .ref nm), ("line", .str (Txt.join " " Ts) _), ("comp", .ref _), ("times", .ref _), ("dots", .ref _), ("texts", .ref _), ("zones", .ref _)] F₂ ⟨nm_eq, nm_ne (y := "q") (by decide) f0, nm_ne (y := "deck") (by decide) f1, nm_ne (y := "names") (by decide) f2, nm_ne (y := "line") (by decide) f3, nm_ne (y := "comp") (by decide) f4, nm_ne (y := "times") (by decide) f5, nm_ne (y := "dots") (by decide) f6, nm_ne (y := "texts") (by decide) f7, nm_ne (y := "zones") (by decide) f8, trivial⟩
          dsimp only [bindM] at F₂
          clear hr F2 hj N3
          have x3 := off_app y3 hoff' (by simp)
          have x2 := off_app y2 hoff' (by simp)
          have x1 := off_app y1 hoff' (by simp)
          have K1 := List.mem_append_left own' (List.mem_append_left own M1)
          have K2 := List.mem_append_left own' (List.mem_append_left own M2)
          have K3 := List.mem_append_left own' (List.mem_append_left own M3)
          have K4 := List.mem_append_left own' (List.mem_append_left own M4)
          have K5 := List.mem_append_left own' (List.mem_append_left own M5)
          have KT := List.mem_append_left own' (List.mem_append_left own t1)
          have KU := fun j hj => (MT j hj).imp fun _ x => x.imp fun _ x => x.imp fun _ x => List.mem_append_left own' (List.mem_append_left own x)
          obtain ⟨p0, p1⟩ := hds (ds.getD (0 + (j : Int)).toNat 0) (getD_mem (by omega))
          obtain ⟨q0, q1⟩ := hds (ds.getD (0 + (i : Int)).toNat 0) (getD_mem (by omega))
          have X0 : 0 ≤ mx (ds.getD (0 + (j : Int)).toNat 0) (ds.getD (0 + (i : Int)).toNat 0) := mx_lo (by omega) (by omega)
          have X1 : mx (ds.getD (0 + (j : Int)).toNat 0) (ds.getD (0 + (i : Int)).toNat 0) < os.length := mx_hi (by omega) (by omega)
          have Y0 : 0 ≤ mn (ds.getD (0 + (j : Int)).toNat 0) (ds.getD (0 + (i : Int)).toNat 0) := mn_lo (by omega) (by omega)
          have Y1 : mn (ds.getD (0 + (j : Int)).toNat 0) (ds.getD (0 + (i : Int)).toNat 0) < os.length := mn_hi (by omega) (by omega)
          have jd : j < ds.length := Nat.lt_trans hj' (by omega)
          have id' : i < ds.length := by omega
          have ip0 := z0 j
          have ip1 := lt_cast jd
          have ip2 := lt63 ip1 hD
          have ip3 := lt_of_len ip1 (show xs.length = ds.length by omega)
          have iq0 := z0 i
          have iq1 := lt_cast id'
          have iq2 := lt63 iq1 hD
          have iq3 := lt_of_len iq1 (show xs.length = ds.length by omega)
          have cp0 : 0 ≤ ds.getD (0 + (j : Int)).toNat 0 := Int.le_trans (by decide) p0
          have cq0 : 0 ≤ ds.getD (0 + (i : Int)).toNat 0 := Int.le_trans (by decide) q0
          have cp2 := lt63 p1 hO
          have cq2 := lt63 q1 hO
          have cp3 := lt_of_len p1 hl
          have cq3 := lt_of_len q1 hl
          have cp4 := lt_of_len p1 hlen'.2.1
          have cp5 := lt_of_len p1 hlen'.2.2
          have cx2 := lt63 X1 hO
          have cx3 := lt_of_len X1 hlen'.1
          have cx4 := lt100 X1 hO
          have cy4 := lt100 Y1 hO
          obtain ⟨tap, tbp, nap, kup⟩ := KU (ds.getD (0 + (j : Int)).toNat 0).toNat (tl cp0 p1)
          obtain ⟨taq, tbq, naq, kuq⟩ := KU (ds.getD (0 + (i : Int)).toNat 0).toNat (tl cq0 q1)
          have np := hna (0 + (j : Int)).toNat (tn (hdT ▸ jd))
          obtain ⟨dxp, k4p, k5p, hsp, Ip⟩ := np.ex
          have nq := hna (0 + (i : Int)).toNat (tn (hdT ▸ id'))
          obtain ⟨dxq, k4q, k5q, hsq, Iq⟩ := nq.ex
          obtain ⟨w1, w2, w3⟩ := want_at (mx (ds.getD (0 + (j : Int)).toNat 0) (ds.getD (0 + (i : Int)).toNat 0)) (mn (ds.getD (0 + (j : Int)).toNat 0) (ds.getD (0 + (i : Int)).toNat 0))
          have w4 := card_len (mx (ds.getD (0 + (j : Int)).toNat 0) (ds.getD (0 + (i : Int)).toNat 0))
          have w5 := card_len (mn (ds.getD (0 + (j : Int)).toNat 0) (ds.getD (0 + (i : Int)).toNat 0))
          walk_at "P steps"
          refine go_of ?_
          refine join_1 (fun v => IntsAre v (stepB (Txt.join " " Ts) ds os Ts i j σ').1) F₂ N₂ ?_ ?_
          · refine wpAny_If ?_
            walk_at "P steps"
            refine go_of ?_
            refine' spec_use (ell_spec w _ _ _ _ _ _ w3 hL w1 w4 w5 w2) ?k1 ?k2 ?k3 ?k4 ?k5 ?kK trivial ?kd ?ku ?_
            case k1 => k_asm
            case k2 => k_asm
            case k3 => k_asm
            case k4 => k_asm
            case k5 => k_asm
            case kK => exact rfl
            case kd => ktr_room
            case ku => ktr_units
            rintro v9 h9 tk9 F9 N9 g9 rfl
            walk_at "P steps"
            all_goals (
              rename News _ _ _ (_ :: _) => NX
              refine join_end (by k_asm) (news_tail NX) ?_
              show IntsAre _ (ite _ _ _)
              first
                | (refine ints_pos ?_ ?_ <;> with_reducible assumption)
                | (refine ints_neg ?_ ?_ <;> with_reducible assumption)
                | (refine ints_negB ?_ ?_ <;> with_reducible assumption))
          intro h₃ tk₃ xw nw1 F₃ N₃ hxw
          clear F₂ N₂
          walk_at "P steps"
          refine go_of ?_
          refine join_2 (fun v => IntsAre v (stepB (Txt.join " " Ts) ds os Ts i j σ').2.1) F₃ N₃ ?_ ?_
          · refine wpAny_If ?_
            walk_at "P steps"
            refine go_of ?_
            refine' spec_use (gt_spec w _ _ (Ts.getD (0 + (j : Int)).toNat "") (Ts.getD (0 + (i : Int)).toNat "")) ?k1 ?k2 ?k3 ?k4 ?k5 ?kK ?kP ?kd ?ku ?_
            case k1 => k_asm
            case k2 => k_asm
            case k3 => k_asm
            case k4 => k_asm
            case k5 => k_asm
            case kK => exact rfl
            case kP => exact ⟨nameAt_base (by k_asm) np, nameAt_base (by k_asm) nq⟩
            case kd => ktr_room
            case ku => ktr_units
            rintro v9 h9 tk9 F9 N9 g9 rfl
            refine cmpBack_bool ?_
            (try dsimp only)
            walk_at "P steps"
            all_goals (
              rename News _ _ _ (_ :: _) => NX
              refine join_end (by k_asm) NX ?_
              show IntsAre _ (ite _ _ _)
              first
                | (refine ints_pos ?_ ?_ <;> with_reducible assumption)
                | (refine ints_neg ?_ ?_ <;> with_reducible assumption)
                | (refine ints_negB ?_ ?_ <;> with_reducible assumption))
          intro h₄ tk₄ tw nw2 F₄ N₄ htw
          clear F₃ N₃
          walk_at "P steps"
          refine go_of ?_
          refine join_3 (fun v => IntsAre v (stepB (Txt.join " " Ts) ds os Ts i j σ').2.2) F₄ N₄ ?_ ?_
          · refine wpAny_If ?_
            walk_at "P steps"
            refine go_of ?_
            rename News _ _ _ (_ :: _) => NX
            refine' spec_use (comp_spec w _ _ _ ((os.getD (ds.getD (0 + (j : Int)).toNat 0).toNat 0).fdiv 3600) ((os.getD (ds.getD (0 + (j : Int)).toNat 0).toNat 0).fmod 3600) ((os.getD (ds.getD (0 + (i : Int)).toNat 0).toNat 0).fdiv 3600) ((os.getD (ds.getD (0 + (i : Int)).toNat 0).toNat 0).fmod 3600) tap tbp taq tbq) ?k1 ?k2 ?k3 ?k4 ?k5 ?kK ?kP ?kd ?ku ?_
            case k1 => k_asm
            case k2 => k_asm
            case k3 => k_asm
            case k4 => exact NX
            case k5 => k_asm
            case kK => exact rfl
            case kP =>
              have NR := news_tail (news_tail (news_tail NX))
              exact ⟨compAt_news NR K1 K2 K3 K4 K5, ⟨_, (NR _ kup).1, rfl, _, rfl⟩, ⟨_, (NR _ kuq).1, rfl, _, rfl⟩⟩
            case kd => ktr_room
            case ku => ktr_units
            rintro v9 h9 tk9 F9 N9 g9 ⟨t9, rfl⟩
            walk_at "P steps"
            all_goals (
              rename News _ _ _ (_ :: _) => NX
              refine join_end (by k_asm) NX ?_
              show IntsAre _ (ite _ _ _)
              first
                | (refine ints_pos ?_ ?_ <;> with_reducible assumption)
                | (refine ints_neg ?_ ?_ <;> with_reducible assumption)
                | (refine ints_negB ?_ ?_ <;> with_reducible assumption))
          intro h₅ tk₅ zw nw3 F₅ N₅ hzw
          clear F₄ N₄
          walk_at "P steps"
          exact inv_endR F₅ N₅ ⟨_, _, _, _, _, _, stepB (Txt.join " " Ts) ds os Ts i j σ', rfl, hxw, htw, hzw, congrArg (stepB (Txt.join " " Ts) ds os Ts i j) hσ', stepB_len hlen', rfl, rfl, rfl, rfl, rfl, rfl, rfl, rfl, rfl⟩
        · rintro m₂ nx h₂ tk₂ ⟨xv', tv', zv', n1', n2', n3', σ', rfl, hx', hy', hz', hσ', hlen', f0, f1, f2, f3, f4, f5, f6, f7, f8⟩ F₂ N₂
          rw [rangeKs_length] at hσ'
          walk_at "P steps"
          refine inv_endR F₂ N₂ ⟨_, _, _, _, _, _, σ', rfl, hx', hy', hz', hσ'.trans (congrArg (runI (Txt.join " " Ts) ds os Ts i i) hσ), hlen', f1, f2, f3, f4, f5, f6, f7, f8⟩
      · rintro m₂ nx h₂ tk₂ ⟨xv', tv', zv', n1', n2', n3', σ', rfl, hx', hy', hz', hσ', hlen', f1, f2, f3, f4, f5, f6, f7, f8⟩ F₂ N₂
        replace F₂ := fr_names [("dots", .ref _), ("texts", .ref _), ("zones", .ref _)] F₂ ⟨f6, f7, f8, trivial⟩
        dsimp only [bindM] at F₂
        walk_at "P steps"
        rw [rangeKs_length] at hσ'
        rename News _ _ _ ((_, ({ cls := _, data := _ } : Obj)) :: _) => NX
        have r0 := NX _ (.head _)
        have r3 := NX _ (.tail _ (.head _))
        have r2 := NX _ (.tail _ (.tail _ (.head _)))
        have r1 := NX _ (.tail _ (.tail _ (.tail _ (.head _))))
        exact hret _ _ _ (Fr.keep (by k_asm)) ⟨_, _, _, _, _, _, _, _, _, _, _, rfl, r0.2.2, r0.1, r1.2.2, r1.1, r2.2.2, r2.1, r3.2.2, r3.1, hσ' ▸ hx', hσ' ▸ hy', hσ' ▸ hz'⟩
end
section
section
variable {prog : Program} {w : World} {A : Around} {E : Value → Shared → Prop} {s : Shared} {env : Env} {h₀ : Heap} {L d : Addr} {m : Str → Option Value} {news : List (Addr × Obj)} {target : Expr} {body : List Stmt} {K : Type} [DecidableEq K] {knd : KeyKind prog w K} {enc : K → PyData} {D : List (PyData × PyData)}
theorem tab_base (F : Fr h₀ L s.heap m) (T : TabAt knd enc h₀ d D) : TabAt knd enc s.heap d D := ⟨T.1, T.2.imp fun _ x => ⟨x.1.imp fun _ y => y.imp fun _ z => z.imp fun _ q => ⟨F.keep _ _ q.1, q.2⟩, x.2⟩⟩
theorem items_view (F : Fr h₀ L s.heap m) (N : News h₀ L s.heap news) (T : TabAt knd enc h₀ d D) {Q : Value → Shared → Prop}
    (h : ∀ (V : Addr) h', Fr h₀ L h' m → News h₀ L h' ((V, { cls := .type "dict_items", data := .fields #[.ref d] }) :: news) → (∀ q ∈ news, q.1 < V) → Q (.ref V) { s with heap := h' }) :
    wpAny (model prog w) A (call (.builtin "dict.items") [.ref d]) Q E s := by
  obtain ⟨lo, kvs, hD, _⟩ := tab_base F T
  exact call_meetsIn PySem.F.slot_dict_items hD.typeIs PySem.F.entry_dict_items (PySem.F.args_dict_items_1 _) (meets_dict_items knd d lo) ⟨⟨kvs, hD⟩, h _ _ (F.push _) (News.push F N _) fun q hq => Heap.lt_size (N q hq).1⟩
theorem items_viewS {c : List (Str × Int)} (F : Fr h₀ L s.heap m) (N : News h₀ L s.heap news) (T : StrTab prog w h₀ d (kdpD c)) {Q : Value → Shared → Prop}
    (h : ∀ (V : Addr) h', Fr h₀ L h' m → News h₀ L h' ((V, { cls := .type "dict_items", data := .fields #[.ref d] }) :: news) → (∀ q ∈ news, q.1 < V) → Q (.ref V) { s with heap := h' }) :
    wpAny (model prog w) A (call (.builtin "dict.items") [.ref d]) Q E s := items_view F N T h
end
section
variable {prog : Program} {w : World} {A : Around} {E : Value → Shared → Prop} {s : Shared} {env : Env} {h₀ : Heap} {target : Expr} {body : List Stmt} {Q : Flow → Shared → Prop}
theorem turnsN {I : Addr} {fp wr : List Addr} {n : Nat} {P Md : Nat → Value → Heap → Prop} {St : Nat → Heap → Prop} {m₀ : Str → Option Value} {news : List (Addr × Obj)} {hp : Heap} {tk0 : Nat} (J : Nat → (Str → Option Value) → List (Addr × Obj) → Prop)
    (W : KTurns prog w A target I fp wr n P Md St) (hLf : env.locals ∉ fp) (hwr : ∀ b ∈ wr, h₀.get? b = none) (hnw : ∀ p ∈ news, p.1 ∉ wr) (hfp : ∀ q ∈ news, q.1 ∉ fp) (hst : St 0 hp) (F : Fr h₀ env.locals hp m₀) (N : News h₀ env.locals hp news) (hj : J 0 m₀ news)
    (turn : ∀ i v m₁ news₁ h tk own, i < n → P i v h → OwnOff own (news.map (·.1)) → J i m₁ news₁ → Fr h₀ env.locals h m₁ → News h₀ env.locals h (news₁ ++ own) →
      wpAny (model prog w) A (assign target env v) (fun _ s₃ => wpAny (model prog w) A (execs body env) (InvPostN h₀ env.locals (J (i + 1)) own (news.map (·.1)) { s with heap := h, toks := tk } Q) E s₃) E { s with heap := h, toks := tk })
    (done : ∀ m₁ news₁ h tk, J n m₁ news₁ → Fr h₀ env.locals h m₁ → News h₀ env.locals h news₁ → Q .next { s with heap := h, toks := tk }) :
    TurnsAt prog w A h₀ env target body Q E (.ref I) { s with heap := hp, toks := tk0 } := by
  let J' : Nat → (Str → Option Value) → List (Addr × Obj) → Prop := fun i m₁ news₁ => news₁.map (·.1) = news.map (·.1) ∧ J i m₁ news₁
  refine ⟨I, fp, wr, n, P, Md, St, m₀, news, J', rfl, W, hLf, hwr, hnw, hst, F, N, ⟨rfl, hj⟩, ?_, ?_⟩
  · rintro i v m₁ news₁ hh' tk' own hin hP ⟨hadr, hJ⟩ hoff hown _ _ _ F₁ N₁
    have hsep : OwnOff own (news.map (·.1)) := by
      intro p hp b hb e
      obtain ⟨q, hq, rfl⟩ := List.mem_map.mp hb
      exact hfp q hq (e ▸ hown p hp)
    have N₂ : News h₀ env.locals hh' (news₁ ++ own) := fun p hp => N₁ p ((List.mem_append.mp hp).elim (fun h => List.mem_append.mpr (.inr h)) fun h => List.mem_append.mpr (.inl h))
    refine wpAny_mono (turn i v m₁ news₁ hh' tk' own hin hP hsep hJ F₁ N₂) (fun _ s₃ q => wpAny_mono q (fun f s₂ p => ?_) fun _ _ e => e) fun _ _ e => e
    have fin : InvEndN h₀ env.locals (J (i + 1)) own (news.map (·.1)) { s with heap := hh', toks := tk' } s₂ → LoopStepU h₀ env.locals wr own (J' (i + 1)) { s with heap := hh', toks := tk' } .next s₂ := by
      rintro ⟨h', tk, m', news', nx, e, F', N', hn, ho, ha, hm⟩
      refine ⟨rfl, h', tk, m', nx, e, F', fun p hp => N' p ((List.mem_append.mp hp).elim (ho p) (hn p)), fun p hp hq => ?_, ha, hm⟩
      have h1 : p.1 ∈ nx.map (·.1) := List.mem_map.mpr ⟨p, hp, rfl⟩
      rw [ha, ← hadr] at h1
      obtain ⟨q, hq1, hq2⟩ := List.mem_map.mp h1
      exact hoff q hq1 (by rw [hq2]; exact hq)
    cases f with
    | ret v => exact .ret p
    | brk => exact .brk p
    | next => exact .next (fin p)
    | cont => exact .cont (fin p)
  · rintro h' tk m' news' F' N' _ ⟨_, hJ⟩
    exact done m' news' h' tk hJ F' N'
end
section
variable {prog : Program} {w : World} {A : Around} {E : Value → Shared → Prop} {s : Shared} {env : Env} {h₀ : Heap} {d vw : Addr} {body : List Stmt} {Q : Flow → Shared → Prop} {c : List (Str × Int)}
theorem turns_items {elts : List Expr} {kk : Nat} {pos : Pos} {m₀ : Str → Option Value} {news : List (Addr × Obj)} (J : Nat → (Str → Option Value) → List (Addr × Obj) → Prop)
    (hh : A.handled = none) (F : Fr h₀ env.locals s.heap m₀) (N : News h₀ env.locals s.heap news) (hvw : (vw, ({ cls := .type "dict_items", data := .fields #[.ref d] } : Obj)) ∈ news) (T : StrTab prog w h₀ d (kdpD c)) (hj : J 0 m₀ news)
    (turn : ∀ i x e t u b m₁ news₁ h tk own, c[i]? = some (x, e) → IsTup h b #[.str x t, .int e u] → OwnOff own (news.map (·.1)) → J i m₁ news₁ → Fr h₀ env.locals h m₁ → News h₀ env.locals h (news₁ ++ own) →
      wpAny (model prog w) A (assign (.Tuple elts kk pos) env (.ref b)) (fun _ s₃ => wpAny (model prog w) A (execs body env) (InvPostN h₀ env.locals (J (i + 1)) own (news.map (·.1)) { s with heap := h, toks := tk } Q) E s₃) E { s with heap := h, toks := tk })
    (done : ∀ m₁ news₁ h tk, J c.length m₁ news₁ → Fr h₀ env.locals h m₁ → News h₀ env.locals h news₁ → Q .next { s with heap := h, toks := tk }) :
    wpAny (model prog w) A (pyIter (.ref vw)) (fun it s₂ => TurnsAt prog w A h₀ env (.Tuple elts kk pos) body Q E it s₂) E s := by
  obtain ⟨_, kvs, hdo, hf⟩ := tab_base F T
  obtain ⟨ep, hat⟩ := hdo.dictAt
  have hv := N _ hvw
  have hne : d ≠ s.heap.objs.size := Nat.ne_of_lt hat.lt_size
  have hd0 : ∃ o, h₀.get? d = some o := by obtain ⟨_, _, hD, _⟩ := T; obtain ⟨o, _, _, e, _⟩ := hD; exact ⟨o, e⟩
  obtain ⟨od, hd0⟩ := hd0
  have hlen : kvs.length = c.length := by have := hf.length; rw [kdpD_length] at this; omega
  refine wpAny_pyIter_items ⟨_, hv.1, rfl, rfl⟩ hat ?_
  have W := kti_itemsTurns (A := A) (elts := elts) (kk := kk) (pos := pos) (prog := prog) (w := w) (knd := strKind prog w) hh s.heap.objs.size d hne kvs ep
  refine turnsN (tk0 := s.toks) J W ?_ ?_ ?_ ?_ ⟨⟨.none, .none, Heap.get?_push_size _ rfl⟩, hat.push _⟩ (F.push _) (fun p hp => ⟨Heap.get?_push_of_some _ (N p hp).1, (N p hp).2⟩) hj ?_ ?_
  · intro hI
    have hb' : env.locals = s.heap.objs.size ∨ env.locals = d := by simpa using hI
    rcases hb' with e | e
    · exact absurd F.ns.lt (e ▸ Nat.lt_irrefl _)
    · exact absurd (Heap.lt_size hd0) (Nat.not_lt.mpr (e ▸ F.above))
  · intro b hb
    rw [List.mem_singleton.mp hb]
    exact next_is_new F
  · intro p hp hI
    exact absurd (Heap.lt_size (N p hp).1) ((List.mem_singleton.mp hI) ▸ Nat.lt_irrefl _)
  · intro p hp hI
    have hb' : p.1 = s.heap.objs.size ∨ p.1 = d := by simpa using hI
    rcases hb' with e | e
    · exact absurd (Heap.lt_size (N p hp).1) (e ▸ Nat.lt_irrefl _)
    · have := (N p hp).2.2
      rw [e, hd0] at this
      cases this
  · rintro i v m₁ news₁ h tk own hi ⟨b, key, k, x, rfl, hx, hk, hT⟩ hoff hJ F₁ N₁
    obtain ⟨dv, hD, hfl⟩ := hf.at hx
    have hc : c[i]? = some (c[i]'(by omega)) := by simp
    unfold kdpD at hD
    rw [List.getElem?_map, hc] at hD
    have hD' := Option.some.inj hD
    obtain ⟨t, rfl⟩ := Value.isStrOf_shape hk
    have e1 : k = (c[i]'(by omega)).1 := by
      have := congrArg Prod.fst hD'
      injection this with q
      exact q.symm
    have e2 : dv = .int (c[i]'(by omega)).2 := (congrArg Prod.snd hD').symm
    subst e1 e2
    obtain ⟨u, rfl⟩ := PyProof.V.Flat.int_inv hfl
    exact turn i _ _ t u b m₁ news₁ h tk own hc hT hoff hJ F₁ N₁
  · intro m₁ news₁ h tk hJ F₁ N₁
    exact done m₁ news₁ h tk (hlen ▸ hJ) F₁ N₁
end
end
section
local macro_rules | `(tactic| walk_at "pyIter ref") => `(tactic| refine stop_of ?_)

local macro_rules | `(tactic| walk_at "exec For Tuple Call cons nil") => `(tactic| (k_dflt (refine' For_turns (by k_asm) ?_)))
local macro_rules | `(tactic| walk_at "call builtin:dict.items") => `(tactic| (k_dflt (refine' items_viewS (by k_asm) (by k_asm) (by assumption) ?_); intro V' h' F' N' l1; (try k_lt l1)))
local macro_rules | `(tactic| walk_at "setItem ref str int") => `(tactic| (k_dflt (refine' kdp_setItem (by k_asm) (by k_asm) (by k_updF) (by walk_at "S") (by walk_at "S") (by first | omega | (simp only [List.length_take]; omega)) ?_); intro h' o' kvs' F' N' hd' hf'))
local macro_rules | `(tactic| walk_at "assign Tuple") => `(tactic| ((with_reducible show wpAny _ _ (assign (Expr.Tuple _ _ _) _ (Value.ref _)) _ _ _); (k_dflt (refine' unpackN_ (by k_asm) (by k_asm) (by assumption) (by walk_at "R") (by walk_at "R") (by walk_at "R") ?_)); intro h' F' N'; (try dsimp only)))

local macro_rules | `(tactic| walk_at "call ref") => `(tactic| refine stop_of ?_)
theorem inv_end2 {h₀ h' : Heap} {L D1 D2 : Addr} {J : (Str → Option Value) → List (Addr × Obj) → Prop} {m' : Str → Option Value} {own : List (Addr × Obj)} {o1 o2 o1' o2' : Obj} {s₁ : Shared} {tk : Nat} (F : Fr h₀ L h' m') (N : News h₀ L h' ((D1, o1) :: (D2, o2) :: own))
    (hj : J m' [(D1, o1), (D2, o2)]) : InvEndN h₀ L J own (List.map (fun x => x.fst) [(D1, o1'), (D2, o2')]) s₁ { s₁ with heap := h', toks := tk } := InvEndN.intro F N hj rfl (fun _ hp => List.mem_append_left own hp) (fun _ hp => .tail _ (.tail _ hp))
theorem inv_end3' {h₀ h' : Heap} {L D1 D2 D3 : Addr} {J : (Str → Option Value) → List (Addr × Obj) → Prop} {m' : Str → Option Value} {own : List (Addr × Obj)} {o1 o2 o3 o1' o2' o3' : Obj} {s₁ : Shared} {tk : Nat} (F : Fr h₀ L h' m') (N : News h₀ L h' ((D1, o1) :: (D2, o2) :: (D3, o3) :: own))
    (hj : J m' [(D1, o1), (D2, o2), (D3, o3)]) : InvEndN h₀ L J own (List.map (fun x => x.fst) [(D1, o1'), (D2, o2'), (D3, o3')]) s₁ { s₁ with heap := h', toks := tk } := inv_end3 F N hj
theorem getD_of {α : Type} {l : List α} {i : Nat} {x d : α} (h : l[i]? = some x) : l.getD i d = x := by rw [List.getD_eq_getElem?_getD, h]; rfl
theorem lt_of_get {α : Type} {l : List α} {i : Nat} {x : α} (h : l[i]? = some x) : i < l.length := (List.getElem?_eq_some_iff.mp h).1
theorem take_put {c : List (Str × Int)} (hnd : ∀ i, i < c.length → kdpPut (c.take i) (c.getD i ("", 0)).1 (c.getD i ("", 0)).2 = c.take (i + 1)) {i : Nat} {x : Str} {e : Int} (h : c[i]? = some (x, e)) : kdpPut (c.take i) x e = c.take (i + 1) := by
  have q := hnd i (lt_of_get h)
  rw [getD_of h] at q
  exact q
theorem put_new {c : List (Str × Int)} {k : Str} {e : Int} (h : kdpHas c k = false) : kdpPut c k e = c ++ [(k, e)] := by
  unfold kdpPut
  unfold kdpHas at h
  rw [h]; rfl
theorem flat_to {kvs : List (Str × Value)} {c c' : List (Str × Int)} (h : PyProof.V.FlatPairs PyData.str kvs (kdpD c)) (e : c = c') : PyProof.V.FlatPairs PyData.str kvs (kdpD c') := e ▸ h
theorem one_at {k x : Str} {e e₁ : Int} {i : Nat} (h : [(k, e)][i]? = some (x, e₁)) : i = 0 ∧ x = k ∧ e₁ = e := by
  match i with
  | 0 => have := Option.some.inj h; injection this with a b; exact ⟨rfl, a.symm, b.symm⟩
  | i + 1 => cases h
/-- D stands, new, as a dict of the pairs c -/
noncomputable def NewTab (w : World) (h h' : Heap) (D : Addr) (c : List (Str × Int)) : Prop :=
  (D == sysModules) = false ∧ ∃ o kvs, h.get? D = none ∧ h'.get? D = some o ∧ o.IsDictOf (strKind PySem.Challenge.rw_xp0018_01.row.prog w) kvs ∧ PyProof.V.FlatPairs PyData.str kvs (kdpD c)
theorem addc_spec (w : World) (d1 d2 : Addr) (c : List (Str × Int)) (k : Str) (e : Int) (hc : c.length ≤ 100) (hnd : ∀ i, i < c.length → kdpPut (c.take i) (c.getD i ("", 0)).1 (c.getD i ("", 0)).2 = c.take (i + 1)) (hkn : kdpHas c k = false) : Spec w 93 [.ref d1, .ref d2] 1 8 (fun h => StrTab PySem.Challenge.rw_xp0018_01.row.prog w h d1 (kdpD c) ∧ StrTab PySem.Challenge.rw_xp0018_01.row.prog w h d2 (kdpD [(k, e)])) (fun h v h' => ∃ D, v = .ref D ∧ NewTab w h h' D (c ++ [(k, e)])) := by
  intro p loose mean mg mb dp un gd cn cs a9 ccd cl outer A₀ base h₀ L m' s Q E B F X T hk hP hd hu hret
  obtain ⟨T1, T2⟩ := hP
  walk_at "P enter"
  walk_at "P steps"
  refine go_of ?_
  rename News _ _ _ (_ :: _) => N1
  rename Fr _ _ _ _ => F1
  generalize hN : ((_, _) :: _ : List (Addr × Obj)) = nw at N1
  refine turns_items (c := c) (fun i m nx => ∃ o kvs, nx = [(_, _), (_, o)] ∧ o.IsDictOf (strKind PySem.Challenge.rw_xp0018_01.row.prog w) kvs ∧ PyProof.V.FlatPairs PyData.str kvs (kdpD (c.take i)) ∧ m "new_callers" = some (.ref _) ∧ m "target" = some (.ref d1) ∧ m "source" = some (.ref d2)) rfl F1 N1 (mem_eq0 hN) T1 (by exact ⟨_, _, hN.symm, by assumption, .nil, rfl, rfl, rfl⟩) ?_ ?_
  · rintro i x e₁ t u b m₁ nx h₁ tk₁ own hi hT hoff ⟨o, kvs, rfl, hd', hf', e1, e2, e3⟩ F₁ N₁
    subst hN
    simp only [List.map_cons, List.map_nil] at hoff
    replace N₁ := news_cons N₁
    replace F₁ := fr_names [("new_callers", .ref _), ("target", .ref d1), ("source", .ref d2)] F₁ ⟨e1, e2, e3, trivial⟩
    dsimp only [bindM] at F₁
    walk_at "P steps"
    rename PyProof.V.FlatPairs _ _ (kdpD (kdpPut _ _ _)) => hf2
    exact inv_end2 (by k_asm) (by k_asm) ⟨_, _, rfl, by assumption, flat_to hf2 (take_put hnd hi), rfl, rfl, rfl⟩
  · rintro m₁ nx h₁ tk₁ ⟨o, kvs, rfl, hd', hf', e1, e2, e3⟩ F₁ N₁
    replace hf' := flat_to hf' (List.take_of_length_le (Nat.le_refl _))
    replace F₁ := fr_names [("new_callers", .ref _), ("source", .ref d2)] F₁ ⟨e1, e3, trivial⟩
    dsimp only [bindM] at F₁
    clear F1 N1 hN
    walk_at "P steps"
    refine go_of ?_
    rename News _ _ _ (_ :: _) => N1
    rename Fr _ _ _ _ => F1
    generalize hN : ((_, _) :: _ : List (Addr × Obj)) = nw at N1
    refine turns_items (c := [(k, e)]) (fun i m nx => ∃ o kvs, nx = [(_, _), (_, _), (_, o)] ∧ o.IsDictOf (strKind PySem.Challenge.rw_xp0018_01.row.prog w) kvs ∧ PyProof.V.FlatPairs PyData.str kvs (kdpD (if i = 0 then c else c ++ [(k, e)])) ∧ m "new_callers" = some (.ref _) ∧ m "source" = some (.ref d2)) rfl F1 N1 (mem_eq0 hN) (by assumption) (by exact ⟨_, _, hN.symm, hd', hf', rfl, rfl⟩) ?_ ?_
    · rintro i x e₁ t u b m₁ nx h₁ tk₁ own hi hT hoff ⟨o, kvs, rfl, hd', hf', e1, e2⟩ F₁ N₁
      subst hN
      obtain ⟨rfl, rfl, rfl⟩ := one_at hi
      rw [if_pos rfl] at hf'
      simp only [List.map_cons, List.map_nil] at hoff
      replace N₁ := news_cons N₁
      replace F₁ := fr_names [("new_callers", .ref _), ("source", .ref d2)] F₁ ⟨e1, e2, trivial⟩
      dsimp only [bindM] at F₁
      walk_at "P steps"
      rename PyProof.V.FlatPairs _ _ (kdpD (kdpPut _ _ _)) => hf2
      exact inv_end3' (by k_asm) (by k_asm) ⟨_, _, rfl, by assumption, flat_to hf2 ((put_new hkn).trans (if_neg (by omega)).symm), rfl, rfl⟩
    · rintro m₁ nx h₁ tk₁ ⟨o, kvs, rfl, hd', hf', e1, e2⟩ F₁ N₁
      replace hf' := flat_to hf' (if_neg (by simp))
      replace F₁ := fr_names [("new_callers", .ref _)] F₁ ⟨e1, trivial⟩
      dsimp only [bindM] at F₁
      clear F1 N1 hN
      walk_at "P steps"
      have q := N₁ _ (.tail _ (.tail _ (.head _)))
      exact hret _ _ _ (Fr.keep (by k_asm)) ⟨_, rfl, by assumption, _, _, q.2.2, q.1, hd', hf'⟩
local macro_rules | `(tactic| walk_at "assign Tuple") => `(tactic| ((with_reducible show wpAny _ _ (assign (Expr.Tuple _ _ _) _ (Value.ref _)) _ _ _); (k_dflt (refine' unpackB (by k_asm) (by k_asm) (by assumption) (by walk_at "R") (by walk_at "R") (by walk_at "R") ?_)); intro h' F' N'))
local macro_rules | `(tactic| walk_at "call ref") => `(tactic| refine stop_of ?_)
theorem stats_spec (w : World) (t1 t2 d1 d2 : Addr) (a0 a1 a2 a3 b0 b1 b2 b3 : Int) (u0 u1 u2 u3 v0 v1 v2 v3 : Tok) (c : List (Str × Int)) (k : Str) (e : Int) (hc : c.length ≤ 100) (hnd : ∀ i, i < c.length → kdpPut (c.take i) (c.getD i ("", 0)).1 (c.getD i ("", 0)).2 = c.take (i + 1)) (hkn : kdpHas c k = false) : Spec w 86 [.ref t1, .ref t2] 2 16 (fun h => IsTup h t1 #[.int a0 u0, .int a1 u1, .int a2 u2, .int a3 u3, .ref d1] ∧ IsTup h t2 #[.int b0 v0, .int b1 v1, .int b2 v2, .int b3 v3, .ref d2] ∧ StrTab PySem.Challenge.rw_xp0018_01.row.prog w h d1 (kdpD c) ∧ StrTab PySem.Challenge.rw_xp0018_01.row.prog w h d2 (kdpD [(k, e)])) (fun h v h' => ∃ T D w0 w1 w2 w3 n, v = .ref T ∧ h.get? T = none ∧ h'.get? T = some ({ cls := .type "tuple", data := .seq #[.int (b0 + a0) w0, .int (b1 + a1) w1, .int (b2 + a2) w2, .int (b3 + a3) w3, .ref D] n } : Obj) ∧ NewTab w h h' D (c ++ [(k, e)])) := by
  intro p loose mean mg mb dp un gd cn cs a9 ccd cl outer A₀ base h₀ L m' s Q E B F X T hk hP hd hu hret
  obtain ⟨T1, T2, T3, T4⟩ := hP
  walk_at "P enter"
  walk_at "P steps"
  refine go_of ?_
  rename News _ _ _ [] => N1
  rename Fr _ _ _ _ => F1
  refine' spec_use (addc_spec w d1 d2 c k e hc hnd hkn) ?k1 ?k2 ?k3 ?k4 ?k5 ?kK ?kP ?kd ?ku ?_
  case k1 => k_asm
  case k2 => exact F1
  case k3 => k_asm
  case k4 => exact N1
  case k5 => k_asm
  case kK => exact rfl
  case kP => exact ⟨T3.keep F1.keep, T4.keep F1.keep⟩
  case kd => ktr_room
  case ku => ktr_units
  rintro v9 h9 tk9 F9 N9 g9 ⟨D, rfl, lo, o, kvs, hn, ho, hd, hf⟩
  replace N9 := news_addO F1 N9 hn ho
  walk_at "P steps"
  rename News _ _ _ [_, _] => NX
  have q0 := NX _ (.head _)
  have q1 := NX _ (.tail _ (.head _))
  exact hret _ _ _ (Fr.keep (by k_asm)) ⟨_, D, _, _, _, _, _, rfl, q0.2.2, q0.1, lo, o, kvs, q1.2.2, q1.1, hd, hf⟩
section
variable {prog : Program} {w : World} {A : Around} {E : Value → Shared → Prop} {s : Shared} {env : Env} {h₀ : Heap} {L d vw : Addr} {m : Str → Option Value} {news : List (Addr × Obj)} {body : List Stmt} {target : PySem.Expr} {c : List (Str × Int)}
theorem values_viewS (F : Fr h₀ L s.heap m) (N : News h₀ L s.heap news) (T : StrTab prog w h₀ d (kdpD c)) {Q : Value → Shared → Prop}
    (h : ∀ (V : Addr) h', Fr h₀ L h' m → News h₀ L h' ((V, { cls := .type "dict_values", data := .fields #[.ref d] }) :: news) → (∀ q ∈ news, q.1 < V) → Q (.ref V) { s with heap := h' }) :
    wpAny (model prog w) A (call (.builtin "dict.values") [.ref d]) Q E s := by
  obtain ⟨lo, kvs, hD, _⟩ := tab_base F T
  exact call_meetsIn PySem.F.slot_dict_values hD.typeIs PySem.F.entry_dict_values (PySem.F.args_dict_values_1 _) (meets_dict_values (strKind prog w) d lo) ⟨⟨kvs, hD⟩, h _ _ (F.push _) (News.push F N _) fun q hq => Heap.lt_size (N q hq).1⟩
theorem turns_vals {m₀ : Str → Option Value} {Q : Flow → Shared → Prop} (J : Nat → (Str → Option Value) → List (Addr × Obj) → Prop)
    (hh : A.handled = none) (F : Fr h₀ env.locals s.heap m₀) (N : News h₀ env.locals s.heap news) (hvw : (vw, ({ cls := .type "dict_values", data := .fields #[.ref d] } : Obj)) ∈ news) (T : StrTab prog w h₀ d (kdpD c)) (hj : J 0 m₀ news)
    (turn : ∀ i x e u m₁ news₁ h tk own, c[i]? = some (x, e) → OwnOff own (news.map (·.1)) → J i m₁ news₁ → Fr h₀ env.locals h m₁ → News h₀ env.locals h (news₁ ++ own) →
      wpAny (model prog w) A (assign target env (.int e u)) (fun _ s₃ => wpAny (model prog w) A (execs body env) (InvPostN h₀ env.locals (J (i + 1)) own (news.map (·.1)) { s with heap := h, toks := tk } Q) E s₃) E { s with heap := h, toks := tk })
    (done : ∀ m₁ news₁ h tk, J c.length m₁ news₁ → Fr h₀ env.locals h m₁ → News h₀ env.locals h news₁ → Q .next { s with heap := h, toks := tk }) :
    wpAny (model prog w) A (pyIter (.ref vw)) (fun it s₂ => TurnsAt prog w A h₀ env target body Q E it s₂) E s := by
  obtain ⟨_, kvs, hdo, hf⟩ := tab_base F T
  obtain ⟨ep, hat⟩ := hdo.dictAt
  have hv := N _ hvw
  have hne : d ≠ s.heap.objs.size := Nat.ne_of_lt hat.lt_size
  have hd0 : ∃ o, h₀.get? d = some o := by obtain ⟨_, _, hD, _⟩ := T; obtain ⟨o, _, _, e, _⟩ := hD; exact ⟨o, e⟩
  obtain ⟨od, hd0⟩ := hd0
  have hlen : kvs.length = c.length := by have := hf.length; rw [kdpD_length] at this; omega
  refine wpAny_pyIter_values ⟨_, hv.1, rfl, rfl⟩ hat ?_
  have W : KTurns prog w A target s.heap.objs.size _ _ _ _ _ _ := KTurns.ofWalks (Walks.dictValues (knd := strKind prog w) hh s.heap.objs.size d hne kvs ep) fun i v s Q E st q => letGo_valiter st.1 q
  refine turnsN (tk0 := s.toks) J W ?_ ?_ ?_ ?_ ⟨⟨_, Heap.get?_push_size _ rfl, rfl, rfl⟩, hat.push _⟩ (F.push _) (fun p hp => ⟨Heap.get?_push_of_some _ (N p hp).1, (N p hp).2⟩) hj ?_ ?_
  · intro hI
    have hb' : env.locals = s.heap.objs.size ∨ env.locals = d := by simpa using hI
    rcases hb' with e | e
    · exact absurd F.ns.lt (e ▸ Nat.lt_irrefl _)
    · exact absurd (Heap.lt_size hd0) (Nat.not_lt.mpr (e ▸ F.above))
  · intro b hb
    rw [List.mem_singleton.mp hb]
    exact next_is_new F
  · intro p hp hI
    exact absurd (Heap.lt_size (N p hp).1) ((List.mem_singleton.mp hI) ▸ Nat.lt_irrefl _)
  · intro p hp hI
    have hb' : p.1 = s.heap.objs.size ∨ p.1 = d := by simpa using hI
    rcases hb' with e | e
    · exact absurd (Heap.lt_size (N p hp).1) (e ▸ Nat.lt_irrefl _)
    · have := (N p hp).2.2
      rw [e, hd0] at this
      cases this
  · rintro i v m₁ news₁ h tk own hi ⟨k, hx⟩ hoff hJ F₁ N₁
    obtain ⟨dv, hD, hfl⟩ := hf.at hx
    have hc : c[i]? = some (c[i]'(by omega)) := by simp
    unfold kdpD at hD
    rw [List.getElem?_map, hc] at hD
    have hD' := Option.some.inj hD
    have e2 : dv = .int (c[i]'(by omega)).2 := (congrArg Prod.snd hD').symm
    subst e2
    obtain ⟨u, rfl⟩ := PyProof.V.Flat.int_inv hfl
    exact turn i _ _ u m₁ news₁ h tk own hc hoff hJ F₁ N₁
  · intro m₁ news₁ h tk hJ F₁ N₁
    exact done m₁ news₁ h tk (hlen ▸ hJ) F₁ N₁
end
local macro_rules | `(tactic| walk_at "call ref") => `(tactic| refine stop_of ?_)
local macro_rules | `(tactic| walk_at "exec For Name Call cons nil") => `(tactic| (k_dflt (refine' For_turns (by k_asm) ?_)))
local macro_rules | `(tactic| walk_at "call builtin:dict.values") => `(tactic| (k_dflt (refine' values_viewS (by k_asm) (by k_asm) (by assumption) ?_); intro V' h' F' N' l1; (try k_lt l1)))
noncomputable def sumTo (c : List (Str × Int)) (i : Nat) : Int := ((c.take i).map (·.2)).foldl (· + ·) 0
theorem sumTo_succ {c : List (Str × Int)} {i : Nat} {x : Str} {e : Int} (h : c[i]? = some (x, e)) : sumTo c (i + 1) = sumTo c i + e := by
  unfold sumTo
  rw [List.take_add_one, h]
  simp
theorem count_spec (w : World) (d1 : Addr) (c : List (Str × Int)) (hc : c.length ≤ 100) : Spec w 100 [.ref d1] 1 8 (fun h => StrTab PySem.Challenge.rw_xp0018_01.row.prog w h d1 (kdpD c)) (fun h v h' => ∃ t, v = .int (sumTo c c.length) t) := by
  intro p loose mean mg mb dp un gd cn cs a9 ccd cl outer A₀ base h₀ L m' s Q E B F X T hk hP hd hu hret
  walk_at "P enter"
  walk_at "P steps"
  refine go_of ?_
  rename News _ _ _ (_ :: _) => N1
  rename Fr _ _ _ _ => F1
  generalize hN : ((_, _) :: _ : List (Addr × Obj)) = nw at N1
  refine turns_vals (c := c) (fun i m nx => nx = [(_, _)] ∧ ∃ t, m "nc" = some (.int (sumTo c i) t)) rfl F1 N1 (mem_eq0 hN) (by assumption) (by exact ⟨hN.symm, _, rfl⟩) ?_ ?_
  · rintro i x e₁ u m₁ nx h₁ tk₁ own hi hoff ⟨rfl, t, e1⟩ F₁ N₁
    subst hN
    simp only [List.map_cons, List.map_nil] at hoff
    replace N₁ := news_cons N₁
    replace F₁ := fr_names [("nc", .int _ t)] F₁ ⟨e1, trivial⟩
    dsimp only [bindM] at F₁
    walk_at "P steps"
    exact inv_end1 (by k_asm) (by k_asm) ⟨rfl, _, congrArg (fun z => some (Value.int z _)) (sumTo_succ hi).symm⟩
  · rintro m₁ nx h₁ tk₁ ⟨rfl, t, e1⟩ F₁ N₁
    replace F₁ := fr_names [("nc", .int _ t)] F₁ ⟨e1, trivial⟩
    dsimp only [bindM] at F₁
    clear F1 N1 hN
    walk_at "P steps"
    exact hret _ _ _ (Fr.keep (by k_asm)) ⟨_, rfl⟩
end
section
/-- the law's own text from its n-th row on, read off the head -/
noncomputable def lawB (n : Nat) (w : World) : List Stmt × Scope := match (hd.heap_39 w.params).lookup 216 with
  | some ⟨_, _, .func fd, _⟩ => (match fd.body with | .stmts b => b.drop n | _ => [], fd.scope)
  | _ => ([], default)
noncomputable abbrev lawCl (c1 c2 c3 c4 c5 c6 : Addr) : List (Str × Addr) := [("due", c6), ("h", c5), ("home", c4), ("step", c3), ("k", c2), ("form", c1)]
theorem lawB_go {n : Nat} {w : World} {b : List Stmt} {sc : Scope} {M : Model} {dp un : Nat} {gd : Option (List Code)} {L a : Addr} {ccd : Value} {cl : List (Str × Addr)} {outer : List Env} {Q : Flow → Shared → Prop} {E : Value → Shared → Prop} {s : Shared}
    (e : lawB n w = (b, sc)) (h : wpAny M (ktrTop dp un gd "law" sc L a ccd cl outer) (execs b (envX "law" sc L a ccd cl)) Q E s) :
    wpAny M (ktrTop dp un gd "law" (lawB n w).2 L a ccd cl outer) (execs (lawB n w).1 (envX "law" (lawB n w).2 L a ccd cl)) Q E s := by rw [e]; exact h
theorem ne_succ {a b : Nat} (h : a ≠ b) : a + 1 ≠ b + 1 := fun e => h (Nat.succ.inj e)
theorem ne_up1 (a : Nat) : a ≠ a + 1 := by omega
theorem ne_up2 (a : Nat) : a ≠ a + 1 + 1 := by omega
theorem ne_up3 (a : Nat) : a ≠ a + 1 + 1 + 1 := by omega
theorem ne_up4 (a : Nat) : a ≠ a + 1 + 1 + 1 + 1 := by omega
theorem ne_up5 (a : Nat) : a ≠ a + 1 + 1 + 1 + 1 + 1 := by omega
end
section
section
variable {prog : Program} {w : World} {A : Around} {E : Value → Shared → Prop} {s : Shared} {h₀ : Heap} {L : Addr} {m : Str → Option Value} {news : List (Addr × Obj)}
theorem slApp_to {sl : Addr} {b n : Nat} {u : Tok} {Q : Int × Int × Nat → Shared → Prop} (hs : s.heap.IsSliceOf sl .none (.int b u) .none) (hb : b ≤ n) (h : Q (0, 1, b) s) :
    wpAny (model prog w) A (Builtin.Slice.sliceApplied (.ref sl) (pure (n : Int))) Q E s := by
  obtain ⟨os, hos, hcs, hds⟩ := id hs
  have e1 : Builtin.Slice.sliceAdjust none (some (b : Int)) 1 (n : Int) = (0, (b : Int)) := by
    unfold Builtin.Slice.sliceAdjust
    simp only [show ¬ ((1 : Int) < 0) by omega, show ¬ ((b : Int) < 0) by omega, if_false]
    congr 1
    omega
  have e2 : Builtin.Slice.slicePlaces 0 (b : Int) 1 = b := by
    unfold Builtin.Slice.slicePlaces
    simp only [show (1 : Int) > 0 by omega, if_true, Int.ediv_one]
    split <;> omega
  unfold Builtin.Slice.sliceApplied Builtin.Slice.sliceFields
  refine wpAny_bind (wpAny_bind (wpAny_field hos hds (x := .none) rfl (wpAny_bind (wpAny_field hos hds (x := .int b u) rfl (wpAny_bind (wpAny_field hos hds (x := .none) rfl (wpAny_pure ?_)))))))
  refine wpAny_bind (slicePart_none ?_)
  show wpAny _ _ (if ((1 : Int) == 0) = true then _ else _) _ _ s
  rw [if_neg (by decide)]
  refine wpAny_bind (slicePart_none (wpAny_bind (slicePart_int (wpAny_bind (wpAny_pure ?_)))))
  show wpAny _ _ (match Builtin.Slice.sliceAdjust none (some (b : Int)) 1 (n : Int) with | (lo, hi) => pure (lo, (1 : Int), Builtin.Slice.slicePlaces lo hi 1)) _ _ s
  rw [e1]
  show wpAny _ _ (pure ((0 : Int), (1 : Int), Builtin.Slice.slicePlaces 0 (b : Int) 1)) _ _ s
  rw [e2]
  exact wpAny_pure h
theorem getItem_to3 {t sl : Addr} {x0 x1 x2 x3 x4 : Value} {u : Tok} {Q : Value → Shared → Prop} (ht : IsTup s.heap t #[x0, x1, x2, x3, x4]) (hs : s.heap.IsSliceOf sl .none (.int 3 u) .none)
    (h : Q (.ref s.heap.objs.size) { s with heap := s.heap.push { cls := .type "tuple", data := .seq #[x0, x1, x2] } }) : wpAny (model prog w) A (getItem (.ref t) (.ref sl)) Q E s := by
  have hsz : sizeOk (.seq #[x0, x1, x2]) := by
    show #[x0, x1, x2].size ≤ sizeLine
    rw [sizeLine_eq]; simp
  obtain ⟨os, hos, hcs, hds⟩ := id hs
  have hTs : s.TypeIs (.ref sl) "slice" := ⟨os, hos, hcs⟩
  unfold getItem
  try with_reducible refine wpAny_holding ?_
  first | refine wpAny_bind (wpAny_pure ?_) | skip
  refine wpAny_bind (wpAny_sequenceKey ht.typeIs (by decide) ?_)
  refine wpAny_bind (wpAny_callSpecial?_slot (name := Str.ofString "__getitem__") ht.typeIs PySem.F.slot_tuple_getitem
    (wpAny_call_entry PySem.F.slot_tuple_getitem ht.typeIs PySem.F.entry_tuple_getitem ?_ (PySem.F.args_tuple_getitem_2 _ _)))
  show wpAny _ _ (Builtin.Tuple.tupleItemsOf (.ref t) >>= _) _ _ s
  refine wpAny_bind (tupleItemsOf_ ht ?_)
  refine wpAny_bind (wpAny_typeOf hTs ?_)
  rw [if_pos (by decide)]
  refine wpAny_bind (slApp_to (b := 3) (n := 5) hs (by decide) ?_)
  show wpAny _ _ (if ((0 : Int) == 0 && (1 : Int) == 1 && (3 : Nat) == 5) = true then _ else _) _ _ s
  rw [if_neg (by decide)]
  have e : ((List.range 3).filterMap fun (k : Nat) => #[x0, x1, x2, x3, x4][((0 : Int) + (k : Int) * 1).toNat]?).toArray = #[x0, x1, x2] := rfl
  rw [e]
  first
    | exact wpAny_bind (m := Builtin.Tuple.tupleExact _) (wpAny_newObj_type (wpAny_pure ⟨_, rfl, wpAny_pure h⟩) hsz)
    | exact wpAny_bind (m := Builtin.Tuple.tupleExact _) (wpAny_newObj_type (wpAny_bind (wpAny_pure (wpAny_pure ⟨_, rfl, wpAny_pure h⟩))) hsz)
    | exact wpAny_bind (wpAny_bind (m := Builtin.Tuple.tupleExact _) (wpAny_newObj_type (wpAny_pure (wpAny_pure ⟨_, rfl, wpAny_pure h⟩)) hsz))
    | exact wpAny_bind (wpAny_bind (m := Builtin.Tuple.tupleExact _) (wpAny_newObj_type (wpAny_pure ⟨_, rfl, wpAny_pure h⟩) hsz))
theorem slice_to3 {value slice : PySem.Expr} {t : Addr} {x0 x1 x2 x3 x4 : Value} {n : Nat} {u : Tok} {Q : Value → Shared → Prop}
    (F : Fr h₀ L s.heap m) (N : News h₀ L s.heap news) (hm : (t, ({ cls := .type "tuple", data := .seq #[x0, x1, x2, x3, x4] n } : Obj)) ∈ news)
    (h : ∀ (D : Addr) h', Fr h₀ L h' m → News h₀ L h' ((D, { cls := .type "tuple", data := .seq #[x0, x1, x2] }) :: news) → (∀ p ∈ news, p.1 < D) → Q (.ref D) { s with heap := h' })
    (hs : subscripted slice false (.ref t) (.ref s.heap.objs.size) = operate [.ref s.heap.objs.size, .ref t] (getItem (.ref t) (.ref s.heap.objs.size)))
    (hg : ∀ r, letTemporaryGo value (.ref t) r = pure ()) :
    wpAny (model prog w) A (subscriptTail value slice (.ref t) (.ref s.heap.objs.size)) Q E { s with heap := s.heap.push { cls := .type "slice", data := .fields #[.none, .int 3 u, .none] } } := by
  have ht : IsTup s.heap t #[x0, x1, x2, x3, x4] := ⟨_, (N _ hm).1, rfl, _, rfl⟩
  have ht' : IsTup (s.heap.push { cls := .type "slice", data := .fields #[.none, .int 3 u, .none] }) t #[x0, x1, x2, x3, x4] := ht.keeps fun _ _ e => Heap.get?_push_of_some _ e
  refine subscriptTail_ops (s := { s with heap := s.heap.push { cls := .type "slice", data := .fields #[.none, .int 3 u, .none] } }) ht'.typeIs PySem.F.slot_tuple_getitem.lookup
    (getItem_to3 ht' (Heap.IsSliceOf.new ..) ?_) hs hg
  have N1 := News.push (F.push { cls := .type "slice", data := .fields #[.none, .int 3 u, .none] }) (N.grown fun _ _ e => Heap.get?_push_of_some _ e) { cls := .type "tuple", data := .seq #[x0, x1, x2] }
  rw [Heap.size_push] at N1
  show Q (.ref (s.heap.push _).objs.size) _
  rw [Heap.size_push]
  exact h _ _ ((F.push _).push _) N1 fun p hp => Nat.lt_succ_of_lt (Heap.lt_size (N p hp).1)
end
end
section
local macro_rules | `(tactic| walk_at "exec While") => `(tactic| refine stop_of ?_)
local macro_rules | `(tactic| walk_at "exec For") => `(tactic| refine stop_of ?_)
local macro_rules | `(tactic| walk_at "exec While Name cons nil") => `(tactic| refine stop_of ?_)
local macro_rules | `(tactic| walk_at "exec For Name Name cons nil") => `(tactic| refine stop_of ?_)
local macro_rules | `(tactic| walk_at "exec For Name Call cons nil") => `(tactic| refine stop_of ?_)

local macro_rules | `(tactic| walk_at "pyIter ref") => `(tactic| refine stop_of ?_)

local macro_rules | `(tactic| walk_at "call ref") => `(tactic| refine stop_of ?_)
section
variable {prog : Program} {w : World} {A : Around} {E : Value → Shared → Prop} {s : Shared} {h₀ : Heap} {L : Addr} {news : List (Addr × Obj)}
theorem ne_sameN {a b : Addr} {vs us : List Value} {n n' : Nat} {ns : List Int} {Q : Value → Shared → Prop} (N : News h₀ L s.heap news) (ha : (a, listOf vs.toArray n) ∈ news) (hb : (b, listOf us.toArray n') ∈ news) (hi : IntsAre vs ns) (hi' : IntsAre us ns) (hu : A.units + 64 < cLine)
    (h : Q (.bool false) s) : wpAny (model prog w) A (compareOp .NotEq (.ref a) (.ref b)) Q E s :=
  ne_intsK ⟨_, (N _ ha).1, rfl, _, rfl⟩ hi ⟨_, (N _ hb).1, rfl, _, rfl⟩ hi' hu (by rw [decide_eq_true rfl]; exact h)
theorem item_tupN {value slice : PySem.Expr} {t : Addr} {n : Nat} {l : List Value} {k : Int} {u : Tok} {j : Nat} {x : Value} {Q : Value → Shared → Prop} (N : News h₀ L s.heap news) (hm : (t, ({ cls := .type "tuple", data := .seq l.toArray n } : Obj)) ∈ news)
    (hlo : -(2 ^ 63) ≤ k) (hhi : k < 2 ^ 63) (hj : seqIndex? k l.length = some j) (hx : l[j]? = some x) (h : Q x s)
    (hs : subscripted slice false (.ref t) (.int k u) = operate [.ref t, .int k u] (getItem (.ref t) (.int k u)) := by with_unfolding_all rfl) :
    wpAny (model prog w) A (subscriptTail value slice (.ref t) (.int k u)) Q E s := item_tupleT ⟨_, (N _ hm).1, rfl, _, rfl⟩ hlo hhi hj hx h hs
theorem tabN {knd : KeyKind prog w Str} {D : Addr} {o : Obj} {kvs : List (Str × Value)} {P : List (PyData × PyData)} (N : News h₀ L s.heap news) (hm : (D, o) ∈ news) (lo : (D == sysModules) = false) (hd : o.IsDictOf knd kvs) (hf : PyProof.V.FlatPairs PyData.str kvs P) : TabAt knd PyData.str s.heap D P :=
  TabAt.ofObj lo (N _ hm).1 hd hf
theorem ne_int_same {a b : Int} {t u : Tok} {Q : Value → Shared → Prop} (e : a = b) (h : Q (.bool false) s) : wpAny (model prog w) A (compareOp .NotEq (.int a t) (.int b u)) Q E s := by
  subst e
  exact ne_int (by rw [bne_self_eq_false]; exact h)
end
local macro_rules | `(tactic| k_mem) => `(tactic| first | with_reducible assumption | ((with_reducible show List.Mem _ _); assumption))
local macro_rules | `(tactic| walk_at "compareOp NotEq ref ref") => `(tactic| (k_dflt (refine' ne_sameN (by k_asm) (by walk_at "S") (by walk_at "S") (by walk_at "S") (by walk_at "S") (by ktr_units) ?_)))
local macro_rules | `(tactic| walk_at "subscriptTail Name Slice ref ref") => `(tactic| (k_dflt (refine' slice_to3 (by k_asm) (by k_asm) (by walk_at "S") ?_ (by walk_at "U") (by walk_at "V")); intro D' h' F' N' l1; (try k_lt l1)))
local macro_rules | `(tactic| walk_at "subscriptTail Name Constant ref int") => `(tactic| (k_dflt (refine' item_tupN (by k_asm) (by k_mem) (by decide) (by decide) (by walk_at "R") (by walk_at "R") ?_ (by walk_at "U"))))
local macro_rules | `(tactic| walk_at "call builtin:len") => `(tactic| (k_dflt (refine' kdp_len (tabN (by k_asm) (by k_mem) (by walk_at "S") (by walk_at "S") (by walk_at "S")) (by omega) ?_)))
local macro_rules | `(tactic| walk_at "compareOp NotEq int int") => `(tactic| (refine ne_int_same ?e ?_; (case e => first | rfl | omega)))
theorem prod_bd {k d : Int} (h0 : 5 ≤ k) (h1 : k ≤ 12) (h : -1000 ≤ d ∧ d ≤ 1000) : -100000 ≤ 2 * k * d ∧ 2 * k * d ≤ 100000 := by
  have u0 : 0 ≤ 2 * k := by omega
  have a := Int.mul_le_mul_of_nonneg_left h.2 u0
  have b := Int.mul_le_mul_of_nonneg_left h.1 u0
  clear h
  generalize 2 * k * d = y at a b
  omega
theorem mul_okd {k d : Int} (h0 : 5 ≤ k) (h1 : k ≤ 12) (h : -1000 ≤ d ∧ d ≤ 1000) (b : Int) : IntMulOk (2 * k * d) b := by
  obtain ⟨x, y⟩ := prod_bd h0 h1 h
  generalize 2 * k * d = z at x y
  exact IntMulOk.of_left (PySem.intBits_le_64 (by omega) (by omega))
noncomputable def SqEq (S k d step : Int) : Prop := 3 * S = 2 * k * d * (60 * step) ^ 2
theorem q_bool {Q : Flow → Shared → Prop} {b : Bool} {s : Shared} (e : b = true) (h : Q (.ret (.bool true)) s) : Q (.ret (.bool b)) s := e ▸ h
theorem sq_beq {S k d step : Int} (h : SqEq S k d step) : (3 * S == 2 * k * d * (60 * step) ^ (2 : Int).toNat) = true := beq_iff_eq.mpr h
theorem sq_dec {S k d step : Int} (h : SqEq S k d step) : decide (3 * S = 2 * k * d * (60 * step) ^ (2 : Int).toNat) = true := decide_eq_true h
local macro_rules | `(tactic| walk_at "binaryOp Mult int int") => `(tactic| (refine mul_int ?_ (‹∀ b : Int, IntMulOk _ b› _)))
theorem stD (w : World) {p : Program} {loose : List Str} {mean : ExcName → Option Value} {mg mb : Str → Option Value} {dp un : Nat} {gd : Option (List Code)} {a : Addr} {ccd : Value} {outer : List Env} {A₀ : Around} {base h₀ : Heap} {L : Addr} {m : Str → Option Value} {s : Shared} {Q : Flow → Shared → Prop} {news : List (Addr × Obj)}
    {c1 c2 c3 c4 c5 c6 : Addr} {oK oH oS oT : Obj} {D1 D2 D3 T TD : Addr} {k h step S3 d : Int} {tk th ts : Tok} {u0 u1 u2 u3 : Tok} {xv tv zv : List Value} {x : List Int} {n1 n2 n3 nT : Nat} {c : List (Str × Int)} {kvs : List (Str × Value)}
    (B : Below A₀ base outer h₀) (F : Fr h₀ L s.heap m) (X : (hd.heap_39 w.params).In h₀) (N : News h₀ L s.heap news) (T0 : Top p loose mean mg mb h₀) (hroom : dp + 20 < recursionLimit) (hun : un + 200 < cLine)
    (hm : AllM m [("dots", .ref D1), ("texts", .ref D2), ("zones", .ref D3), ("told", .ref T)])
    (mK : (c2, oK) ∈ news) (dK : oK.data = .cell (some (.int k tk))) (mH : (c5, oH) ∈ news) (dH : oH.data = .cell (some (.int h th))) (mS : (c3, oS) ∈ news) (dS : oS.data = .cell (some (.int step ts)))
    (m1 : (D1, listOf xv.toArray n1) ∈ news) (m2 : (D2, listOf tv.toArray n2) ∈ news) (m3 : (D3, listOf zv.toArray n3) ∈ news) (i1 : IntsAre xv x) (i2 : IntsAre tv x) (i3 : IntsAre zv x)
    (mT : (T, ({ cls := .type "tuple", data := .seq #[.int d u0, .int d u1, .int d u2, .int S3 u3, .ref TD] nT } : Obj)) ∈ news)
    (mD : (TD, oT) ∈ news) (lo : (TD == sysModules) = false) (hdo : oT.IsDictOf (strKind PySem.Challenge.rw_xp0018_01.row.prog w) kvs) (hfl : PyProof.V.FlatPairs PyData.str kvs (kdpD c))
    (hk0 : 5 ≤ k) (hk1 : k ≤ 12) (hh0 : 2 ≤ h) (hh1 : h < k) (hs0 : 1 ≤ step) (hs1 : step ≤ 60) (hc : (c.length : Int) = k - 1) (hdis : disF 12 h k = d) (hsum : sumTo c c.length = d) (heq : SqEq S3 k d step)
    (hret : ∀ h' tk', (∀ b o, h₀.get? b = some o → h'.get? b = some o) → Q (.ret (.bool true)) { s with heap := h', toks := tk' }) :
    wpAny (model PySem.Challenge.rw_xp0018_01.row.prog w) (ktrTop dp un gd "law" (lawB 13 w).2 L a ccd (lawCl c1 c2 c3 c4 c5 c6) outer) (execs (lawB 13 w).1 (envX "law" (lawB 13 w).2 L a ccd (lawCl c1 c2 c3 c4 c5 c6))) Q (fun _ _ => False) s := by
  refine' lawB_go (b := ?b) (sc := ?sc) ?e ?_
  case e => exact rfl
  dsimp only [List.drop_succ_cons, List.drop_zero]
  replace F := fr_names [("dots", .ref D1), ("texts", .ref D2), ("zones", .ref D3), ("told", .ref T)] F hm
  dsimp only [bindM] at F
  walk_at "P steps"
  refine go_of ?_
  refine' spec_use (disF_spec w 12 (by decide) h k th tk (by omega) (by omega) (by omega) (by omega)) ?k1 ?k2 ?k3 ?k4 ?k5 ?kK trivial ?kd ?ku ?_
  case k1 => k_asm
  case k2 => k_asm
  case k3 => k_asm
  case k4 => k_asm
  case k5 => k_asm
  case kK => exact rfl
  case kd => ktr_room
  case ku => ktr_units
  rintro v9 h9 tk9 F9 N9 g9 ⟨t9, rfl⟩
  rw [hdis]
  have bd : -1000 ≤ d ∧ d ≤ 1000 := hdis ▸ disF_le (n := 12) (h := h) (k := k) (by omega) (by omega) (by omega) (by omega) (by omega)
  walk_at "P steps"
  refine go_of ?_
  refine' spec_use (count_spec w TD c (by omega)) ?k1 ?k2 ?k3 ?k4 ?k5 ?kK ?kP ?kd ?ku ?_
  case k1 => k_asm
  case k2 => k_asm
  case k3 => k_asm
  case k4 => k_asm
  case k5 => k_asm
  case kK => exact rfl
  case kP => exact tabN (by k_asm) (.tail _ (.tail _ mD)) lo hdo (by assumption)
  case kd => ktr_room
  case ku => ktr_units
  rintro v9 h9 tk9 F9 N9 g9 ⟨t9, rfl⟩
  rw [hsum]
  have bm := mul_okd hk0 hk1 bd
  walk_at "P steps"
  refine q_bool ?_ (hret _ _ (Fr.keep (by k_asm)))
  first | exact sq_beq heq | exact sq_dec heq
end
section
/-- a turn's end where the ledger may have grown -/
noncomputable def InvEndG (h₀ : Heap) (L : Addr) (J : (Str → Option Value) → List (Addr × Obj) → Prop) (own : List (Addr × Obj)) (s₁ s₂ : Shared) : Prop :=
  ∃ h' tk m' news' nx, s₂ = { s₁ with heap := h', toks := tk } ∧ Fr h₀ L h' m' ∧ News h₀ L h' news' ∧ (∀ p ∈ nx, p ∈ news') ∧ (∀ p ∈ own, p ∈ news') ∧ (∀ p ∈ nx, ∀ q ∈ own, p.1 ≠ q.1) ∧ J m' nx
noncomputable def InvPostG (h₀ : Heap) (L : Addr) (J : (Str → Option Value) → List (Addr × Obj) → Prop) (own : List (Addr × Obj)) (s₁ : Shared) (Q : Flow → Shared → Prop) (f : Flow) (s₂ : Shared) : Prop :=
  match f with
  | .ret v => Q (.ret v) s₂
  | .brk => Q .next s₂
  | _ => InvEndG h₀ L J own s₁ s₂
section
variable {prog : Program} {w : World} {A : Around} {E : Value → Shared → Prop} {s : Shared} {env : Env} {h₀ : Heap} {x : Str} {body : List Stmt} {Q : Flow → Shared → Prop}
theorem kpr_invG {r : Addr} {a₀ b₀ : Int} {t₀ u₀ v₀ : Tok} {n : Nat} {m₀ : Str → Option Value} {news : List (Addr × Obj)} (J : Nat → (Str → Option Value) → List (Addr × Obj) → Prop)
    (hh : A.handled = none) (hr : IsRange s.heap r a₀ b₀ 1 t₀ u₀ v₀) (hsmall : Builtin.Range.small a₀ b₀ 1 = true) (hn : Builtin.Range.rangeSize a₀ b₀ 1 = (n : Int)) (F : Fr h₀ env.locals s.heap m₀) (N : News h₀ env.locals s.heap news) (hj : J 0 m₀ news)
    (turn : ∀ i k t m₁ nx h tk own, (rangeKs a₀ n)[i]? = some k → (∀ p ∈ nx, ∀ q ∈ own, p.1 ≠ q.1) → J i m₁ nx → Fr h₀ env.locals h (fun y => if y = x then some (.int k t) else m₁ y) → News h₀ env.locals h (nx ++ own) →
      wpAny (model prog w) A (execs body env) (InvPostG h₀ env.locals (J (i + 1)) own { s with heap := h, toks := tk } Q) E { s with heap := h, toks := tk })
    (done : ∀ m₁ nx h tk, J (rangeKs a₀ n).length m₁ nx → Fr h₀ env.locals h m₁ → News h₀ env.locals h nx → Q .next { s with heap := h, toks := tk }) :
    wpAny (model prog w) A (pyIter (.ref r)) (fun it s₂ => LoopAtV prog w A h₀ env x body Q E it s₂) E s := by
  refine wpAny_pyIter_range hr hsmall ?_
  have W : Walks prog w A s.heap.objs.size [s.heap.objs.size] [s.heap.objs.size] n (fun i v => i < n ∧ ∃ t, v = .int (a₀ + i * 1) t)
      (fun i h => IsRangeIter h s.heap.objs.size (a₀ + (i : Nat) * 1) ((n : Int) - (i : Nat)) 1) := (Walks.range hh _ a₀ 1 n).bound
  refine ⟨_, _, _, n, _, _, m₀, news, J, rfl, W, ?_, ?_, ?_, (by show IsRangeIter _ _ _ _ _; rw [hn]; simpa using Heap.get?_push_size _ rfl), F.push _, (fun p hp => ⟨Heap.get?_push_of_some _ (N p hp).1, (N p hp).2⟩), hj, ?_, ?_⟩
  · intro hm
    exact absurd F.ns.lt ((List.mem_singleton.mp hm) ▸ Nat.lt_irrefl _)
  · intro b hb
    rw [List.mem_singleton.mp hb]
    exact next_is_new F
  · intro p hp hI
    exact absurd (Heap.lt_size (N p hp).1) ((List.mem_singleton.mp hI) ▸ Nat.lt_irrefl _)
  · rintro i v m₁ news₁ s₁ own ⟨hh', tk', rfl⟩ hi ⟨_, t, rfl⟩ hJ hoff hown hget hall hst F₁ N₁
    have hk : (rangeKs a₀ n)[i]? = some (a₀ + (i : Int)) := by simp [rangeKs, hi]
    simp only [Int.mul_one] at F₁
    have N₂ : News h₀ env.locals hh' (news₁ ++ own) := fun p hp => N₁ p ((List.mem_append.mp hp).elim (fun h => List.mem_append.mpr (.inr h)) fun h => List.mem_append.mpr (.inl h))
    have sep : ∀ p ∈ news₁, ∀ q ∈ own, p.1 ≠ q.1 := fun p hp q hq e => hoff p hp (e ▸ hown q hq)
    have hI : (s.heap.objs.size, _) ∈ own := hall s.heap.objs.size (.head _) (next_is_new F) _ hst
    refine wpAny_mono (turn i _ t m₁ news₁ hh' tk' own hk sep hJ F₁ N₂) (fun f s₂ p => ?_) fun _ _ e => e
    have fin : InvEndG h₀ env.locals (J (i + 1)) own { s with heap := hh', toks := tk' } s₂ → LoopStepU h₀ env.locals [s.heap.objs.size] own (J (i + 1)) { s with heap := hh', toks := tk' } .next s₂ := by
      rintro ⟨h', tk, m', news', nx, e, F', N', hn, ho, ha, hm⟩
      exact ⟨rfl, h', tk, m', nx, e, F', fun p hp => N' p ((List.mem_append.mp hp).elim (ho p) (hn p)), fun p hp hq => ha p hp _ hI (List.mem_singleton.mp hq), hm⟩
    cases f with
    | ret v => exact p
    | brk => exact p
    | next => exact fin p
    | cont => exact fin p
  · rintro h' tk m' news' F' N' _ hJ
    exact done m' news' h' tk (by rw [rangeKs_length]; exact hJ) F' N'
end
theorem inv_endG {h₀ h' : Heap} {L : Addr} {J : (Str → Option Value) → List (Addr × Obj) → Prop} {m' : Str → Option Value} {nx own : List (Addr × Obj)} {a b c d : Addr × Obj} {s₁ : Shared} {tk : Nat} (F : Fr h₀ L h' m') (N : News h₀ L h' (a :: b :: c :: d :: (nx ++ own)))
    (za : ∀ q ∈ own, q.1 ≠ a.1) (zb : ∀ q ∈ own, q.1 ≠ b.1) (hsep : ∀ p ∈ nx, ∀ q ∈ own, p.1 ≠ q.1) (hj : J m' (a :: b :: nx)) : InvEndG h₀ L J own s₁ { s₁ with heap := h', toks := tk } := by
  refine ⟨h', tk, m', _, a :: b :: nx, rfl, F, N, fun p hp => ?_, fun p hp => ?_, fun p hp q hq => ?_, hj⟩
  · simp only [List.mem_cons, List.mem_append] at hp ⊢
    rcases hp with hp | hp | hp <;> simp [hp]
  · simp [hp]
  · simp only [List.mem_cons] at hp
    rcases hp with rfl | rfl | hp
    · exact (za q hq).symm
    · exact (zb q hq).symm
    · exact hsep p hp q hq
end
section
/-- the card dealt at turn i -/
noncomputable abbrev cdI (ds : List Int) (i : Nat) : Int := ds.getD (1 + (i : Int) - 1).toNat 0
noncomputable def accS (ds x : List Int) : Nat → Int
  | 0 => 0
  | i + 1 => x.getD (cdI ds i).toNat 0 + accS ds x i
noncomputable abbrev offI (ds os : List Int) (i : Nat) : Int := os.getD (cdI ds i).toNat 0 - os.getD (1 + (i : Int)).toNat 0
noncomputable def accQ (ds os : List Int) : Nat → Int
  | 0 => 0
  | i + 1 => offI ds os i * offI ds os i + accQ ds os i
noncomputable def tabC (ds x : List Int) : Nat → List (Str × Int)
  | 0 => []
  | i + 1 => tabC ds x i ++ [(pad2 (cdI ds i), x.getD (cdI ds i).toNat 0)]
theorem tabC_len (ds x : List Int) : ∀ n, (tabC ds x n).length = n
  | 0 => rfl
  | n + 1 => by unfold tabC; rw [List.length_append, tabC_len ds x n]; rfl
theorem tabC_take (ds x : List Int) : ∀ n i, i ≤ n → (tabC ds x n).take i = tabC ds x i
  | 0, i, h => by obtain rfl : i = 0 := by omega
                  rfl
  | n + 1, i, h => by
    rcases Nat.lt_or_ge n i with h1 | h1
    · obtain rfl : i = n + 1 := by omega
      exact List.take_of_length_le (by rw [tabC_len]; exact Nat.le_refl _)
    · rw [tabC, List.take_append_of_le_length (by rw [tabC_len]; exact h1)]
      exact tabC_take ds x n i h1
theorem tabC_getD (ds x : List Int) : ∀ n i, i < n → (tabC ds x n).getD i ("", 0) = (pad2 (cdI ds i), x.getD (cdI ds i).toNat 0)
  | 0, i, h => absurd h (Nat.not_lt_zero _)
  | n + 1, i, h => by
    rcases Nat.lt_or_ge i n with h1 | h1
    · rw [tabC, List.getD_eq_getElem?_getD, List.getElem?_append_left (by rw [tabC_len]; exact h1), ← List.getD_eq_getElem?_getD]
      exact tabC_getD ds x n i h1
    · obtain rfl : i = n := by omega
      rw [tabC, List.getD_eq_getElem?_getD, List.getElem?_append_right (by rw [tabC_len]; exact Nat.le_refl _), tabC_len]
      simp
theorem tabC_put {ds x : List Int} {n : Nat} (hkey : ∀ i, i < n → kdpHas (tabC ds x i) (pad2 (cdI ds i)) = false) : ∀ i, i < (tabC ds x n).length → kdpPut ((tabC ds x n).take i) ((tabC ds x n).getD i ("", 0)).1 ((tabC ds x n).getD i ("", 0)).2 = (tabC ds x n).take (i + 1) := by
  intro i hi
  rw [tabC_len] at hi
  rw [tabC_getD ds x n i hi, tabC_take ds x n i (Nat.le_of_lt hi), tabC_take ds x n (i + 1) hi, put_new (hkey i hi)]
  rfl
theorem sumTo_tab (ds x : List Int) : ∀ n, sumTo (tabC ds x n) (tabC ds x n).length = accS ds x n
  | 0 => rfl
  | n + 1 => by
    have ih := sumTo_tab ds x n
    rw [tabC_len] at ih ⊢
    have e : (tabC ds x (n + 1))[n]? = some (pad2 (cdI ds n), x.getD (cdI ds n).toNat 0) := by
      rw [tabC, List.getElem?_append_right (by rw [tabC_len]; exact Nat.le_refl _), tabC_len]
      simp
    rw [sumTo_succ e]
    have e2 : sumTo (tabC ds x (n + 1)) n = sumTo (tabC ds x n) n := by
      unfold sumTo
      rw [tabC_take ds x (n + 1) n (by omega), tabC_take ds x n n (by omega)]
    rw [e2, ih, accS]
    omega
end
section
local macro_rules | `(tactic| walk_at "pyIter ref") => `(tactic| refine stop_of ?_)

local macro_rules | `(tactic| walk_at "binaryOp Mod str int") => `(tactic| (k_dflt (refine' mod02 (by decide +kernel) (by walk_at "A") (by walk_at "A") ?_); intro _ _))

local macro_rules | `(tactic| walk_at "call ref") => `(tactic| refine stop_of ?_)
local macro_rules | `(tactic| k_mem) => `(tactic| first | with_reducible assumption | ((with_reducible show List.Mem _ _); assumption))
section
variable {prog : Program} {w : World} {A : Around} {E : Value → Shared → Prop} {s : Shared} {h₀ : Heap} {L : Addr} {news : List (Addr × Obj)}
theorem item_intsN {a : Addr} {n : Nat} {vs : List Value} {ns : List Int} {k : Int} {u : Tok} {value slice : PySem.Expr} {Q : Value → Shared → Prop} (N : News h₀ L s.heap news) (hm : (a, listOf vs.toArray n) ∈ news) (hi : IntsAre vs ns) (h0 : 0 ≤ k) (h1 : k < ns.length) (hfit : k < 2 ^ 63) (h : ∀ t, Q (.int (ns.getD k.toNat 0) t) s)
    (hs : subscripted slice false (.ref a) (.int k u) = operate [.ref a, .int k u] (getItem (.ref a) (.int k u)) := by with_unfolding_all rfl) :
    wpAny (model prog w) A (subscriptTail value slice (.ref a) (.int k u)) Q E s :=
  item_anyK ⟨_, (N _ hm).1, rfl, _, rfl⟩ hi h0 h1 hfit h hs
theorem ne_of_lts {d : Addr} {l : List (Addr × Obj)} (h : ∀ p ∈ l, p.1 < d) : ∀ p ∈ l, p.1 ≠ d := fun p hp => Nat.ne_of_lt (h p hp)
end
local macro_rules | `(tactic| k_all) => `(tactic| assumption)
local macro_rules | `(tactic| walk_at "eval Dict") => `(tactic| (k_dflt (refine' kdn_eval (knd := PySem.strKind _ _) (by k_asm) (by k_asm) (by exact Top.nolimit (by k_asm)) (by rfl) (by rfl) (by exact List.cons_ne_nil _ _) (by exact Nat.le_of_ble_eq_true rfl) ?_); intro d' h' o' F' N' l1 lo' hd'; have ap' := ne_of_lts l1))
local macro_rules | `(tactic| walk_at "subscriptTail Name BinOp ref int") => `(tactic| (k_dflt (refine' item_intsN (by k_asm) (by k_mem) (by walk_at "S") (by walk_at "A") (by walk_at "A") (by walk_at "A") ?_ (by walk_at "U"); intro _)))
local macro_rules | `(tactic| walk_at "subscriptTail Name Name ref int") => `(tactic| (k_dflt (refine' item_intsN (by k_asm) (by k_mem) (by walk_at "S") (by walk_at "A") (by walk_at "A") (by walk_at "A") ?_ (by walk_at "U"); intro _)))
theorem z1m (i : Nat) : (0 : Int) ≤ 1 + (i : Int) - 1 := by omega
theorem z1p (i : Nat) : (0 : Int) ≤ 1 + (i : Int) := by omega
theorem lt1m {i n : Nat} (h : i < n) : 1 + (i : Int) - 1 < (n : Int) := by omega
theorem stC (w : World) {p : Program} {loose : List Str} {mean : ExcName → Option Value} {mg mb : Str → Option Value} {dp un : Nat} {gd : Option (List Code)} {a : Addr} {ccd : Value} {outer : List Env} {A₀ : Around} {base h₀ : Heap} {L : Addr} {m : Str → Option Value} {s : Shared} {Q : Flow → Shared → Prop} {news : List (Addr × Obj)}
    {c1 c2 c3 c4 c5 c6 : Addr} {oK oH oS : Obj} {D1 D2 D3 Dk Of : Addr} {k h step d : Int} {tk th ts : Tok} {xv tv zv dv ov : List Value} {x ds os : List Int} {n1 n2 n3 n4 n5 : Nat}
    (B : Below A₀ base outer h₀) (F : Fr h₀ L s.heap m) (X : (hd.heap_39 w.params).In h₀) (N : News h₀ L s.heap news) (T0 : Top p loose mean mg mb h₀) (hroom : dp + 20 < recursionLimit) (hun : un + 200 < cLine)
    (hm : AllM m [("deck", .ref Dk), ("offsets", .ref Of), ("dots", .ref D1), ("texts", .ref D2), ("zones", .ref D3)])
    (mK : (c2, oK) ∈ news) (dK : oK.data = .cell (some (.int k tk))) (mH : (c5, oH) ∈ news) (dH : oH.data = .cell (some (.int h th))) (mS : (c3, oS) ∈ news) (dS : oS.data = .cell (some (.int step ts)))
    (m1 : (D1, listOf xv.toArray n1) ∈ news) (m2 : (D2, listOf tv.toArray n2) ∈ news) (m3 : (D3, listOf zv.toArray n3) ∈ news) (i1 : IntsAre xv x) (i2 : IntsAre tv x) (i3 : IntsAre zv x)
    (m4 : (Dk, listOf dv.toArray n4) ∈ news) (i4 : IntsAre dv ds) (m5 : (Of, listOf ov.toArray n5) ∈ news) (i5 : IntsAre ov os)
    (hk0 : 5 ≤ k) (hk1 : k ≤ 12) (hh0 : 2 ≤ h) (hh1 : h < k) (hs0 : 1 ≤ step) (hs1 : step ≤ 60) (lx : (x.length : Int) = k) (ld : (ds.length : Int) = k - 1) (lo : (os.length : Int) = k)
    (hds : ∀ c ∈ ds, 1 ≤ c ∧ c < k) (hos : ∀ o ∈ os, -43200 ≤ o ∧ o ≤ 43200) (hkey : ∀ i, i < ds.length → kdpHas (tabC ds x i) (pad2 (cdI ds i)) = false)
    (hdis : disF 12 h k = d) (hsum : accS ds x ds.length = d) (heq : SqEq (accQ ds os ds.length) k d step)
    (hret : ∀ h' tk', (∀ b o, h₀.get? b = some o → h'.get? b = some o) → Q (.ret (.bool true)) { s with heap := h', toks := tk' }) :
    wpAny (model PySem.Challenge.rw_xp0018_01.row.prog w) (ktrTop dp un gd "law" (lawB 11 w).2 L a ccd (lawCl c1 c2 c3 c4 c5 c6) outer) (execs (lawB 11 w).1 (envX "law" (lawB 11 w).2 L a ccd (lawCl c1 c2 c3 c4 c5 c6))) Q (fun _ _ => False) s := by
  refine' lawB_go (b := ?b) (sc := ?sc) ?e ?_
  case e => exact rfl
  dsimp only [List.drop_succ_cons, List.drop_zero]
  replace F := fr_names [("deck", .ref Dk), ("offsets", .ref Of), ("dots", .ref D1), ("texts", .ref D2), ("zones", .ref D3)] F hm
  dsimp only [bindM] at F
  walk_at "P steps"
  refine go_of ?_
  rename IsRange _ _ _ _ _ _ _ _ => hr
  rename Fr _ _ _ _ => F1
  rename News _ _ _ (_ :: _) => N1
  generalize hN : ((_, ({ cls := _, data := _ } : Obj)) :: _ : List (Addr × Obj)) = nw at N1
  refine kpr_invG (n := ds.length) (fun i m nx => ∃ T TD oT kvs u0 u1 u2 u3 nT, (∀ p ∈ news, p ∈ nx) ∧ (T, ({ cls := .type "tuple", data := .seq #[.int (accS ds x i) u0, .int (accS ds x i) u1, .int (accS ds x i) u2, .int (accQ ds os i) u3, .ref TD] nT } : Obj)) ∈ nx ∧ (TD, oT) ∈ nx ∧ (TD == sysModules) = false ∧ oT.IsDictOf (strKind PySem.Challenge.rw_xp0018_01.row.prog w) kvs ∧ PyProof.V.FlatPairs PyData.str kvs (kdpD (tabC ds x i)) ∧
    m "told" = some (.ref T) ∧ m "deck" = some (.ref Dk) ∧ m "offsets" = some (.ref Of) ∧ m "dots" = some (.ref D1) ∧ m "texts" = some (.ref D2) ∧ m "zones" = some (.ref D3)) rfl hr (rng_smallF (n := ds.length) (by decide) (by decide) (by omega) (by omega)) (rng_sizeF (n := ds.length) (by omega)) F1 N1 (by exact ⟨_, _, _, _, _, _, _, _, _, fun p hp => (by rw [← hN]; exact .tail _ (.tail _ hp)), mem_eq0 hN, mem_eq1 hN, by assumption, by assumption, .nil, rfl, rfl, rfl, rfl, rfl, rfl⟩) ?_ ?_
  · rintro i k' t m₁ nx h₁ tk₁ own hi hsep ⟨T, TD, oT, kvs, u0, u1, u2, u3, nT, hall, mT, mD, lo1, hd1, hf1, e0, e1, e2, e3, e4, e5⟩ F₁ N₁
    obtain ⟨rfl, hi'⟩ := rng_at hi
    replace F₁ := fr_names [("place", .int (1 + (i : Int)) t), ("told", .ref T), ("deck", .ref Dk), ("offsets", .ref Of), ("dots", .ref D1), ("texts", .ref D2), ("zones", .ref D3)] F₁ ⟨nm_eq, nm_ne (y := "told") (by decide) e0, nm_ne (y := "deck") (by decide) e1, nm_ne (y := "offsets") (by decide) e2, nm_ne (y := "dots") (by decide) e3, nm_ne (y := "texts") (by decide) e4, nm_ne (y := "zones") (by decide) e5, trivial⟩
    dsimp only [bindM] at F₁
    clear hr F1 hi
    have M1 := List.mem_append_left own (hall _ m1)
    have M2 := List.mem_append_left own (hall _ m2)
    have M3 := List.mem_append_left own (hall _ m3)
    have M4 := List.mem_append_left own (hall _ m4)
    have M5 := List.mem_append_left own (hall _ m5)
    have MT := List.mem_append_left own mT
    have MD := List.mem_append_left own mD
    have b1 : 1 + (i : Int) < (os.length : Int) := by omega
    have lo12 : os.length ≤ 12 := by omega
    obtain ⟨p0, p1⟩ := hds (ds.getD (1 + (i : Int) - 1).toNat 0) (getD_mem (by omega))
    obtain ⟨q0, q1⟩ := hos (os.getD (ds.getD (1 + (i : Int) - 1).toNat 0).toNat 0) (getD_mem (by omega))
    obtain ⟨r0, r1⟩ := hos (os.getD (1 + (i : Int)).toNat 0) (getD_mem (by omega))
    have hk1' := hkey i hi'
    have a0 := z1m i
    have a1 := lt1m hi'
    have a2 := lt63 a1 (show ds.length ≤ 12 by omega)
    have c0 : 0 ≤ ds.getD (1 + (i : Int) - 1).toNat 0 := Int.le_trans (by decide) p0
    have c1 : ds.getD (1 + (i : Int) - 1).toNat 0 < (os.length : Int) := lo ▸ p1
    have c1' : ds.getD (1 + (i : Int) - 1).toNat 0 < (x.length : Int) := lx ▸ p1
    have c2 := lt63 c1 lo12
    have b0 := z1p i
    have b2 := lt63 b1 lo12
    walk_at "P steps"
    refine go_of ?_
    rename News _ _ _ (_ :: _) => NX
    rename Fr _ _ _ _ => FX
    refine' spec_use (stats_spec w T _ TD _ _ _ _ _ _ _ _ _ _ _ _ _ _ _ _ _ (tabC ds x i) (pad2 (cdI ds i)) (x.getD (cdI ds i).toNat 0) ?hc ?hnd hk1') ?k1 ?k2 ?k3 ?k4 ?k5 ?kK (by exact ⟨⟨_, (NX _ (.tail _ (.tail _ MT))).1, rfl, _, rfl⟩, ⟨_, (NX _ (.head _)).1, rfl, _, rfl⟩, tabN NX (.tail _ (.tail _ MD)) lo1 hd1 hf1, tabN NX (.tail _ (.head _)) (by assumption) (by assumption) (by assumption)⟩) ?kd ?ku ?_
    case hc => rw [tabC_len]; omega
    case hnd => exact tabC_put fun j hj => hkey j (Nat.lt_trans hj hi')
    case k1 => k_asm
    case k2 => exact FX
    case k3 => k_asm
    case k4 => exact NX
    case k5 => k_asm
    case kK => exact rfl
    case kd => ktr_room
    case ku => ktr_units
    rintro v9 h9 tk9 F9 N9 g9 ⟨T', D9, w0, w1, w2, w3, nT', rfl, hT0, hT1, lo9, o9, kvs9, hD0, hD1, hd9, hf9⟩
    have z1 := news_neO NX hT0
    have z2 := news_neO NX hD0
    replace N9 := news_addO FX (news_addO FX N9 hT0 hT1) hD0 hD1
    walk_at "P steps"
    rename News _ _ _ (_ :: _) => NY
    exact inv_endG (by k_asm) NY (fun q hq => z2 q (.tail _ (.tail _ (List.mem_append_right nx hq)))) (fun q hq => z1 q (.tail _ (.tail _ (List.mem_append_right nx hq)))) hsep
      ⟨T', D9, o9, kvs9, w0, w1, w2, w3, nT', fun p hp => .tail _ (.tail _ (hall p hp)), .tail _ (.head _), .head _, lo9, hd9, hf9, rfl, rfl, rfl, rfl, rfl, rfl⟩
  · rintro m₁ nx h₁ tk₁ ⟨T, TD, oT, kvs, u0, u1, u2, u3, nT, hall, mT, mD, lo1, hd1, hf1, e0, e1, e2, e3, e4, e5⟩ F₁ N₁
    rw [rangeKs_length, hsum] at mT
    rw [rangeKs_length] at hf1
    exact stD w B F₁ X N₁ T0 hroom hun ⟨e3, e4, e5, e0, trivial⟩ (hall _ mK) dK (hall _ mH) dH (hall _ mS) dS (hall _ m1) (hall _ m2) (hall _ m3) i1 i2 i3 mT mD lo1 hd1 hf1 hk0 hk1 hh0 hh1 hs0 hs1 (by rw [tabC_len]; exact ld) hdis ((sumTo_tab ds x ds.length).trans hsum) heq hret
end
section
/-- the first i cards of the deck dealt by h -/
noncomputable def deckF (h k : Int) : Nat → List Int
  | 0 => []
  | i + 1 => deckF h k i ++ [(h * (1 + (i : Int))).fmod k]
theorem deckF_len (h k : Int) : ∀ n, (deckF h k n).length = n
  | 0 => rfl
  | n + 1 => by rw [deckF, List.length_append, deckF_len h k n]; rfl
theorem hp_bd {h k : Int} {i : Nat} (h0 : 2 ≤ h) (h1 : h < k) (k1 : k ≤ 12) (hi : i < 12) : 0 ≤ h * (1 + (i : Int)) ∧ h * (1 + (i : Int)) ≤ 1000 := by
  have p0 : (0 : Int) ≤ 1 + (i : Int) := by omega
  have a := Int.mul_nonneg (show 0 ≤ h by omega) p0
  have b := Int.mul_le_mul_of_nonneg_right (show h ≤ 12 by omega) p0
  generalize h * (1 + (i : Int)) = y at a b
  exact ⟨a, by omega⟩
theorem mod_bd (a : Int) {k : Int} (h : 5 ≤ k) : 0 ≤ a.fmod k ∧ a.fmod k < k := ⟨Int.fmod_nonneg_of_pos _ (by omega), Int.fmod_lt_of_pos _ (by omega)⟩
theorem map_getD {l : List Int} {i : Nat} (h : i < l.length) : (l.map cardT).getD i "" = cardT (l.getD i 0) := by
  rw [List.getD_eq_getElem?_getD, List.getElem?_map, List.getD_eq_getElem?_getD, List.getElem?_eq_getElem h]
  rfl
end
section
local macro_rules | `(tactic| walk_at "CompSrc") => `(tactic| refine stop_of ?_)
local macro_rules | `(tactic| walk_at "P deep") => `(tactic| (refine' code_def (by k_asm) (by k_asm) (by k_asm) (by k_asm) (by k_asm) (by walk_at "R") (by walk_at "R") (by walk_at "R") (by k_is) (by k_is) (by ktr_room) (by first | exact BindsTo.of_eq rfl | exact binds_K (by k_in) rfl (by k_is) rfl rfl rfl) (by exact locs rfl) ?_ (by walk_at "R") (by walk_at "R") (by walk_at "R") (by decide); k_whole; intro g' L' h' FG' F' N' B' X' T'; (try dsimp only); (try k_fold)))
local macro_rules | `(tactic| walk_at "call ref") => `(tactic| (first | (k_dflt (refine' call_cls (by k_asm) (by k_asm) (by k_asm) (by k_is) (by k_is) (by k_is) ?_; k_whole; intro x' d' h' F' N' l1 l2; (try k_lt l1); (try k_lt2 l2); (try k_sweep); walk_at "P deep")) | refine stop_of ?_))

local macro_rules | `(tactic| walk_at "pyIter ref") => `(tactic| refine stop_of ?_)

local macro_rules | `(tactic| walk_at "binaryOp Mod str int") => `(tactic| (k_dflt (refine' mod02 (by decide +kernel) (by walk_at "A") (by walk_at "A") ?_); intro _ _))

local macro_rules | `(tactic| walk_at "binaryOp Mod str ref") => `(tactic| (k_dflt (refine' KPt.mod_tuple (X' := sF) (by k_asm) (by k_mem) (by decide +kernel) (by (refine fmtF _ _ _ _ _ _ ?_ ?_ <;> walk_at "D")) ?_); intro _ _))

local macro_rules | `(tactic| k_mem) => `(tactic| first | with_reducible assumption | ((with_reducible show List.Mem _ _); assumption))
local macro_rules | `(tactic| k_all) => `(tactic| assumption)
theorem comp_end2 {h₀ h' : Heap} {L I C D x d : Addr} {m : Str → Option Value} {s₁ : Shared} {oI oC oD ox od : Obj} {S : List (Addr × Obj) → Prop} {rest : Value → List (Addr × Obj) → Prop} {y : Value} {tk : Nat} {news : List (Addr × Obj)} {Z : Prop}
    (F : Fr h₀ L h' m) (N : News h₀ L h' ((x, ox) :: (d, od) :: (I, oI) :: (C, oC) :: (D, oD) :: news)) (l1 : @LT.lt Nat _ I d ∧ @LT.lt Nat _ C d ∧ @LT.lt Nat _ D d ∧ Z) (l2 : @LT.lt Nat _ d x) (off : LCg.Off3 I C D news) (hS : S ((x, ox) :: (d, od) :: news)) (r : rest y ((x, ox) :: (d, od) :: news)) :
    LCg.CompEnd h₀ L m s₁ I oI C oC D oD S rest y { s₁ with heap := h', toks := tk } := by
  obtain ⟨l3, l4, l5, _⟩ := l1
  refine LCg.CompEnd.intro F N ((x, ox) :: (d, od) :: news) (fun p hp => ?_) ⟨⟨?_, ?_, ?_⟩, ⟨?_, ?_, ?_⟩, off⟩ hS r
  · simp only [List.mem_cons] at hp ⊢
    rcases hp with hp | hp | hp | hp | hp | hp <;> simp [hp]
  · exact Nat.ne_of_gt (Nat.lt_trans l3 l2)
  · exact Nat.ne_of_gt (Nat.lt_trans l4 l2)
  · exact Nat.ne_of_gt (Nat.lt_trans l5 l2)
  · exact Nat.ne_of_gt l3
  · exact Nat.ne_of_gt l4
  · exact Nat.ne_of_gt l5
noncomputable def NmOk (ds : List Int) (os' : List (Addr × Obj)) (x : Addr) (j : Nat) : Prop := ∃ dx k4 k5 hs, (x, instObj 174 dx) ∈ os' ∧ (dx, dictOf [⟨hs, .str "text" k4, .str (cardT (ds.getD j 0)) k5⟩] 1) ∈ os'
theorem names_next {ds : List Int} {xs : List Addr} {os' base : List (Addr × Obj)} {x d : Addr} {i : Nat} {hs : Int} {k4 k5 : Tok} (hl : xs.length = i) (ht : ∀ j, j < i → NmOk ds os' (xs.getD j 0) j) :
    ∃ (xs2 : List Addr) (os2 : List (Addr × Obj)), xs.map Value.ref ++ [Value.ref x] = xs2.map Value.ref ∧ xs2.length = i + 1 ∧ (x, instObj 174 d) :: (d, dictOf [⟨hs, .str "text" k4, .str (cardT (ds.getD i 0)) k5⟩] 1) :: (os' ++ base) = os2 ++ base ∧ ∀ j, j < i + 1 → NmOk ds os2 (xs2.getD j 0) j := by
  refine ⟨xs ++ [x], (x, instObj 174 d) :: (d, dictOf [⟨hs, .str "text" k4, .str (cardT (ds.getD i 0)) k5⟩] 1) :: os', ?_, ?_, rfl, fun j hj => ?_⟩
  · rw [List.map_append]; rfl
  · rw [List.length_append, hl]; rfl
  · rcases Nat.lt_or_ge j i with hj' | hj'
    · obtain ⟨dx, k4, k5, hs, e1, e2⟩ := ht j hj'
      exact ⟨dx, k4, k5, hs, .tail _ (.tail _ (by rw [getD_snoc (by omega)]; exact e1)), .tail _ (.tail _ e2)⟩
    · obtain rfl : j = i := by omega
      subst hl
      exact ⟨_, _, _, _, by rw [getD_last']; exact .head _, .tail _ (.head _)⟩
theorem sub6 {a b c d e f : Addr × Obj} {l nx : List (Addr × Obj)} : ∀ p ∈ nx, p ∈ a :: b :: c :: d :: e :: (l ++ f :: nx) := fun _ hp => .tail _ (.tail _ (.tail _ (.tail _ (.tail _ (List.mem_append_right l (.tail _ hp))))))
theorem truthy_pad {prog : Program} {w : World} {A : Around} {E : Value → Shared → Prop} {s : Shared} {n : Int} {t : Tok} {Q : Bool → Shared → Prop} (h : Q true { s with toks := s.toks + 1 + 1 }) : wpAny (model prog w) A (truthy (.str (pad2 n) t)) Q E s :=
  SBL.truthy (show ((2 : Nat) : Int) < _ by decide) h
local macro_rules | `(tactic| walk_at "truthy str") => `(tactic| (k_dflt (refine truthy_pad ?_)))
local macro_rules | `(tactic| walk_at "execs cons") => `(tactic| ((with_reducible show wpAny _ _ (execs (Stmt.Assign [PySem.Expr.Name (Str.ofString "told") _] (PySem.Expr.Tuple _ _ _) _ :: _) _) _ _ _); refine stop_of ?_))
theorem stB (w : World) {p : Program} {loose : List Str} {mean : ExcName → Option Value} {mg mb : Str → Option Value} {dp un : Nat} {gd : Option (List Code)} {a : Addr} {ccd : Value} {outer : List Env} {A₀ : Around} {base h₀ : Heap} {L : Addr} {m : Str → Option Value} {s : Shared} {Q : Flow → Shared → Prop} {news : List (Addr × Obj)}
    {c1 c2 c3 c4 c5 c6 : Addr} {oK oH oS : Obj} {Of : Addr} {k h step d : Int} {tk th ts : Tok} {ov : List Value} {os x : List Int} {n5 n : Nat}
    (B : Below A₀ base outer h₀) (F : Fr h₀ L s.heap m) (X : (hd.heap_39 w.params).In h₀) (N : News h₀ L s.heap news) (T0 : Top p loose mean mg mb h₀) (hroom : dp + 20 < recursionLimit) (hun : un + 200 < cLine)
    (hm : AllM m [("offsets", .ref Of)])
    (mK : (c2, oK) ∈ news) (dK : oK.data = .cell (some (.int k tk))) (mH : (c5, oH) ∈ news) (dH : oH.data = .cell (some (.int h th))) (mS : (c3, oS) ∈ news) (dS : oS.data = .cell (some (.int step ts)))
    (m5 : (Of, listOf ov.toArray n5) ∈ news) (i5 : IntsAre ov os)
    (hk0 : 5 ≤ k) (hk1 : k ≤ 12) (hh0 : 2 ≤ h) (hh1 : h < k) (hs0 : 1 ≤ step) (hs1 : step ≤ 60) (hn : (n : Int) = k - 1) (lo : (os.length : Int) = k)
    (hos : ∀ o ∈ os, -43200 ≤ o ∧ o ≤ 43200) (hds : ∀ c ∈ deckF h k n, 1 ≤ c ∧ c < k) (hL : (Txt.join " " ((deckF h k n).map cardT)).length ≤ 1000) (hw : (((deckF h k n).map cardT).map (·.length)).sum + ((deckF h k n).map cardT).length ≤ 1000) (lx : (x.length : Int) = k)
    (hrun : runO (Txt.join " " ((deckF h k n).map cardT)) (deckF h k n) os ((deckF h k n).map cardT) n (List.replicate os.length 0, List.replicate os.length 0, List.replicate os.length 0) = (x, x, x))
    (hkey : ∀ i, i < (deckF h k n).length → kdpHas (tabC (deckF h k n) x i) (pad2 (cdI (deckF h k n) i)) = false)
    (hdis : disF 12 h k = d) (hsum : accS (deckF h k n) x (deckF h k n).length = d) (heq : SqEq (accQ (deckF h k n) os (deckF h k n).length) k d step)
    (hret : ∀ h' tk', (∀ b o, h₀.get? b = some o → h'.get? b = some o) → Q (.ret (.bool true)) { s with heap := h', toks := tk' }) :
    wpAny (model PySem.Challenge.rw_xp0018_01.row.prog w) (ktrTop dp un gd "law" (lawB 9 w).2 L a ccd (lawCl c1 c2 c3 c4 c5 c6) outer) (execs (lawB 9 w).1 (envX "law" (lawB 9 w).2 L a ccd (lawCl c1 c2 c3 c4 c5 c6))) Q (fun _ _ => False) s := by
  refine' lawB_go (b := ?b) (sc := ?sc) ?e ?_
  case e => exact rfl
  dsimp only [List.drop_succ_cons, List.drop_zero]
  replace F := fr_names [("offsets", .ref Of)] F hm
  dsimp only [bindM] at F
  walk_at "P steps"
  refine go_of ?_
  rename IsRange _ _ _ _ _ _ _ _ => hr
  refine LCg.CompSrc.range rfl (by k_asm) (by k_asm) hr (rng_smallF (n := n) (by decide) (by decide) (by omega) (by omega)) (rng_sizeF (n := n) (by omega)) (by rw [PySem.sizeLine_eq]; omega) ?_
  intro g9
  refine rest_ind (fun i ys nx => nx = news ∧ IntsAre ys (deckF h k i)) ?_ ?_ ⟨rfl, .nil⟩
  · rintro i ys nx v I oI C oC D m₂ h₁ tk₁ E' hi ⟨rfl, hys⟩ ⟨t, rfl⟩ hC hx F N off ne
    obtain ⟨b0, b1⟩ := hp_bd (i := i) hh0 hh1 hk1 (by omega)
    walk_at "P steps"
    exact comp_end0 (by k_asm) (by k_asm) off trivial ⟨rfl, ints_snoc hys⟩
  · rintro ys nx ⟨rfl, hys⟩
    walk_at "P steps"
    refine go_of ?_
    rename News _ _ _ ((_, LCg.lst _) :: _) => N1
    rename Fr _ _ _ _ => F1
    have ly : ys.length = n := by have := hys.length; rw [deckF_len] at this; exact this
    refine LCg.CompSrc.ledger rfl F1 N1 (.head _) (by rw [PySem.sizeLine_eq]; simp; omega) ?_
    intro g9
    refine rest_ind (fun i zs nx' => ∃ (xs : List Addr) (os' : List (Addr × Obj)), zs = xs.map Value.ref ∧ xs.length = i ∧ nx' = os' ++ ((_, LCg.lst ys) :: nx) ∧ ∀ j, j < i → NmOk (deckF h k n) os' (xs.getD j 0) j) ?_ ?_ ⟨[], [], rfl, rfl, rfl, fun j hj => absurd hj (Nat.not_lt_zero _)⟩
    · rintro i zs nx' v I oI C oC D m₂ h₁ tk₁ E' hi ⟨xs, os', rfl, hl, rfl, ht⟩ hv hC hx F N off ne
      obtain ⟨⟨t, rfl⟩, hi'⟩ := ints_at hys hv
      obtain ⟨b0, b1⟩ := hds ((deckF h k n).getD i 0) (getD_mem hi')
      have hpl : (pad2 ((deckF h k n).getD i 0)).length ≤ 1000000 := show (2 : Nat) ≤ 1000000 by decide
      walk_at "P steps"
      rename News h₀ _ _ (_ :: _) => NX
      refine comp_end2 (by k_asm) NX (by assumption) (by assumption) off (.inr ⟨_, .tail _ (.tail _ (List.mem_append_right os' (.head _))), rfl, _, rfl⟩) (names_next hl ht)
    · rintro zs nx' ⟨xs, os', rfl, hl, rfl, ht⟩
      walk_at "P steps"
      refine go_of ?_
      rename News h₀ _ _ ((_, LCg.lst (List.map _ _)) :: _) => N2
      rename Fr h₀ _ _ _ => F2
      have hl2 : xs.length = n := by rw [hl]; simp [ly]
      have md : n = (deckF h k n).length := (deckF_len h k n).symm
      refine' spec_use (beh_spec w _ _ Of ys ov xs (deckF h k n) os ((deckF h k n).map cardT) ?q1 ?q2 hL ?q4 ?q5 ?q6 hw hys i5) ?k1 ?k2 ?k3 ?k4 ?k5 ?kK ?kP ?kd ?ku ?_
      case q1 => rw [List.length_map, ← md]; omega
      case q2 => omega
      case q4 => rw [← md]; omega
      case q5 => rw [List.length_map]
      case q6 => intro c hc; have := hds c hc; omega
      case k1 => k_asm
      case k2 => exact F2
      case k3 => k_asm
      case k4 => exact N2
      case k5 => k_asm
      case kK => exact rfl
      case kP =>
        refine ⟨⟨_, (N2 _ (.tail _ (List.mem_append_right os' (.head _)))).1, rfl, _, rfl⟩, ⟨_, (N2 _ (.tail _ (List.mem_append_right os' (.tail _ m5)))).1, rfl, _, rfl⟩, ⟨_, (N2 _ (.head _)).1, rfl, _, rfl⟩, by rw [List.length_map, ← md]; exact hl2, fun i hi => ?_⟩
        rw [List.length_map] at hi
        rw [map_getD hi]
        obtain ⟨dx, k4, k5, hs, e1, e2⟩ := ht i (by simp [ly]; omega)
        exact ⟨⟨dx, k4, k5, hs, InstAt.of_news N2 (.tail _ (List.mem_append_left _ e1)) (.tail _ (List.mem_append_left _ e2))⟩⟩
      case kd => ktr_room
      case ku => ktr_units
      rintro v9 h9 tk9 F9 N9 g9 ⟨T, D1, D2, D3, xv, tv, zv, n1, n2, n3, nT, rfl, hT0, hT1, hA0, hA1, hB0, hB1, hC0, hC1, ix, it, iz⟩
      rw [← md, hrun] at ix it iz
      replace N9 := news_addO F2 (news_addO F2 (news_addO F2 (news_addO F2 N9 hA0 hA1) hB0 hB1) hC0 hC1) hT0 hT1
      walk_at "P steps"
      refine go_of ?_
      rename News h₀ _ _ (_ :: (_, listOf _ _) :: _) => N3
      rename Fr h₀ _ _ _ => F3
      exact stC w (by assumption) F3 (by assumption) N3 (by assumption) hroom hun ⟨rfl, rfl, rfl, rfl, rfl, trivial⟩ (sub6 _ mK) dK (sub6 _ mH) dH (sub6 _ mS) dS (.tail _ (.tail _ (.tail _ (.head _)))) (.tail _ (.tail _ (.head _))) (.tail _ (.head _)) ix it iz
        (.tail _ (.tail _ (.tail _ (.tail _ (.tail _ (List.mem_append_right os' (.head _))))))) hys (sub6 _ m5) i5 hk0 hk1 hh0 hh1 hs0 hs1 lx (by omega) lo hds hos hkey hdis hsum heq hret
end
section
/-- the minutes of the first i zones -/
noncomputable def dueF (home step : Int) : Nat → List Int
  | 0 => []
  | i + 1 => dueF home step i ++ [((0 + (i : Int)) - home) * step]
theorem dueF_len (home step : Int) : ∀ n, (dueF home step n).length = n
  | 0 => rfl
  | n + 1 => by rw [dueF, List.length_append, dueF_len home step n]; rfl
theorem mul_bd {x step : Int} (h0 : -12 ≤ x) (h1 : x ≤ 12) (s0 : 1 ≤ step) (s1 : step ≤ 60) : -720 ≤ x * step ∧ x * step ≤ 720 := by
  have a := Int.mul_le_mul_of_nonneg_right h1 (show 0 ≤ step by omega)
  have b := Int.mul_le_mul_of_nonneg_right h0 (show 0 ≤ step by omega)
  clear h0 h1
  generalize x * step = y at a b
  omega
theorem dueF_bd {home step : Int} (h0 : 0 ≤ home) (h1 : home ≤ 12) (s0 : 1 ≤ step) (s1 : step ≤ 60) : ∀ n, n ≤ 13 → ∀ z ∈ dueF home step n, -720 ≤ z ∧ z ≤ 720
  | 0, _, z, hz => nomatch hz
  | n + 1, hn, z, hz => by
    rcases List.mem_append.mp hz with hz | hz
    · exact dueF_bd h0 h1 s0 s1 n (by omega) z hz
    · rw [List.mem_singleton.mp hz]
      exact mul_bd (by omega) (by omega) s0 s1
noncomputable abbrev offL (home step : Int) (n : Nat) : List Int := (dueF home step n).map fun z => 60 * z
/-- what the plain law says of k, h, step and home -/
noncomputable def Plain (k h home step : Int) : Prop := ∃ (n : Nat) (d : Int) (x : List Int), (n : Int) = k - 1 ∧ (x.length : Int) = k ∧ (∀ c ∈ deckF h k n, 1 ≤ c ∧ c < k) ∧
  (Txt.join " " ((deckF h k n).map cardT)).length ≤ 1000 ∧ (((deckF h k n).map cardT).map (·.length)).sum + ((deckF h k n).map cardT).length ≤ 1000 ∧
  runO (Txt.join " " ((deckF h k n).map cardT)) (deckF h k n) (offL home step (n + 1)) ((deckF h k n).map cardT) n (List.replicate (offL home step (n + 1)).length 0, List.replicate (offL home step (n + 1)).length 0, List.replicate (offL home step (n + 1)).length 0) = (x, x, x) ∧
  (∀ i, i < (deckF h k n).length → kdpHas (tabC (deckF h k n) x i) (pad2 (cdI (deckF h k n) i)) = false) ∧
  disF 12 h k = d ∧ accS (deckF h k n) x (deckF h k n).length = d ∧ SqEq (accQ (deckF h k n) (offL home step (n + 1)) (deckF h k n).length) k d step
theorem offL_bd {home step : Int} (h0 : 0 ≤ home) (h1 : home ≤ 12) (s0 : 1 ≤ step) (s1 : step ≤ 60) {n : Nat} (hn : n ≤ 13) : ∀ o ∈ offL home step n, -43200 ≤ o ∧ o ≤ 43200 := by
  intro o ho
  obtain ⟨z, hz, rfl⟩ := List.mem_map.mp ho
  have := dueF_bd h0 h1 s0 s1 n hn z hz
  omega
theorem offL_len (home step : Int) (n : Nat) : (offL home step n).length = n := by rw [List.length_map, dueF_len]
end
section
local macro_rules | `(tactic| walk_at "CompSrc") => `(tactic| refine stop_of ?_)
local macro_rules | `(tactic| walk_at "pyIter ref") => `(tactic| refine stop_of ?_)

local macro_rules | `(tactic| walk_at "P ne") => `(tactic| first | with_reducible assumption | (refine Ne.symm ?_; with_reducible assumption) | exact Ne.symm (ne_up1 _) | exact Ne.symm (ne_up2 _) | exact Ne.symm (ne_up3 _) | exact Ne.symm (ne_up4 _) | exact Ne.symm (ne_up5 _) | exact ne_up1 _ | exact ne_up2 _ | exact ne_up3 _ | exact ne_up4 _ | exact ne_up5 _ | (refine ne_succ ?_; walk_at "P ne"))
local macro_rules | `(tactic| k_ne) => `(tactic| (refine neN ?_; (try dsimp only); first | walk_at "P ne" | omega))

local macro_rules | `(tactic| walk_at "exec While") => `(tactic| refine stop_of ?_)
local macro_rules | `(tactic| walk_at "exec For") => `(tactic| refine stop_of ?_)
local macro_rules | `(tactic| walk_at "exec While Name cons nil") => `(tactic| refine stop_of ?_)
local macro_rules | `(tactic| walk_at "exec For Name Name cons nil") => `(tactic| refine stop_of ?_)
local macro_rules | `(tactic| walk_at "exec For Name Call cons nil") => `(tactic| refine stop_of ?_)

local macro_rules | `(tactic| walk_at "call ref") => `(tactic| refine stop_of ?_)
local macro_rules | `(tactic| k_mem) => `(tactic| first | with_reducible assumption | ((with_reducible show List.Mem _ _); assumption))
local macro_rules | `(tactic| walk_at "subscriptTail Name Name ref int") => `(tactic| (k_dflt (refine' item_intsN (by k_asm) (by k_mem) (by walk_at "S") (by omega) (by omega) (by omega) ?_ (by walk_at "U"); intro _)))
theorem take_map_snoc {l : List Int} {i : Nat} (f : Int → Int) (h : i < l.length) : (l.take i).map f ++ [f (l.getD (0 + (i : Int)).toNat 0)] = (l.take (i + 1)).map f := by
  rw [show (0 + (i : Int)).toNat = i by omega, take_snoc (d := 0) h, List.map_append]
  rfl
theorem take_map_snoc1 {l : List Int} {i : Nat} (f : Int → Int) (h : i < l.length) : (l.take i).map f ++ [f (l.getD i 0)] = (l.take (i + 1)).map f := by
  rw [take_snoc (d := 0) h, List.map_append]
  rfl
theorem mem_eq {α : Type} {a : α} {l c : List α} (h : l = c) (m : List.Mem a l) : a ∈ c := h ▸ m
theorem fmod4_bd (a : Int) : 0 ≤ a.fmod 4 ∧ a.fmod 4 ≤ 3 := by
  have h1 : 0 ≤ a.fmod 4 := Int.fmod_nonneg_of_pos _ (by decide)
  have h2 : a.fmod 4 < 4 := Int.fmod_lt_of_pos _ (by decide)
  omega
theorem kn_1000 {k : Int} {kn : Nat} (e : k = (kn : Int)) (h : k ≤ 12) : kn ≤ 1000 := by omega
theorem gcd_fin : ∀ k < 13, 1 ≤ k → Nat.gcd (k - 1) k = 1 := by decide
theorem gcd_top {k : Int} (h0 : 5 ≤ k) (h1 : k ≤ 12) : Int.gcd (k - 1) k = 1 := by
  obtain ⟨n, rfl⟩ := Int.eq_ofNat_of_zero_le (Int.le_trans (by decide) h0)
  have e : ((n : Nat) : Int) - 1 = ((n - 1 : Nat) : Int) := by omega
  rw [e]
  exact gcd_fin n (by omega) (by omega)
theorem gcd_go {g k : Int} (h0 : 5 ≤ k) (h1 : k ≤ 12) (hg : g < k) (h : 1 < ((Int.gcd g k : Nat) : Int)) : g + 1 < k := by
  rcases Int.lt_or_le (g + 1) k with q | q
  · exact q
  · obtain rfl : g = k - 1 := by omega
    rw [gcd_top h0 h1] at h
    omega
theorem gcd_one {g k : Int} (h0 : 5 ≤ k) (h : ¬ 1 < ((Int.gcd g k : Nat) : Int)) : Int.gcd g k = 1 := by
  have : 0 < Int.gcd g k := Int.gcd_pos_of_ne_zero_right _ (by omega)
  omega
local macro_rules | `(tactic| walk_at "execs cons") => `(tactic| ((with_reducible show wpAny _ _ (execs (Stmt.Assign [PySem.Expr.Name (Str.ofString "deck") _] _ _ :: _) _) _ _ _); refine stop_of ?_))
local macro_rules | `(tactic| walk_at "compareOp NotEq ref ref") => `(tactic| (k_dflt (refine' ne_sameN (by k_asm) (by k_mem) (by k_mem) (by walk_at "S") (by walk_at "S") (by ktr_units) ?_)))
theorem stA1 (w : World) {p : Program} {loose : List Str} {mean : ExcName → Option Value} {mg mb : Str → Option Value} {dp un : Nat} {gd : Option (List Code)} {a : Addr} {ccd : Value} {outer : List Env} {A₀ : Around} {base h₀ : Heap} {L : Addr} {m : Str → Option Value} {s : Shared} {Q : Flow → Shared → Prop}
    {o1 o2 o3 o4 o5 o6 : Obj} {k h step home form : Int} {tk th ts tm tf : Tok} {v6 : Option Value}
    (B : Below A₀ base outer h₀) (F : Fr h₀ L s.heap m) (X : (hd.heap_39 w.params).In h₀) (N : News h₀ L s.heap [(L + 1 + 1 + 1 + 1 + 1 + 1, o6), (L + 1 + 1 + 1 + 1 + 1, o5), (L + 1 + 1 + 1 + 1, o4), (L + 1 + 1 + 1, o3), (L + 1 + 1, o2), (L + 1, o1)]) (T0 : Top p loose mean mg mb h₀) (hroom : dp + 20 < recursionLimit) (hun : un + 200 < cLine)
    (d1 : o1.data = .cell (some (.int form tf))) (d2 : o2.data = .cell (some (.int k tk))) (d3 : o3.data = .cell (some (.int step ts))) (d4 : o4.data = .cell (some (.int home tm))) (d5 : o5.data = .cell (some (.int h th))) (d6 : o6.data = .cell v6)
    (hk0 : 5 ≤ k) (hk1 : k ≤ 12) (hh0 : 2 ≤ h) (hh1 : h < k) (hs0 : 1 ≤ step) (hs1 : step ≤ 60) (hm0 : 0 ≤ home) (hm1 : home ≤ k) (hf0 : 0 ≤ form) (hf1 : form < 1000000)
    (plain : ∀ h, 2 ≤ h → h < k → Int.gcd h k = 1 → Plain k h home step)
    (hret : ∀ h' tk', (∀ b o, h₀.get? b = some o → h'.get? b = some o) → Q (.ret (.bool true)) { s with heap := h', toks := tk' }) :
    wpAny (model PySem.Challenge.rw_xp0018_01.row.prog w) (ktrTop dp un gd "law" (lawB 5 w).2 L a ccd (lawCl (L + 1) (L + 1 + 1) (L + 1 + 1 + 1) (L + 1 + 1 + 1 + 1) (L + 1 + 1 + 1 + 1 + 1) (L + 1 + 1 + 1 + 1 + 1 + 1)) outer) (execs (lawB 5 w).1 (envX "law" (lawB 5 w).2 L a ccd (lawCl (L + 1) (L + 1 + 1) (L + 1 + 1 + 1) (L + 1 + 1 + 1 + 1) (L + 1 + 1 + 1 + 1 + 1) (L + 1 + 1 + 1 + 1 + 1 + 1)))) Q (fun _ _ => False) s := by
  refine' lawB_go (b := ?b) (sc := ?sc) ?e ?_
  case e => exact rfl
  dsimp only [List.drop_succ_cons, List.drop_zero]
  walk_at "P steps"
  refine go_of ?_
  refine While_inv2 (n₀ := (k - h).toNat) (fun n m' nx => ∃ o5' g tg, nx = [(L + 1 + 1 + 1 + 1 + 1 + 1, o6), (L + 1 + 1 + 1 + 1 + 1, o5'), (L + 1 + 1 + 1 + 1, o4), (L + 1 + 1 + 1, o3), (L + 1 + 1, o2), (L + 1, o1)] ∧ o5'.data = .cell (some (.int g tg)) ∧ 2 ≤ g ∧ g < k ∧ n = (k - g).toNat) F N ⟨o5, h, th, rfl, d5, hh0, hh1, rfl⟩ ?_ (by first | passes_own | exact PassesOwn.never)
  rintro n m₁ news₁ h₁ tk₁ F₁ N₁ ⟨o5', g, tg, rfl, d5', hg0, hg1, rfl⟩
  walk_at "P steps"
  refine go_of ?_
  refine' spec_use (div_spec w g k _ _ (by omega) (by omega)) ?k1 ?k2 ?k3 ?k4 ?k5 ?kK trivial ?kd ?ku ?_
  case k1 => k_asm
  case k2 => k_asm
  case k3 => k_asm
  case k4 => k_asm
  case k5 => k_asm
  case kK => exact rfl
  case kd => ktr_room
  case ku => ktr_units
  rintro v9 h9 tk9 F9 N9 g9 ⟨t9, rfl⟩
  walk_at "P steps"
  · have gg := gcd_go hk0 hk1 hg1 (by assumption)
    rename News _ _ _ _ => NX
    exact ⟨_, _, _, _, (k - (g + 1)).toNat, rfl, by k_asm, NX, by omega, _, g + 1, _, rfl, by assumption, by omega, gg, rfl⟩
  have hgcd := gcd_one hk0 (by assumption)
  clear F N F₁ N₁ d5 hh0 hh1
  obtain ⟨kn, hkn⟩ : ∃ kn : Nat, k = (kn : Int) := ⟨k.toNat, by omega⟩
  refine go_of ?_
  rename IsRange _ _ _ _ _ _ _ _ => hr
  refine LCg.CompSrc.range rfl (by k_asm) (by k_asm) hr (rng_small hkn (kn_1000 hkn hk1)) (rng_size hkn) (by rw [PySem.sizeLine_eq]; omega) ?_
  intro g8
  refine rest_ind (fun i ys nx => nx = [(L + 1 + 1 + 1 + 1 + 1 + 1, o6), (L + 1 + 1 + 1 + 1 + 1, o5'), (L + 1 + 1 + 1 + 1, o4), (L + 1 + 1 + 1, o3), (L + 1 + 1, o2), (L + 1, o1)] ∧ IntsAre ys (dueF home step i)) ?_ ?_ ⟨rfl, .nil⟩
  · rintro i ys nx v I oI C oC D m₂ h₁ tk₁ E' hi ⟨rfl, hys⟩ ⟨t, rfl⟩ hC hx F N off ne
    walk_at "P steps"
    exact comp_end0 (by k_asm) (by k_asm) off trivial ⟨rfl, ints_snoc hys⟩
  · rintro ys nx ⟨rfl, hys⟩
    have ly := hys.length
    rw [dueF_len] at ly
    walk_at "P steps"
    refine go_of ?_
    clear hr
    rename IsRange _ _ _ _ _ _ _ _ => hr
    rename News _ _ _ (_ :: _) => N1
    generalize hcN : ((_, LCg.lst _) :: (L + 1 + 1 + 1 + 1 + 1 + 1, _) :: _ : List (Addr × Obj)) = cN at N1
    have e0 := mem_eq hcN (.head _)
    have e1 := mem_eq hcN (.tail _ (.head _))
    have e2 := mem_eq hcN (.tail _ (.tail _ (.head _)))
    have e4 := mem_eq hcN (.tail _ (.tail _ (.tail _ (.tail _ (.head _)))))
    have e5 := mem_eq hcN (.tail _ (.tail _ (.tail _ (.tail _ (.tail _ (.head _))))))
    have e6 := mem_eq hcN (.tail _ (.tail _ (.tail _ (.tail _ (.tail _ (.tail _ (.head _)))))))
    have ld : (dueF home step kn).length = kn := dueF_len _ _ _
    refine LCg.CompSrc.range rfl (by k_asm) N1 hr (rng_small hkn (kn_1000 hkn hk1)) (rng_size hkn) (by rw [PySem.sizeLine_eq]; omega) ?_
    intro g7
    refine rest_ind (fun i zs nx => nx = cN ∧ IntsAre zs (((dueF home step kn).take i).map fun z => 60 * z)) ?_ ?_ ⟨rfl, .nil⟩
    · rintro i zs nx v I oI C oC D m₂ h₁ tk₁ E' hi ⟨rfl, hzs⟩ ⟨t, rfl⟩ hC hx F N off ne
      obtain ⟨b0, b1⟩ := dueF_bd hm0 (by omega) hs0 hs1 kn (by omega) ((dueF home step kn).getD (0 + (i : Int)).toNat 0) (getD_mem (by omega))
      obtain ⟨b2, b3⟩ := fmod4_bd (form + (0 + (i : Int)))
      walk_at "P steps"
      refine go_of ?_
      refine' spec_use (zone_spec w _ _ _ _ b0 b1 b2 b3) ?k1 ?k2 ?k3 ?k4 ?k5 ?kK trivial ?kd ?ku ?_
      case k1 => k_asm
      case k2 => k_asm
      case k3 => k_asm
      case k4 => k_asm
      case k5 => k_asm
      case kK => exact rfl
      case kd => ktr_room
      case ku => ktr_units
      rintro v9 h9 tk9 F9 N9 g9 ⟨t9, rfl⟩
      walk_at "P steps"
      refine go_of ?_
      refine' spec_use (zone_off w _ _ _ b0 b1 b2 b3) ?k1 ?k2 ?k3 ?k4 ?k5 ?kK trivial ?kd ?ku ?_
      case k1 => k_asm
      case k2 => k_asm
      case k3 => k_asm
      case k4 => k_asm
      case k5 => k_asm
      case kK => exact rfl
      case kd => ktr_room
      case ku => ktr_units
      rintro v8 h8 tk8 F8 N8 g8' ⟨t8, rfl⟩
      walk_at "P steps"
      exact comp_end0 (by k_asm) (by k_asm) off trivial ⟨rfl, ints_to (ints_snoc hzs) (take_map_snoc (fun z => 60 * z) (by omega))⟩
    · rintro zs nx ⟨rfl, hzs⟩
      replace hzs := ints_to hzs (congrArg (List.map _) (List.take_of_length_le (Nat.le_of_eq ld)))
      walk_at "P steps"
      refine go_of ?_
      rename News _ _ _ (_ :: nx) => N2
      refine LCg.CompSrc.ledger rfl (by k_asm) N2 (.tail _ e0) (by rw [PySem.sizeLine_eq]; simp; omega) ?_
      intro g6
      refine rest_ind (fun i us nx2 => nx2 = (_, LCg.lst zs) :: nx ∧ IntsAre us (((dueF home step kn).take i).map fun z => 60 * z)) ?_ ?_ ⟨rfl, .nil⟩
      · rintro i us nx2 v I oI C oC D m₂ h₁ tk₁ E' hi ⟨rfl, hus⟩ hv hC hx F N off ne
        obtain ⟨⟨t, rfl⟩, hi'⟩ := ints_at hys hv
        walk_at "P steps"
        exact comp_end0 (by k_asm) (by k_asm) off (.inr ⟨_, .tail _ e0, rfl, _, rfl⟩) ⟨rfl, ints_to (ints_snoc hus) (take_map_snoc1 (fun z => 60 * z) hi')⟩
      · rintro us nx2 ⟨rfl, hus⟩
        replace hus := ints_to hus (congrArg (List.map _) (List.take_of_length_le (by rw [ld]; simp [ly])))
        walk_at "P steps"
        refine go_of ?_
        rename News _ _ _ (_ :: _ :: nx) => N3
        rename Fr _ _ _ _ => F3
        obtain ⟨n, d, x, pn, plx, pds, pL, pw, prun, pkey, pdis, psum, peq⟩ := plain g hg0 hg1 hgcd
        obtain rfl : kn = n + 1 := by omega
        exact stB w (by assumption) F3 (by assumption) N3 (by assumption) hroom hun ⟨rfl, trivial⟩ (.tail _ (.tail _ e5)) d2 (.tail _ (.tail _ e2)) d5' (.tail _ (.tail _ e4)) d3 (.tail _ (.head _)) hzs hk0 hk1 hg0 hg1 hs0 hs1 pn (by rw [offL_len]; omega)
          (offL_bd hm0 (by omega) hs0 hs1 (by omega)) pds pL pw plx prun pkey pdis psum peq hret
end
section
local macro_rules | `(tactic| walk_at "pyIter ref") => `(tactic| refine stop_of ?_)

local macro_rules | `(tactic| walk_at "P ne") => `(tactic| first | with_reducible assumption | (refine Ne.symm ?_; with_reducible assumption) | exact Ne.symm (ne_up1 _) | exact Ne.symm (ne_up2 _) | exact Ne.symm (ne_up3 _) | exact Ne.symm (ne_up4 _) | exact Ne.symm (ne_up5 _) | exact ne_up1 _ | exact ne_up2 _ | exact ne_up3 _ | exact ne_up4 _ | exact ne_up5 _ | (refine ne_succ ?_; walk_at "P ne"))
local macro_rules | `(tactic| k_ne) => `(tactic| (refine neN ?_; (try dsimp only); first | walk_at "P ne" | omega))

local macro_rules | `(tactic| walk_at "call ref") => `(tactic| refine stop_of ?_)
local macro_rules | `(tactic| walk_at "execs cons") => `(tactic| ((with_reducible show wpAny _ _ (execs (Stmt.While _ _ _ _ :: _) _) _ _ _); refine stop_of ?_))
theorem fmod_lt (a : Int) {c : Int} (h : 0 < c) : 0 ≤ a.fmod c ∧ a.fmod c < c := ⟨Int.fmod_nonneg_of_pos _ h, Int.fmod_lt_of_pos _ h⟩
theorem ints3 {us : List Value} {ms : List Int} (h : IntsAre us ms) (l : ms.length = 3) : ∃ a b c ta tb tc, us = [.int a ta, .int b tb, .int c tc] ∧ ms = [a, b, c] := by
  cases h with
  | nil => simp at l
  | cons a ta h =>
    cases h with
    | nil => simp at l
    | cons b tb h =>
      cases h with
      | nil => simp at l
      | cons c tc h =>
        cases h with
        | nil => exact ⟨a, b, c, ta, tb, tc, rfl, rfl⟩
        | cons => simp at l
theorem stA0 (w : World) {p : Program} {loose : List Str} {mean : ExcName → Option Value} {mg mb : Str → Option Value} {dp un : Nat} {gd : Option (List Code)} {a9 : Addr} {ccd : Value} {outer : List Env} {A₀ : Around} {base h₀ : Heap} {L l : Addr} {m : Str → Option Value} {s : Shared} {Q : Flow → Shared → Prop}
    {o1 o2 o3 o4 o5 o6 : Obj} {v1 v2 v3 v4 v5 v6 : Option Value} {vs : List Value} {ns : List Int}
    (B : Below A₀ base outer h₀) (F : Fr h₀ L s.heap m) (X : (hd.heap_39 w.params).In h₀) (N : News h₀ L s.heap [(L + 1 + 1 + 1 + 1 + 1 + 1, o6), (L + 1 + 1 + 1 + 1 + 1, o5), (L + 1 + 1 + 1 + 1, o4), (L + 1 + 1 + 1, o3), (L + 1 + 1, o2), (L + 1, o1)]) (T0 : Top p loose mean mg mb h₀) (hroom : dp + 20 < recursionLimit) (hun : un + 200 < cLine)
    (d1 : o1.data = .cell v1) (d2 : o2.data = .cell v2) (d3 : o3.data = .cell v3) (d4 : o4.data = .cell v4) (d5 : o5.data = .cell v5) (d6 : o6.data = .cell v6)
    (hm : m "script" = some (.ref l)) (hl : h₀.IsList l vs.toArray) (hi : IntsAre vs ns) (h63 : ns.length ≤ 63)
    (plain : ∀ k h home step, 5 ≤ k → k ≤ 12 → 2 ≤ h → h < k → Int.gcd h k = 1 → 0 ≤ home → home ≤ k → 1 ≤ step → step ≤ 60 → Plain k h home step)
    (hret : ∀ h' tk', (∀ b o, h₀.get? b = some o → h'.get? b = some o) → Q (.ret (.bool true)) { s with heap := h', toks := tk' }) :
    wpAny (model PySem.Challenge.rw_xp0018_01.row.prog w) (ktrTop dp un gd "law" (lawB 0 w).2 L a9 ccd (lawCl (L + 1) (L + 1 + 1) (L + 1 + 1 + 1) (L + 1 + 1 + 1 + 1) (L + 1 + 1 + 1 + 1 + 1) (L + 1 + 1 + 1 + 1 + 1 + 1)) outer) (execs (lawB 0 w).1 (envX "law" (lawB 0 w).2 L a9 ccd (lawCl (L + 1) (L + 1 + 1) (L + 1 + 1 + 1) (L + 1 + 1 + 1 + 1) (L + 1 + 1 + 1 + 1 + 1) (L + 1 + 1 + 1 + 1 + 1 + 1)))) Q (fun _ _ => False) s := by
  refine' lawB_go (b := ?b) (sc := ?sc) ?e ?_
  case e => exact rfl
  dsimp only [List.drop_succ_cons, List.drop_zero]
  replace F := fr_names [("script", .ref l)] F ⟨hm, trivial⟩
  dsimp only [bindM] at F
  walk_at "P steps"
  refine go_of ?_
  refine' spec_use (draws_spec w l vs ns hi h63) ?k1 ?k2 ?k3 ?k4 ?k5 ?kK ?kP ?kd ?ku ?_
  case k1 => k_asm
  case k2 => k_asm
  case k3 => k_asm
  case k4 => k_asm
  case k5 => k_asm
  case kK => exact rfl
  case kP => exact hl.at fun o e => F.keep _ _ e
  case kd => ktr_room
  case ku => ktr_units
  rintro v9 h9 tk9 F9 N9 g9 ⟨D, us, ms, n, rfl, hD0, hD, hu', hl', hb⟩
  obtain ⟨a, b, c, ta, tb, tc, rfl, rfl⟩ := ints3 hu' hl'
  have ba := hb a (.head _)
  have bb := hb b (.tail _ (.head _))
  have bc := hb c (.tail _ (.tail _ (.head _)))
  have zn := news_neO N hD0
  have z1 : @Ne Nat (L + 1) D := zn _ (.tail _ (.tail _ (.tail _ (.tail _ (.tail _ (.head _))))))
  have z2 : @Ne Nat (L + 1 + 1) D := zn _ (.tail _ (.tail _ (.tail _ (.tail _ (.head _)))))
  have z3 : @Ne Nat (L + 1 + 1 + 1) D := zn _ (.tail _ (.tail _ (.tail _ (.head _))))
  have z4 : @Ne Nat (L + 1 + 1 + 1 + 1) D := zn _ (.tail _ (.tail _ (.head _)))
  have z5 : @Ne Nat (L + 1 + 1 + 1 + 1 + 1) D := zn _ (.tail _ (.head _))
  have z6 : @Ne Nat (L + 1 + 1 + 1 + 1 + 1 + 1) D := zn _ (.head _)
  replace N9 := news_addO F N9 hD0 hD
  have f1 := fmod_lt a (c := 8) (by decide)
  have f2 := fmod_lt (a.fdiv 8) (c := 60) (by decide)
  have f3 := fmod_lt (b.fdiv 12) (c := 5 + a.fmod 8 + 1) (by omega)
  have f4 := fmod_lt b (c := 5 + a.fmod 8 - 2) (by omega)
  walk_at "P steps"
  refine go_of ?_
  rename News _ _ _ (_ :: _) => N3
  rename Fr _ _ _ _ => F3
  refine stA1 w (by assumption) F3 (by assumption) (fun p hp => N3 p (.tail _ hp)) (by assumption) hroom hun (by assumption) (by assumption) (by assumption) (by assumption) (by assumption) d6 (by omega) (by omega) (by omega) (by omega) (by omega) (by omega) f3.1 (by omega) bc.1 bc.2 (fun h h0 h1 hg => plain _ h _ _ (by omega) (by omega) h0 h1 hg f3.1 (by omega) (by omega) (by omega)) hret
end
section
open PySem.Builtin.Str PySem.StrLaws in
theorem occ_stop (s sub : Str) (hi : Nat) : ∀ (l : List Nat) (st : Array Nat × Nat), 1 ≤ st.fst.size → (forIn l st (occBody s sub hi 1)).run.fst = st.fst
  | [], st, _ => rfl
  | a :: l, st, h => by
    rw [List.forIn_cons]
    unfold occBody
    rw [if_neg (fun c => absurd c.1.1.1 (by omega))]
    exact occ_stop s sub hi l _ h
open PySem.Builtin.Str PySem.StrLaws in
theorem occ_first (s sub : Str) (hi : Nat) : ∀ (l : List Nat) (free : Nat), (∀ i ∈ l, free ≤ i) →
    (forIn l ((#[] : Array Nat), free) (occBody s sub hi 1)).run.fst.toList = (l.find? fun i => decide (i + sub.length ≤ hi) && subAt s sub i).toList
  | [], free, _ => rfl
  | a :: l, free, hf => by
    rw [List.forIn_cons]
    unfold occBody
    have ha : free ≤ a := hf a (List.mem_cons_self ..)
    by_cases hc : a + sub.length ≤ hi ∧ subAt s sub a = true
    · have c1 : (((#[] : Array Nat), free).fst.size < 1 ∧ ((#[] : Array Nat), free).snd ≤ a) ∧ a + sub.length ≤ hi := ⟨⟨by simp, ha⟩, hc.1⟩
      rw [if_pos ⟨c1, hc.2⟩, List.find?_cons_of_pos (by simp [hc])]
      have := occ_stop s sub hi l ((#[] : Array Nat).push a, a + sub.length) (by simp)
      show (forIn l ((#[] : Array Nat).push a, a + sub.length) (occBody s sub hi 1)).run.fst.toList = _
      rw [this]
      rfl
    · have c2 : ¬ (((((#[] : Array Nat), free).fst.size < 1 ∧ ((#[] : Array Nat), free).snd ≤ a) ∧ a + sub.length ≤ hi) ∧ subAt s sub a = true) := fun h => hc ⟨h.1.2, h.2⟩
      rw [if_neg c2, List.find?_cons_of_neg (by simpa using hc)]
      exact occ_first s sub hi l free (fun i hi' => hf i (List.mem_cons_of_mem _ hi'))
/-- where b stands first in t, counted from k -/
noncomputable def scanF (b : List Nat) : List Nat → Nat → Option Nat
  | [], k => if b.isPrefixOf [] then some k else none
  | x :: t, k => if b.isPrefixOf (x :: t) then some k else scanF b t (k + 1)
theorem pre_at (b u : List Nat) {i : Nat} (hi : i ≤ u.length) : (decide (i + b.length ≤ u.length) && ((u.drop i).take b.length == b)) = b.isPrefixOf (u.drop i) := by
  rw [Bool.eq_iff_iff, List.isPrefixOf_iff_prefix, Bool.and_eq_true, decide_eq_true_eq, beq_iff_eq]
  constructor
  · rintro ⟨_, h⟩
    rw [← h]
    exact List.take_prefix ..
  · intro h
    have := h.length_le
    rw [List.length_drop] at this
    exact ⟨by omega, (List.prefix_iff_eq_take.mp h).symm⟩
theorem find_cons {p : Nat → Bool} {a : Nat} {l : List Nat} : (a :: l).find? p = if p a then some a else l.find? p := by
  rw [List.find?_cons]
  cases p a <;> rfl
theorem scanF_range (b u : List Nat) : ∀ (n lo : Nat), lo + n = u.length → (List.range' lo (n + 1)).find? (fun i => decide (i + b.length ≤ u.length) && ((u.drop i).take b.length == b)) = scanF b (u.drop lo) lo := by
  intro n
  induction n with
  | zero =>
    intro lo h
    have e : u.drop lo = [] := List.drop_eq_nil_of_le (by omega)
    rw [List.range'_succ, find_cons, pre_at b u (by omega), e]
    unfold scanF
    rfl
  | succ n ih =>
    intro lo h
    have e : u.drop lo = u[lo]'(by omega) :: u.drop (lo + 1) := List.drop_eq_getElem_cons (by omega)
    rw [List.range'_succ, find_cons, pre_at b u (by omega), ih (lo + 1) (by omega), e]
    conv => rhs; unfold scanF
theorem find4_scan (x y : Str) (k : Nat) (hk : k ≤ x.length) : find4 x y (k : Int) (x.length : Int) = match scanF y.cps.toList (x.cps.toList.drop k) k with | some j => (j : Int) | none => -1 := by
  have hx : x.cps.toList.length = x.length := by simp [Str.length]
  have hy : y.cps.toList.length = y.length := by simp [Str.length]
  have e1 : fromIndex x.length (k : Int) = k := by unfold fromIndex; rw [if_neg (by omega)]; omega
  have e2 : min (fromIndex x.length (x.length : Int)) x.length = x.length := by unfold fromIndex; rw [if_neg (by omega)]; omega
  unfold find4
  rw [e1, e2, PySem.StrLaws.occ_eq, occ_first x y x.length _ k (fun i hi => by have := List.mem_range'.mp hi; omega)]
  have := scanF_range y.cps.toList x.cps.toList (x.length - k) k (by omega)
  rw [hx, hy] at this
  rw [show x.length + 1 - k = x.length - k + 1 by omega]
  have q : (fun i => decide (i + y.length ≤ x.length) && Builtin.Str.subAt x y i) = fun i => decide (i + y.length ≤ x.length) && ((x.cps.toList.drop i).take y.length == y.cps.toList) := by
    funext i
    rw [PySem.StrLaws.subAt_eq]
  rw [q, this]
  cases scanF y.cps.toList (x.cps.toList.drop k) k <;> rfl
theorem scanF_nil (t : List Nat) (k : Nat) : scanF [] t k = some k := by
  cases t <;> rfl
/-- the places: a card's signs and the line's -/
noncomputable def cardL (c : Int) : List Nat := [123, 100, 101, 99, 107, 125, 48 + c.toNat / 10, 48 + c.toNat % 10]
theorem cardT_list (c : Int) : (cardT c).cps.toList = cardL c := by
  have : (cardT c).cps = ("{deck}" : Str).cps ++ (pad2 c).cps := rfl
  rw [this, Array.toList_append]
  rfl
theorem cardT_len (c : Int) : (cardT c).length = 8 := by
  have : (cardT c).length = (cardT c).cps.toList.length := by simp [Str.length]
  rw [this, cardT_list]
  rfl
noncomputable def lineL : List Int → List Nat
  | [] => []
  | [d] => cardL d
  | d :: e :: r => cardL d ++ 32 :: lineL (e :: r)
theorem line_list : ∀ ds : List Int, (Txt.join " " (ds.map cardT)).cps.toList = lineL ds := by
  intro ds
  show (Builtin.Str.glued " " (ds.map cardT)).cps.toList = lineL ds
  rw [PySem.StrLaws.glued_eq_join]
  induction ds with
  | nil => rfl
  | cons d r ih =>
    cases r with
    | nil => exact cardT_list d
    | cons e r =>
      have : (Str.join " " ((d :: e :: r).map cardT)).cps = ((cardT d).cps ++ (" " : Str).cps) ++ (Str.join " " ((e :: r).map cardT)).cps := rfl
      rw [this, Array.toList_append, Array.toList_append, cardT_list, ih]
      rfl
theorem line_len : ∀ ds : List Int, (lineL ds).length + (if ds = [] then 0 else 1) = 9 * ds.length := by
  intro ds
  induction ds with
  | nil => rfl
  | cons d r ih =>
    cases r with
    | nil => rfl
    | cons e r =>
      rw [lineL, List.length_append, List.length_cons]
      rw [if_neg (by simp)] at ih ⊢
      simp only [List.length_cons] at ih ⊢
      have : (cardL d).length = 8 := rfl
      omega
end
section
theorem scan_skip {x : Nat} {b t : List Nat} {k : Nat} (h : x ≠ 123) : scanF (123 :: b) (x :: t) k = scanF (123 :: b) t (k + 1) := by
  conv => lhs; unfold scanF
  rw [List.isPrefixOf_cons_cons]
  rw [show ((123 : Nat) == x) = false from beq_eq_false_iff_ne.mpr (Ne.symm h)]
  simp
theorem card_eq {P d : Int} {t : List Nat} (p0 : 0 ≤ P) (p1 : P < 100) (d0 : 0 ≤ d) (d1 : d < 100) : (cardL P).isPrefixOf (cardL d ++ t) = decide (P = d) := by
  have : (cardL P).isPrefixOf (cardL d ++ t) = ((48 + P.toNat / 10 == 48 + d.toNat / 10) && (48 + P.toNat % 10 == 48 + d.toNat % 10)) := by
    unfold cardL
    simp only [List.cons_append, List.nil_append, List.isPrefixOf_cons_cons, List.isPrefixOf_nil_left, beq_self_eq_true, Bool.true_and, Bool.and_true]
  rw [this, Bool.eq_iff_iff, Bool.and_eq_true, beq_iff_eq, beq_iff_eq, decide_eq_true_eq]
  constructor
  · rintro ⟨h1, h2⟩
    have e : P.toNat = d.toNat := by rw [← Nat.div_add_mod P.toNat 10, ← Nat.div_add_mod d.toNat 10, Nat.add_left_cancel h1, Nat.add_left_cancel h2]
    rw [← Int.toNat_of_nonneg p0, ← Int.toNat_of_nonneg d0, e]
  · rintro rfl
    exact ⟨rfl, rfl⟩
theorem scan_block {P d : Int} {t : List Nat} {k : Nat} (p0 : 0 ≤ P) (p1 : P < 100) (d0 : 0 ≤ d) (d1 : d < 100) : scanF (cardL P) (cardL d ++ t) k = if P = d then some k else scanF (cardL P) t (k + 8) := by
  have e := card_eq (t := t) p0 p1 d0 d1
  have u : scanF (cardL P) (cardL d ++ t) k = if (cardL P).isPrefixOf (cardL d ++ t) then some k else scanF (cardL P) ([100, 101, 99, 107, 125, 48 + d.toNat / 10, 48 + d.toNat % 10] ++ t) (k + 1) := by
    conv => lhs; unfold scanF cardL
    rfl
  rw [u, e]
  by_cases c : P = d
  · simp [c]
  · simp only [c, decide_false, Bool.false_eq_true, if_false]
    unfold cardL
    simp only [List.cons_append, List.nil_append]
    rw [scan_skip (by decide), scan_skip (by decide), scan_skip (by decide), scan_skip (by decide), scan_skip (by decide), scan_skip (by omega), scan_skip (by omega)]
noncomputable def posD (P : Int) : List Int → Option Nat
  | [] => none
  | d :: r => if P = d then some 0 else (posD P r).map (· + 1)
theorem posD_lt {P : Int} : ∀ {ds : List Int} {r : Nat}, posD P ds = some r → r < ds.length
  | [], _, h => nomatch h
  | d :: ds, r, h => by
    unfold posD at h
    split at h
    · rw [← Option.some.inj h]; simp
    · obtain ⟨q, hq, rfl⟩ := Option.map_eq_some_iff.mp h
      have := posD_lt hq
      simp; omega
theorem scan_line {P : Int} (p0 : 0 ≤ P) (p1 : P < 100) : ∀ (ds : List Int) (k : Nat), (∀ c ∈ ds, 0 ≤ c ∧ c < 100) → scanF (cardL P) (lineL ds) k = (posD P ds).map fun r => k + 9 * r
  | [], k, _ => rfl
  | [d], k, h => by
    obtain ⟨d0, d1⟩ := h d (.head _)
    have := scan_block (t := []) (k := k) p0 p1 d0 d1
    rw [List.append_nil] at this
    rw [lineL, this, posD, posD]
    split <;> rfl
  | d :: e :: r, k, h => by
    obtain ⟨d0, d1⟩ := h d (.head _)
    rw [lineL, scan_block p0 p1 d0 d1, posD]
    split
    · rfl
    · have s : scanF (cardL P) (32 :: lineL (e :: r)) (k + 8) = scanF (cardL P) (lineL (e :: r)) (k + 8 + 1) := scan_skip (by decide)
      rw [s, scan_line p0 p1 (e :: r) (k + 8 + 1) (fun c hc => h c (.tail _ hc)), Option.map_map]
      congr 1
      funext q
      simp only [Function.comp]
      omega
noncomputable def tailL (ds : List Int) : List Nat := match ds with
  | [] => []
  | d :: r => 32 :: lineL (d :: r)
theorem line_drop : ∀ (ds : List Int) (r : Nat), r < ds.length → (lineL ds).drop (9 * r + 8) = tailL (ds.drop (r + 1))
  | [], r, h => absurd h (Nat.not_lt_zero _)
  | [d], r, h => by
    obtain rfl : r = 0 := by simp at h; exact h
    rfl
  | d :: e :: q, 0, h => by
    rw [lineL]
    show (cardL d ++ 32 :: lineL (e :: q)).drop (cardL d).length = _
    rw [List.drop_left]
    rfl
  | d :: e :: q, r + 1, h => by
    have ih := line_drop (e :: q) r (by simp at h ⊢; omega)
    rw [lineL, show 9 * (r + 1) + 8 = (cardL d).length + ((9 * r + 8) + 1) by show _ = 8 + _; omega, List.drop_append, List.drop_eq_nil_of_le (by omega), List.nil_append, Nat.add_sub_cancel_left, List.drop_succ_cons, ih]
    rfl
theorem scan_tail {P : Int} (p0 : 0 ≤ P) (p1 : P < 100) (ds : List Int) (k : Nat) (h : ∀ c ∈ ds, 0 ≤ c ∧ c < 100) : scanF (cardL P) (tailL ds) k = (posD P ds).map fun r => k + 1 + 9 * r := by
  cases ds with
  | nil => rfl
  | cons d r =>
    have s : scanF (cardL P) (32 :: lineL (d :: r)) k = scanF (cardL P) (lineL (d :: r)) (k + 1) := scan_skip (by decide)
    rw [tailL, s, scan_line p0 p1 _ _ h]
noncomputable def ellD (P Q : Int) (ds : List Int) : Bool := match posD P ds with
  | none => false
  | some r => (posD Q (ds.drop (r + 1))).isSome
theorem ell_deck {P Q : Int} {ds : List Int} (p0 : 0 ≤ P) (p1 : P < 100) (q0 : 0 ≤ Q) (q1 : Q < 100) (h : ∀ c ∈ ds, 0 ≤ c ∧ c < 100) : ellB (Txt.join " " (ds.map cardT)) (cardT P) (cardT Q) = ellD P Q ds := by
  have hl : (Txt.join " " (ds.map cardT)).length = (lineL ds).length := by rw [← line_list]; simp [Str.length]
  have ll := line_len ds
  have f0 : ∀ k : Nat, k ≤ (Txt.join " " (ds.map cardT)).length → find4 (Txt.join " " (ds.map cardT)) "" (k : Int) ((Txt.join " " (ds.map cardT)).length : Int) = (k : Int) := by
    intro k hk
    rw [find4_scan _ _ k hk]
    have : ("" : Str).cps.toList = [] := by decide
    rw [this, scanF_nil]
  have g0 := f0 0 (Nat.zero_le _)
  have fP := find4_scan (Txt.join " " (ds.map cardT)) (cardT P) 0 (Nat.zero_le _)
  rw [cardT_list, line_list, List.drop_zero, scan_line p0 p1 ds 0 h] at fP
  have z : ((0 : Nat) : Int) = 0 := rfl
  unfold ellB ellD
  rw [z] at g0 fP ⊢
  rw [g0, if_neg (by decide), Int.add_zero, cardT_len]
  cases hp : posD P ds with
  | none =>
    have fP' : find4 (Txt.join " " (ds.map cardT)) (cardT P) 0 ((Txt.join " " (ds.map cardT)).length : Int) = -1 := by rw [fP, hp]; rfl
    rw [fP', if_pos (by decide)]
  | some r =>
    have hr := posD_lt hp
    have hne : ds ≠ [] := by intro e; rw [e] at hr; exact absurd hr (Nat.not_lt_zero _)
    rw [if_neg hne] at ll
    have fP' : find4 (Txt.join " " (ds.map cardT)) (cardT P) 0 ((Txt.join " " (ds.map cardT)).length : Int) = ((9 * r : Nat) : Int) := by
      rw [fP, hp]
      show ((0 + 9 * r : Nat) : Int) = _
      omega
    have fQ := find4_scan (Txt.join " " (ds.map cardT)) (cardT Q) (9 * r + 8) (by omega)
    rw [cardT_list, line_list, line_drop ds r hr, scan_tail q0 q1 _ _ (fun c hc => h c (List.mem_of_mem_drop hc))] at fQ
    rw [fP', if_neg (by omega), show (((9 * r : Nat) : Int) + ((8 : Nat) : Int)) = ((9 * r + 8 : Nat) : Int) by omega]
    cases hq : posD Q (ds.drop (r + 1)) with
    | none =>
      have fQ' : find4 (Txt.join " " (ds.map cardT)) (cardT Q) ((9 * r + 8 : Nat) : Int) ((Txt.join " " (ds.map cardT)).length : Int) = -1 := by rw [fQ, hq]; rfl
      rw [fQ', if_pos (by decide)]
      dsimp only
      rw [hq]
      rfl
    | some r2 =>
      have hr2 := posD_lt hq
      rw [List.length_drop] at hr2
      have fQ' : find4 (Txt.join " " (ds.map cardT)) (cardT Q) ((9 * r + 8 : Nat) : Int) ((Txt.join " " (ds.map cardT)).length : Int) = ((9 * r + 8 + 1 + 9 * r2 : Nat) : Int) := by rw [fQ, hq]; rfl
      rw [fQ', if_neg (by omega), cardT_len, show (((9 * r + 8 + 1 + 9 * r2 : Nat) : Int) + ((8 : Nat) : Int)) = ((9 * r + 8 + 1 + 9 * r2 + 8 : Nat) : Int) by omega, f0 _ (by omega), if_neg (by omega)]
      dsimp only
      rw [hq]
      rfl
end
section
noncomputable abbrev dI (ds : List Int) (p : Nat) : Int := ds.getD (0 + (p : Int)).toNat 0
noncomputable def cntI (ds : List Int) (q : Nat) : Nat → List Int → List Int
  | 0, x => x
  | p + 1, x => if dI ds q < dI ds p then (cntI ds q p x).set (dI ds p).toNat ((cntI ds q p x).getD (dI ds p).toNat 0 + 1) else cntI ds q p x
noncomputable def cntO (ds : List Int) : Nat → List Int → List Int
  | 0, x => x
  | q + 1, x => cntI ds q q (cntO ds q x)
noncomputable def accR (ds : List Int) : Nat → Int
  | 0 => 0
  | i + 1 => (cdI ds i - (1 + (i : Int))) * (cdI ds i - (1 + (i : Int))) + accR ds i
noncomputable def chkD (ds : List Int) (n : Nat) : Bool := (List.range n).all fun q => (List.range q).all fun p => ellD (mx (dI ds p) (dI ds q)) (mn (dI ds p) (dI ds q)) ds == decide (dI ds q < dI ds p)
noncomputable def chkX (k h : Int) (n : Nat) (ds x : List Int) : Bool :=
  (x.length == n + 1) && ((List.range n).all fun i => !kdpHas (tabC ds x i) (pad2 (cdI ds i))) && (accS ds x n == disF 12 h k) && (3 * accR ds n == 2 * k * disF 12 h k)
noncomputable def chk (k h n : Nat) : Bool := (deckF h k n).all (fun c => decide (1 ≤ c) && decide (c < k)) && chkD (deckF h k n) n && chkX k h n (deckF h k n) (cntO (deckF h k n) n (List.replicate (n + 1) 0))
theorem chk_all : ∀ k < 13, ∀ h < 13, (decide (5 ≤ k) && decide (2 ≤ h) && decide (h < k) && (Nat.gcd h k == 1)) = true → chk k h (k - 1) = true := by decide +kernel
theorem lt_fin : ∀ a < 13, ∀ b < 13, decide (cardL (Int.ofNat a) < cardL (Int.ofNat b)) = decide ((Int.ofNat a) < (Int.ofNat b)) := by decide +kernel
theorem card_lt {a b : Int} (a0 : 0 ≤ a) (a1 : a < 13) (b0 : 0 ≤ b) (b1 : b < 13) : (cardT a).cps.toList < (cardT b).cps.toList ↔ a < b := by
  rw [cardT_list, cardT_list]
  obtain ⟨x, rfl⟩ := Int.eq_ofNat_of_zero_le a0
  obtain ⟨y, rfl⟩ := Int.eq_ofNat_of_zero_le b0
  have := lt_fin x (by omega) y (by omega)
  rw [Bool.eq_iff_iff, decide_eq_true_eq, decide_eq_true_eq] at this
  exact this
theorem lex_lt (a b : Int) : 0 < lexI (a.fdiv 3600) (a.fmod 3600) (b.fdiv 3600) (b.fmod 3600) ↔ b < a := by
  rw [Int.fdiv_eq_ediv_of_nonneg _ (by decide), Int.fmod_eq_emod_of_nonneg _ (by decide), Int.fdiv_eq_ediv_of_nonneg _ (by decide), Int.fmod_eq_emod_of_nonneg _ (by decide)]
  unfold lexI
  constructor
  · intro h
    split at h
    · omega
    · split at h
      · omega
      · split at h
        · omega
        · split at h <;> omega
  · intro h
    split
    · omega
    · split
      · omega
      · split
        · omega
        · split <;> omega
theorem due_at (home step : Int) : ∀ (n i : Nat), i < n → (dueF home step n).getD i 0 = (0 + (i : Int) - home) * step
  | 0, i, h => absurd h (Nat.not_lt_zero _)
  | n + 1, i, h => by
    rcases Nat.lt_or_ge i n with h1 | h1
    · rw [dueF, getD_snoc (by rw [dueF_len]; exact h1)]
      exact due_at home step n i h1
    · obtain rfl : i = n := by omega
      have := getD_last' (l := dueF home step i) (a := (0 + (i : Int) - home) * step) (d := 0)
      rw [dueF_len] at this
      rw [dueF]
      exact this
theorem off_at (home step : Int) {n : Nat} {c : Int} (c0 : 0 ≤ c) (c1 : c < (n : Int)) : (offL home step n).getD c.toNat 0 = 60 * ((c - home) * step) := by
  have h : c.toNat < n := by omega
  have e := due_at home step n c.toNat h
  unfold offL
  rw [List.getD_eq_getElem?_getD, List.getElem?_map]
  rw [List.getD_eq_getElem?_getD] at e
  have l : c.toNat < (dueF home step n).length := by rw [dueF_len]; exact h
  rw [List.getElem?_eq_getElem l] at e ⊢
  have e' : (dueF home step n)[c.toNat] = (0 + ((c.toNat : Nat) : Int) - home) * step := e
  show 60 * (dueF home step n)[c.toNat] = _
  rw [e', show (0 + ((c.toNat : Nat) : Int) - home) = c - home by omega]
theorem off_lt {home step a b : Int} (s0 : 1 ≤ step) : 60 * ((b - home) * step) < 60 * ((a - home) * step) ↔ b < a := by
  constructor
  · intro h
    rcases Int.lt_or_le b a with q | q
    · exact q
    · have := Int.mul_le_mul_of_nonneg_right (show a - home ≤ b - home by omega) (show 0 ≤ step by omega)
      omega
  · intro h
    have := Int.mul_lt_mul_of_pos_right (show b - home < a - home by omega) (show 0 < step by omega)
    omega
theorem mx_of {a b : Int} (h : b < a) : mx a b = a := by unfold mx; rw [if_neg (by omega)]
/-- one turn tells the three counts alike -/
theorem step_one {line : Str} {ds os : List Int} {Ts : List Str} {q p : Nat} {y : List Int}
    (ha : ellB line (cardT (mx (dI ds p) (dI ds q))) (cardT (mn (dI ds p) (dI ds q))) = decide (dI ds q < dI ds p))
    (hb : (Ts.getD (0 + (q : Int)).toNat "").cps.toList < (Ts.getD (0 + (p : Int)).toNat "").cps.toList ↔ dI ds q < dI ds p)
    (hc : 0 < lexI ((os.getD (dI ds p).toNat 0).fdiv 3600) ((os.getD (dI ds p).toNat 0).fmod 3600) ((os.getD (dI ds q).toNat 0).fdiv 3600) ((os.getD (dI ds q).toNat 0).fmod 3600) ↔ dI ds q < dI ds p) :
    stepB line ds os Ts q p (y, y, y) = (if dI ds q < dI ds p then y.set (dI ds p).toNat (y.getD (dI ds p).toNat 0 + 1) else y, if dI ds q < dI ds p then y.set (dI ds p).toNat (y.getD (dI ds p).toNat 0 + 1) else y, if dI ds q < dI ds p then y.set (dI ds p).toNat (y.getD (dI ds p).toNat 0 + 1) else y) := by
  unfold stepB
  dsimp only
  refine Prod.ext ?_ (Prod.ext ?_ ?_)
  · show (if ellB line (cardT (mx (dI ds p) (dI ds q))) (cardT (mn (dI ds p) (dI ds q))) = true then _ else _) = _
    rw [ha]
    by_cases c : dI ds q < dI ds p
    · rw [if_pos (decide_eq_true c), if_pos c]
      show y.set (mx (dI ds p) (dI ds q)).toNat (y.getD (mx (dI ds p) (dI ds q)).toNat 0 + 1) = _
      rw [mx_of c]
    · rw [if_neg (by simpa using c), if_neg c]
  · show (if (Ts.getD (0 + (q : Int)).toNat "").cps.toList < (Ts.getD (0 + (p : Int)).toNat "").cps.toList then _ else _) = _
    by_cases c : dI ds q < dI ds p
    · rw [if_pos (hb.mpr c), if_pos c]
    · rw [if_neg (fun x => c (hb.mp x)), if_neg c]
  · show (if 0 < lexI ((os.getD (dI ds p).toNat 0).fdiv 3600) ((os.getD (dI ds p).toNat 0).fmod 3600) ((os.getD (dI ds q).toNat 0).fdiv 3600) ((os.getD (dI ds q).toNat 0).fmod 3600) then _ else _) = _
    by_cases c : dI ds q < dI ds p
    · rw [if_pos (hc.mpr c), if_pos c]
    · rw [if_neg (fun x => c (hc.mp x)), if_neg c]
theorem run_in {line : Str} {ds os : List Int} {Ts : List Str} {q : Nat} {y : List Int}
    (H : ∀ p, p < q → ∀ z, stepB line ds os Ts q p (z, z, z) = (if dI ds q < dI ds p then z.set (dI ds p).toNat (z.getD (dI ds p).toNat 0 + 1) else z, if dI ds q < dI ds p then z.set (dI ds p).toNat (z.getD (dI ds p).toNat 0 + 1) else z, if dI ds q < dI ds p then z.set (dI ds p).toNat (z.getD (dI ds p).toNat 0 + 1) else z)) :
    ∀ p, p ≤ q → runI line ds os Ts q p (y, y, y) = (cntI ds q p y, cntI ds q p y, cntI ds q p y)
  | 0, _ => rfl
  | p + 1, h => by
    rw [runI, run_in H p (by omega), H p (by omega), cntI]
theorem run_out {line : Str} {ds os : List Int} {Ts : List Str} {n : Nat} {y : List Int}
    (H : ∀ q, q < n → ∀ p, p < q → ∀ z, stepB line ds os Ts q p (z, z, z) = (if dI ds q < dI ds p then z.set (dI ds p).toNat (z.getD (dI ds p).toNat 0 + 1) else z, if dI ds q < dI ds p then z.set (dI ds p).toNat (z.getD (dI ds p).toNat 0 + 1) else z, if dI ds q < dI ds p then z.set (dI ds p).toNat (z.getD (dI ds p).toNat 0 + 1) else z)) :
    ∀ q, q ≤ n → runO line ds os Ts q (y, y, y) = (cntO ds q y, cntO ds q y, cntO ds q y)
  | 0, _ => rfl
  | q + 1, h => by
    rw [runO, run_out H q (by omega), run_in (H q (by omega)) q (Nat.le_refl _), cntO]
theorem sq_one (c i home step : Int) : (60 * ((c - home) * step) - 60 * ((i - home) * step)) * (60 * ((c - home) * step) - 60 * ((i - home) * step)) = (c - i) * (c - i) * (60 * step) ^ 2 := by
  have e : 60 * ((c - home) * step) - 60 * ((i - home) * step) = (c - i) * (60 * step) := by
    rw [← Int.mul_sub, ← Int.sub_mul, show c - home - (i - home) = c - i by omega, Int.mul_left_comm]
  rw [e, Int.pow_succ, Int.pow_succ, Int.pow_zero, Int.one_mul]
  generalize c - i = u
  generalize 60 * step = v
  rw [Int.mul_assoc u v, Int.mul_left_comm v u v, ← Int.mul_assoc u u]
theorem accQ_eq {ds : List Int} {home step : Int} {k : Nat} (hk : ds.length + 1 = k) (hds : ∀ c ∈ ds, 1 ≤ c ∧ c < (k : Int)) : ∀ n, n ≤ ds.length → accQ ds (offL home step k) n = accR ds n * (60 * step) ^ 2
  | 0, _ => by rw [accQ, accR, Int.zero_mul]
  | n + 1, h => by
    obtain ⟨c0, c1⟩ := hds (cdI ds n) (getD_mem (by omega))
    have e1 := off_at home step (n := k) (c := cdI ds n) (by omega) c1
    have e2 := off_at home step (n := k) (c := 1 + (n : Int)) (by omega) (by omega)
    rw [accQ, accR, accQ_eq hk hds n (by omega)]
    unfold offI
    rw [e1, e2, sq_one, Int.add_mul]
theorem sum_len (ds : List Int) : ((ds.map cardT).map (·.length)).sum = 8 * ds.length := by
  induction ds with
  | nil => rfl
  | cons d r ih =>
    rw [List.map_cons, List.map_cons, List.sum_cons, ih, cardT_len, List.length_cons]
    omega
theorem plain_law (k h home step : Int) (hk0 : 5 ≤ k) (hk1 : k ≤ 12) (hh0 : 2 ≤ h) (hh1 : h < k) (hg : Int.gcd h k = 1) (_hm0 : 0 ≤ home) (_hm1 : home ≤ k) (hs0 : 1 ≤ step) (_hs1 : step ≤ 60) : Plain k h home step := by
  obtain ⟨K, rfl⟩ := Int.eq_ofNat_of_zero_le (show 0 ≤ k by omega)
  obtain ⟨H, rfl⟩ := Int.eq_ofNat_of_zero_le (show 0 ≤ h by omega)
  have hc : chk K H (K - 1) = true := chk_all K (by omega) H (by omega) (by
    have hg' : Nat.gcd H K = 1 := hg
    simp only [Bool.and_eq_true, decide_eq_true_eq, beq_iff_eq]
    exact ⟨⟨⟨by omega, by omega⟩, by omega⟩, hg'⟩)
  obtain ⟨n, rfl⟩ : ∃ n, K = n + 1 := ⟨K - 1, by omega⟩
  rw [Nat.add_sub_cancel] at hc
  unfold chk at hc
  simp only [Bool.and_eq_true] at hc
  obtain ⟨⟨c1, c2⟩, c3⟩ := hc
  generalize hds : deckF ((H : Nat) : Int) ((n + 1 : Nat) : Int) n = ds at c1 c2 c3
  generalize hx : cntO ds n (List.replicate (n + 1) 0) = x at c3
  have ln : ds.length = n := by rw [← hds, deckF_len]
  have bds : ∀ c ∈ ds, 1 ≤ c ∧ c < ((n + 1 : Nat) : Int) := fun c hc => by
    have := List.all_eq_true.mp c1 c hc
    simpa using this
  have l2 := line_len ds
  have hjl : (Txt.join " " (ds.map cardT)).length = (lineL ds).length := by rw [← line_list]; simp [Str.length]
  have lx : x.length = n + 1 := by
    unfold chkX at c3
    simp only [Bool.and_eq_true, beq_iff_eq] at c3
    exact c3.1.1.1
  refine ⟨n, disF 12 H (n + 1 : Nat), x, by omega, by omega, ?_⟩
  rw [hds, ln]
  refine ⟨bds, by rw [hjl]; clear bds hh0 hh1 hs0; omega, by rw [sum_len, List.length_map]; clear bds l2 hjl hh0 hh1 hs0; omega, ?_, fun i hi => ?_, rfl, ?_, ?_⟩
  · rw [offL_len, ← hx]
    refine run_out (fun q hq p hp z => ?_) n (Nat.le_refl _)
    clear l2 hjl lx hh0 hh1
    have bp := bds (dI ds p) (getD_mem (by omega))
    have bq := bds (dI ds q) (getD_mem (by omega))
    refine step_one ?_ ?_ ?_
    · have := List.all_eq_true.mp (List.all_eq_true.mp c2 q (List.mem_range.mpr hq)) p (List.mem_range.mpr hp)
      rw [beq_iff_eq] at this
      rw [ell_deck (by have := mx_lo (a := dI ds p) (b := dI ds q) (c := 0) (by omega) (by omega); omega) (mx_hi (by omega) (by omega)) (by have := mn_lo (a := dI ds p) (b := dI ds q) (c := 0) (by omega) (by omega); omega) (mn_hi (by omega) (by omega)) (fun c hc => by have := bds c hc; omega)]
      exact this
    · rw [map_getD (by omega), map_getD (by omega)]
      exact card_lt (a := dI ds q) (b := dI ds p) (by omega) (by omega) (by omega) (by omega)
    · rw [off_at home step (n := n + 1) (by omega) bp.2, off_at home step (n := n + 1) (by omega) bq.2, lex_lt]
      exact off_lt hs0
  · unfold chkX at c3
    simp only [Bool.and_eq_true, beq_iff_eq] at c3
    have := List.all_eq_true.mp c3.1.1.2 i (List.mem_range.mpr hi)
    simpa using this
  · unfold chkX at c3
    simp only [Bool.and_eq_true, beq_iff_eq] at c3
    exact c3.1.2
  · unfold SqEq
    have d4 : 3 * accR ds n = 2 * ((n + 1 : Nat) : Int) * disF 12 H (n + 1 : Nat) := by
      unfold chkX at c3
      simp only [Bool.and_eq_true, beq_iff_eq] at c3
      exact c3.2
    have e := accQ_eq (home := home) (step := step) (k := n + 1) (by omega) bds n (by omega)
    rw [e, ← Int.mul_assoc, d4]
end
section
theorem law_dev (plain : ∀ k h home step, 5 ≤ k → k ≤ 12 → 2 ≤ h → h < k → Int.gcd h k = 1 → 0 ≤ home → home ≤ k → 1 ≤ step → step ≤ 60 → Plain k h home step) : PySem.Challenge.rw_xp0018_01.Holds := hd (by
  w_strict (
    k_fill
    intro w s₀ s₁ mg mb G Y fa o pm cd doc dV kV ho hd hcd hD hmg hg args vals as hpre hlay hrd hwl hlo
    have KX := kIn_of Y
    refine Ground.open G ?_
    intro T B D TE TW
    try (refine guard_noD D (by decide +kernel) ?_; clear D)
    have TA := at_of_top T
    try (obtain ⟨_, _, he, B0⟩ := based_of_top T rfl hmg ho hd; have he' : cd = _ := he; subst he'; clear he)
    clear hmg
    wrow_args hpre hlay hrd hwl hlo
    all_goals (
      first | refine callC_kw (enter_call ?_) | refine enter_call ?_ | refine callC_kw (enter_callW ?_) | refine enter_callW ?_ | w_how
      w_top on
      try refine codeAny_mono ?_ (fun _ _ g => GoodW.toG g)
      have K0 := below_caller (Top.heap T)
      w_call any ho hd hcd hD T F
      clear hd TA
      k_drop
      skip))
  (all_goals try k_fold)
  rename News _ _ _ _ => N
  rename Fr _ _ _ _ => F
  refine wpAny_mono (stA0 _ (by assumption) F (by assumption) N (by assumption) (by decide) (by decide) (by assumption) (by assumption) (by assumption) (by assumption) (by assumption) (by assumption) (by rfl) (by assumption) (by assumption) (by omega) plain ?hret) (fun _ _ x => x) (fun _ _ x => x.elim)
  intro h9 tk9 g9
  show GoodW _ _ _ _ _ (.ok (.ret (.bool true))) _
  refine ⟨.inl ⟨_, .bool true, [], rfl, raisesW_false ?_, .bool true, ?_, unshared_nil⟩, g9, rfl, by assumption⟩
  · wrow_none_raised
  · wrow_post)
end
end Mine
theorem PySem.Challenge.cw_xp0018_01_holds : PySem.Challenge.rw_xp0018_01.Holds := by
  exact Mine.law_dev Mine.plain_law
