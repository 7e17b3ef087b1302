import PyProof.Rows.All
import Wide.All
import OpenK.AllK
import Wide.FinOn
import KE.KStateW
import PyProof.SetKind
import PyProof.SetScanFacts
import PyProof.StrLawsFrom
import PyProof.StrLawsIn
import PySem.Sre
import PySem.Challenge.RW_ez0425_01
set_option Elab.async false
set_option maxRecDepth 100000
set_option maxHeartbeats 8000000
section
open PySem PySem.W PyProof.Rows
open_top hd for PySem.Challenge.rw_ez0425_01
namespace Mine
theorem quiet : True := by
  w_top off
  trivial
end Mine
end

section
open PySem PySem.W PySem.Calls PySem.Spec PyProof.Rows
set_option maxRecDepth 100000
set_option maxHeartbeats 8000000
namespace Mine
def Ext (h h' : Heap) : Prop := ∀ b o, h.get? b = some o → h'.get? b = some o
theorem Ext.refl (h : Heap) : Ext h h := fun _ _ e => e
theorem Ext.trans {a b c : Heap} (x : Ext a b) (y : Ext b c) : Ext a c := fun d o e => y d o (x d o e)

/-- what a call hands back: everything that stood stands, and Post of the value -/
def Out (s : Shared) (Post : Heap → Value → Prop) (Q : Value → Shared → Prop) : Prop :=
  ∀ h' tk dr v, Ext s.heap h' → Post h' v → Q v { s with heap := h', toks := tk, drawn := dr }

theorem Out.done {s s' : Shared} {Post : Heap → Value → Prop} {Q : Value → Shared → Prop} {v : Value} (h : Out s Post Q) (k : Ext s.heap s'.heap) (p : Post s'.heap v) (eg : s'.gens = s.gens) (eo : s'.os = s.os) : Q v s' := by
  obtain ⟨h', g', d', t', o'⟩ := s'
  simp only at eg eo
  subst eg; subst eo
  exact h _ _ _ _ k p
theorem Out.str {s s' : Shared} {Q : Value → Shared → Prop} {x y : Str} {t : Tok} (h : Out s (fun _ v => ∃ t', v = .str x t') Q) (k : Ext s.heap s'.heap) (e : y = x) (eg : s'.gens = s.gens) (eo : s'.os = s.os) :
    Q (.str y t) s' := h.done k ⟨t, by rw [e]⟩ eg eo

structure Room (A : Around) : Prop where
  hh : A.handled = none
  hd : A.depth + 40 < recursionLimit
  hu : A.units + 400 < cLine
structure Room1 (A : Around) : Prop where
  hh : A.handled = none
  hd : A.depth + 20 < recursionLimit
  hu : A.units + 200 < cLine

theorem enter {prog : Program} {w : World} {A : Around} {s : Shared} {K : Frag} {p : Program} {loose : List Str} {mean : ExcName → Option Value} {mg mb : Str → Option Value} {R : Result → Shared → Prop} {name qual : Str} {params : Arguments} {body : List Stmt} {scope : Scope} {dV kV doc pm cdv ct oc : Value} {an od : Option Addr} {osl : Array (Option Value)} {f : Addr} {args : Args} {binds : List (Str × Value)}
    (X : K.In s.heap) (T : Top p loose mean mg mb s.heap)
    (ho : K.lookup f = some ⟨oc, od, .func (fnOf name qual params body scope dV kV doc pm an cdv ct), osl⟩) (hcd : codeIn K cdv qual = true) (hroom : A.depth < recursionLimit)
    (hbind : BindsTo s (fnOf name qual params body scope dV kV doc pm an cdv ct) args binds) (hloc : ∀ y ∈ binds, scope.names.lookup y.1 = some .local)
    (h : ∀ L' h₁, Fr s.heap L' h₁ (fun y => binds.reverse.lookup y) → News s.heap L' h₁ [] →
      wpAny (model prog w) (A.deeper (envOf qual scope L' f cdv)) (execs body (envOf qual scope L' f cdv))
        (fun fl s' => R (.ok (.ret (match fl with | .ret v => v | _ => .none))) s') (fun _ _ => False)
        { s with heap := h₁, toks := s.toks + binds.length })
    (hco : scope.isCoroutine = false) (hgen : scope.isGenerator = false) (hk : scope.kind = .function)
    (hcell : ∀ x ∈ scope.names, x.2 ≠ .cell) : codeAny (model prog w) A (.call (.ref f) args) R s := by
  refine codeAny_call_def (fd := fnOf name qual params body scope dV kV doc pm an cdv ct) (body := body) (binds := binds) hroom (X _ _ ho) rfl T.nolimit (codeRec_of X hcd) rfl hbind hcell hloc (fun h₁ hns hk₁ => ?_) hco hgen hk
  exact wpAny_mono (h s.heap.objs.size h₁ ⟨hns, hk₁, Nat.le_refl _⟩ (fun p hp => by cases hp)) (fun _ _ x => x) (fun _ _ x => x.elim)

def tagS (n : Int) : Str := Txt.item (Str.ofString "abc") (n.fmod 3) ++ (if (n.fdiv 3).fmod 3 = 0 then Str.ofString "" else if (n.fdiv 3).fmod 3 = 1 then Str.ofString "a" else Str.ofString "b")

/-- a tag: one or two letters, no quote -/
structure TagOk (x : Str) : Prop where
  ne : x.cps.toList ≠ []
  le : x.cps.size ≤ 2
  nq : ∀ c ∈ x.cps.toList, c ≠ 34

def quoteS (b : Bool) (x : Str) : Str := if b then Str.ofString "W/\"" ++ x ++ Str.ofString "\"" else Str.ofString "\"" ++ x ++ Str.ofString "\""
end Mine
end

section
open PySem PySem.W PySem.Calls PySem.Spec PyProof.Rows
set_option maxRecDepth 100000
namespace Mine
theorem lit_quote : Str.ofString "\"" = ⟨#[34]⟩ := by decide +kernel
theorem lit_wquote : Str.ofString "W/\"" = ⟨#[87, 47, 34]⟩ := by decide +kernel
theorem TagOk.len {x : Str} (h : TagOk x) : x.length ≤ 2 := h.le
theorem TagOk.pos {x : Str} (h : TagOk x) : 1 ≤ x.length := by
  have := h.ne
  unfold Str.length
  rw [← Array.length_toList]
  exact List.length_pos_iff.mpr this
theorem TagOk.noq {x : Str} (h : TagOk x) : (Builtin.Str.occurrences x (Str.ofString "\"") 0 x.length 1).isEmpty = true := by
  have q := StrLaws.found_one x 34
  rw [lit_quote]
  have : decide (34 ∈ x.cps.toList) = false := by
    rw [decide_eq_false_iff_not]; intro hm; exact h.nq _ hm rfl
  rw [this] at q
  simpa using q
theorem tup_news {h₀ h : Heap} {L a : Addr} {news : List (Addr × Obj)} {xs : Array Value} {n : Nat} (N : News h₀ L h news) (hm : (a, ({ cls := .type "tuple", data := .seq xs n } : Obj)) ∈ news) : IsTup h a xs :=
  ⟨_, (N _ hm).1, rfl, n, rfl⟩
theorem Out.tup2 {s s' : Shared} {Q : Value → Shared → Prop} {y : Str} {b : Bool} {t : Tok} {a : Addr} (h : Out s (fun h' v => ∃ a t', v = .ref a ∧ IsTup h' a #[.str y t', .bool b]) Q) (k : Ext s.heap s'.heap) (e : IsTup s'.heap a #[.str y t, .bool b]) (eg : s'.gens = s.gens) (eo : s'.os = s.os) :
    Q (.ref a) s' := h.done k ⟨a, t, rfl, e⟩ eg eo
end Mine
end

section
open PySem PySem.W PySem.Calls PySem.Spec PyProof.Rows
set_option maxRecDepth 100000
set_option maxHeartbeats 8000000
namespace Mine
local macro_rules | `(tactic| k_enter) => `(tactic| (refine' enter ?k1 ?k2 ?k6 ?k7 ?k8 ?k9 ?kB ?_ ?c2 ?c3 ?c4 ?c5; (case k1 => assumption); (case k2 => assumption); (case k6 => k_is); (case k7 => k_is); (case k8 => (have := (by assumption : Room1 _).hd; omega)); (case k9 => first | exact BindsTo.of_eq rfl | exact binds_K (by k_in) rfl (by k_is) rfl rfl rfl | fail "k_enter: no rule for these arguments"); (case c5 => decide); (case kB => exact locs rfl); (case c2 => exact rfl); (case c3 => exact rfl); (case c4 => exact rfl); k_whole; intro L' h' F' N'; (try dsimp only); (try k_fold)))

section
variable {p : Program} {loose : List Str} {w : World} {A : Around} {s : Shared} {mean : ExcName → Option Value} {mg mb : Str → Option Value} {Q E : Value → Shared → Prop}

theorem law_tag_spec {n : Int} {t : Tok} (RM : Room1 A) (X : (hd.heap_39 w.params).In s.heap) (T : Top p loose mean mg mb s.heap)
   (h : Out s (fun _ v => ∃ t', v = .str (tagS n) t') Q) :
   wpAny (model PySem.Challenge.rw_ez0425_01.row.prog w) A (call (.ref 243) [.int n t]) Q E s := by
  revert X T
  k_fill
  intro X T
  refine wpAny_call ?_
  k_dflt k_enter
  k_steps
  all_goals (refine Out.str h (Fr.keep (by assumption)) ?_ rfl rfl; simp [tagS, *]; done)

theorem quote_spec0 {x : Str} {t : Tok} (tx : TagOk x) (RM : Room1 A) (X : (hd.heap_39 w.params).In s.heap) (T : Top p loose mean mg mb s.heap)
   (h : Out s (fun _ v => ∃ t', v = .str (quoteS false x) t') Q) :
   wpAny (model PySem.Challenge.rw_ez0425_01.row.prog w) A (call (.ref 202) [.str x t]) Q E s := by
  have hl := tx.len
  have hq := tx.noq
  refine wpAny_call ?_
  k_dflt k_enter
  k_steps
  all_goals (refine Out.str h (Fr.keep (by assumption)) ?_ rfl rfl; simp [quoteS, Str.empty_append, *]; done)
theorem quote_spec {x : Str} {t : Tok} {b : Bool} (tx : TagOk x) (RM : Room1 A) (X : (hd.heap_39 w.params).In s.heap) (T : Top p loose mean mg mb s.heap)
   (h : Out s (fun _ v => ∃ t', v = .str (quoteS b x) t') Q) :
   wpAny (model PySem.Challenge.rw_ez0425_01.row.prog w) A (call (.ref 202) [.str x t] [(Str.ofString "weak", .bool b)]) Q E s := by
  have hl := tx.len
  have hq := tx.noq
  refine wpAny_call ?_
  k_dflt k_enter
  k_steps
  all_goals (refine Out.str h (Fr.keep (by assumption)) ?_ rfl rfl; simp [quoteS, Str.empty_append, *]; done)
end
end Mine
end

section
open PySem PySem.W PySem.Calls PySem.Spec PyProof.Rows
set_option maxRecDepth 100000
set_option maxHeartbeats 8000000
namespace Mine
local macro_rules | `(tactic| k_enter) => `(tactic| (refine' enter ?k1 ?k2 ?k6 ?k7 ?k8 ?k9 ?kB ?_ ?c2 ?c3 ?c4 ?c5; (case k1 => assumption); (case k2 => assumption); (case k6 => k_is); (case k7 => k_is); (case k8 => (have := (by assumption : Room1 _).hd; omega)); (case k9 => first | exact BindsTo.of_eq rfl | exact binds_K (by k_in) rfl (by k_is) rfl rfl rfl | fail "k_enter: no rule for these arguments"); (case c5 => decide); (case kB => exact locs rfl); (case c2 => exact rfl); (case c3 => exact rfl); (case c4 => exact rfl); k_whole; intro L' h' F' N'; (try dsimp only); (try k_fold)))
section
variable {p : Program} {loose : List Str} {w : World} {A : Around} {s : Shared} {mean : ExcName → Option Value} {mg mb : Str → Option Value} {Q E : Value → Shared → Prop}

theorem law_at_spec {a : Addr} {vs : List Value} {ns : List Int} {k d : Int} {tk td : Tok} (hl : s.heap.IsList a vs.toArray) (hi : IntsAre vs ns) (hlen : ns.length ≤ 1048576) (hk : 0 ≤ k) (RM : Room1 A) (X : (hd.heap_39 w.params).In s.heap) (T : Top p loose mean mg mb s.heap)
   (h : Out s (fun _ v => ∃ r t', v = .int r t') Q) :
   wpAny (model PySem.Challenge.rw_ez0425_01.row.prog w) A (call (.ref 236) [.ref a, .int k tk, .int d td]) Q E s := by
  revert X T
  k_fill
  intro X T
  refine wpAny_call ?_
  k_dflt k_enter
  k_steps
  all_goals (first | (refine Out.done h (Fr.keep (by assumption)) ⟨_, _, rfl⟩ rfl rfl) | (fail "open"))

end
end Mine
end

section
open PySem PySem.W PySem.Calls PySem.Spec PyProof.Rows
set_option maxRecDepth 100000
set_option maxHeartbeats 4000000
namespace Mine
open PySem.Builtin PySem.Builtin.Str
section
variable {prog : Program} {w : World} {A : Around} {E : Value → Shared → Prop} {s : Shared} {Q : Value → Shared → Prop}
theorem args_endswith_3 (a b c : Value) : argsOk "str.endswith" ⟨[a, b, c], []⟩ := by unfold argsOk; kernel_rfl
theorem sub_tuple_self : isSubtype (.type "tuple") (.type "tuple") = pure true := by rw [isSubtype_type]; kernel_rfl
theorem sub_tuple_str : isSubtype (.type "tuple") (.type "str") = pure false := by rw [isSubtype_type]; kernel_rfl
theorem startswith_tup {x y₁ y₂ : Str} {t u₁ u₂ : Tok} {D : Addr} (hD : IsTup s.heap D #[.str y₁ u₁, .str y₂ u₂]) (hq : Q (.bool (Txt.startswith x y₁ || Txt.startswith x y₂)) s) :
    wpAny (model prog w) A (call (.builtin "str.startswith") [.str x t, .ref D]) Q E s := by
  refine wpAny_call_entry F.slot_str_startswith (typeIs_str _ _ _) F.entry_str_startswith ?_ (F.args_str_startswith_2 _ _)
  obtain ⟨⟨oc, od, odt, osl⟩, ho, hc, n, hdd⟩ := hD
  simp only at hc hdd
  subst hc; subst hdd
  have hT : s.TypeIs (.ref D) "tuple" := ⟨_, ho, rfl⟩
  have h1 := sub_tuple_self
  have h2 := sub_tuple_str
  unfold «str.startswith» affixEntry
  obtain ⟨hp, g, d, tk, os⟩ := s
  wp_walk using wpAny_loadPart' ho, wpAny_load' ho
  have e : ∀ y : Str, (decide (Int.toNat 0 + y.length ≤ Min.min (x.length : Int).toNat x.length) && subAt x y (Int.toNat 0)) = Txt.startswith x y := fun y => by
    rw [Int.toNat_natCast, Nat.min_self]; rfl
  have hc1 := e y₁
  have hc2 := e y₂
  refine wpAny_ite ?_
  cases hb1 : Txt.startswith x y₁ with
  | true =>
    rw [hb1] at hq hc1
    rw [if_pos hc1]
    wp_walk
    exact ⟨_, rfl, hq⟩
  | false =>
    rw [hb1] at hq hc1
    rw [if_neg (fun h => Bool.noConfusion (hc1.symm.trans h))]
    wp_walk
    refine wpAny_ite ?_
    cases hb2 : Txt.startswith x y₂ with
    | true =>
      rw [hb2] at hq hc2
      rw [if_pos hc2]
      wp_walk
      exact ⟨_, rfl, hq⟩
    | false =>
      rw [hb2] at hq hc2
      rw [if_neg (fun h => Bool.noConfusion (hc2.symm.trans h))]
      wp_walk
      exact ⟨_, rfl, hq⟩

def endswith3 (x y : Str) (i : Int) : Bool := fromIndex x.length i + y.length ≤ x.length && subAt x y (x.length - y.length)
theorem gives_endswith3 (x y : Str) (i : Int) (t u v : Tok) : Gives («str.endswith» ⟨[.str x t, .str y u, .int i v], []⟩) (.val (.bool (endswith3 x y i))) := by
  show Gives (ret (.bool (fromIndex x.length i + y.length ≤ min x.length x.length && subAt x y (min x.length x.length - y.length)))) _
  rw [Nat.min_self]
  exact .of_eq rfl
theorem call_endswith3 {x y : Str} {t u v : Tok} {i : Int} (hq : Q (.bool (endswith3 x y i)) s) : wpAny (model prog w) A (call (.builtin "str.endswith") [.str x t, .str y u, .int i v]) Q E s :=
  call_gives F.slot_str_endswith (typeIs_str _ _ _) F.entry_str_endswith (args_endswith_3 _ _ _) (gives_endswith3 x y i t u v) hq
end
end Mine
end

section
open PySem PySem.Sre
set_option maxRecDepth 100000
namespace Mine
def CODE : Array Nat := #[14, 4, 0, 1, 4294967295, 24, 11, 0, 4294967295, 13, 6, 16, 32, 16, 9, 0, 1, 23, 16, 0, 1, 17, 0, 13, 6, 16, 87, 16, 119, 0, 16, 47, 17, 1, 18, 7, 18, 16, 34, 17, 2, 24, 6, 0, 4294967295, 20, 34, 1, 17, 3, 16, 34, 15, 27, 25, 17, 4, 24, 17, 1, 4294967295, 13, 12, 21, 9, 512, 4101, 0, 0, 0, 0, 0, 0, 0, 1, 17, 5, 15, 2, 0, 24, 11, 0, 4294967295, 13, 6, 16, 32, 16, 9, 0, 1, 7, 5, 16, 44, 15, 7, 5, 6, 7, 15, 2, 0, 1]

def Steps (k : Nat) (a b : Sre.Seen → M) : Prop := ∀ sn, ∃ sn', M.runFor k (a sn) = b sn'

theorem runFor_zero (m : M) : M.runFor 0 m = m := rfl
theorem runFor_done {m : M} (h : m.outcome.isSome = true) : ∀ k, M.runFor k m = m
  | 0 => rfl
  | k + 1 => by show (if m.outcome.isSome then m else _) = m; rw [if_pos h]
theorem runFor_add (a b : Nat) : ∀ m : M, M.runFor (a + b) m = M.runFor b (M.runFor a m) := by
  induction a with
  | zero => intro m; rw [Nat.zero_add]; rfl
  | succ a ih =>
    intro m
    rw [Nat.succ_add]
    show (if m.outcome.isSome then m else M.runFor (a + b) m.step) = M.runFor b (if m.outcome.isSome then m else M.runFor a m.step)
    by_cases h : m.outcome.isSome = true
    · rw [if_pos h, if_pos h, runFor_done h]
    · rw [if_neg h, if_neg h, ih]
theorem Steps.trans {j k : Nat} {a b c : Sre.Seen → M} (x : Steps j a b) (y : Steps k b c) : Steps (j + k) a c := fun sn => by
  obtain ⟨s1, e1⟩ := x sn
  obtain ⟨s2, e2⟩ := y s1
  exact ⟨s2, by rw [runFor_add, e1, e2]⟩
theorem Steps.refl (a : Sre.Seen → M) : Steps 0 a a := fun sn => ⟨sn, rfl⟩
theorem Steps.one {a b : Sre.Seen → M} (h : ∀ sn, (a sn).outcome = none) (e : ∀ sn, ∃ sn', M.step (a sn) = b sn') : Steps 1 a b := fun sn => by
  obtain ⟨s1, e1⟩ := e sn
  refine ⟨s1, ?_⟩
  show (if (a sn).outcome.isSome then _ else M.runFor 0 _) = _
  rw [if_neg (by rw [h]; exact Bool.false_ne_true)]
  exact e1

theorem step_exec {m : M} (h0 : m.outcome = none) (h1 : m.answer = none) (h2 : m.pc < m.code.size) : m.step = m.exec := by
  unfold M.step
  rw [h0, h1]
  simp only [Option.isSome_none, Bool.false_eq_true, if_false, h2, if_true]
theorem step_resume {m : M} {yes : Bool} {f : Sre.Frame} {rest : List Sre.Frame} (h0 : m.outcome = none) (h1 : m.answer = some yes) (h2 : m.frames = f :: rest) :
    m.step = M.resume { m with answer := none, frames := rest, weight := m.weight - (1 + f.kept.marks.size), pc := f.pc, pos := f.pos, outermost := f.outermost } f yes := by
  unfold M.step
  rw [h0, h1, h2]
  simp only [Option.isSome_none, Bool.false_eq_true, if_false]

/-- the one-character words -/
theorem exec_char {m : M} {op : Op} (hop : ops[m.word 0]? = some op) (hc : op = .LITERAL ∨ op = .IN) {b : Bool} {sn : Sre.Seen} (hp : m.pos < m.lim)
    (ha : accepts m.code m.pc (m.text.getD m.pos 0) (m.seen.add (m.word 0)) = .ok (b, sn)) :
    m.exec = if b then { m with seen := sn, pc := m.pc + itemWidth m.code m.pc, pos := m.pos + 1 } else M.say { m with seen := sn } false := by
  have hn : ¬ (m.pos ≥ m.lim) := Nat.not_le.mpr hp
  unfold M.exec
  rw [hop]
  rcases hc with rfl | rfl
  all_goals
    dsimp only
    rw [if_neg hn, ha]
    cases b <;> rfl

def St (T : Array Nat) (n st pc pos hd : Nat) (mk : Array (Option Nat)) (lm li : Int) (lp : Array Loop) (inn : Option Nat) (fr : List Sre.Frame) (wt : Nat) (ans : Option Bool) (sn : Sre.Seen) : M :=
  { code := CODE, text := T, lim := n, start := st, pc := pc, pos := pos, handed := hd, marks := mk, lastmark := lm, lastindex := li, loops := lp, inner := inn, frames := fr, weight := wt, answer := ans, seen := sn }

section
variable {T : Array Nat} {n st p hd : Nat} {mk : Array (Option Nat)} {lm li : Int} {lp : Array Loop} {inn : Option Nat} {fr : List Sre.Frame} {wt : Nat} {sn : Sre.Seen}

theorem exec_at {pc : Nat} (hpc : pc < CODE.size) : (St T n st pc p hd mk lm li lp inn fr wt none sn).step = (St T n st pc p hd mk lm li lp inn fr wt none sn).exec := step_exec rfl rfl hpc

theorem lit_acc {pc c : Nat} {b : Bool} (hop : ops[CODE.getD pc 0]? = some .LITERAL) (hw : CODE.getD (pc + 1) 0 = c) (hc : (T.getD p 0 == c) = b) : accepts CODE pc (T.getD p 0) sn = .ok (b, sn) := by
  unfold accepts
  simp only [hop, hw, hc]

/-- a literal -/
theorem go_lit {pc : Nat} (c : Nat) (hpc : pc < CODE.size) (hop : ops[CODE.getD pc 0]? = some .LITERAL) (hw : CODE.getD (pc + 1) 0 = c) (hp : p < n) (hc : T.getD p 0 = c) :
    Steps 1 (St T n st pc p hd mk lm li lp inn fr wt none) (St T n st (pc + 2) (p + 1) hd mk lm li lp inn fr wt none) := by
  refine Steps.one (fun _ => rfl) fun sn => ?_
  rw [exec_at hpc]
  refine ⟨sn.add (CODE.getD (pc + 0) 0), ?_⟩
  rw [exec_char (m := St T n st pc p hd mk lm li lp inn fr wt none sn) (op := .LITERAL) hop (.inl rfl) hp (lit_acc (b := true) hop hw (beq_iff_eq.mpr hc))]
  have hi : itemWidth CODE pc = 2 := by unfold itemWidth; simp only [hop]
  show St T n st (pc + itemWidth CODE pc) (p + 1) hd mk lm li lp inn fr wt none (sn.add (CODE.getD (pc + 0) 0)) = _
  rw [hi]
theorem no_lit {pc : Nat} (c : Nat) (hpc : pc < CODE.size) (hop : ops[CODE.getD pc 0]? = some .LITERAL) (hw : CODE.getD (pc + 1) 0 = c) (hc : p < n → T.getD p 0 ≠ c) :
    Steps 1 (St T n st pc p hd mk lm li lp inn fr wt none) (St T n st pc p hd mk lm li lp inn fr wt (some false)) := by
  refine Steps.one (fun _ => rfl) fun sn => ?_
  rw [exec_at hpc]
  refine ⟨sn.add (CODE.getD (pc + 0) 0), ?_⟩
  by_cases hp : p < n
  · rw [exec_char (m := St T n st pc p hd mk lm li lp inn fr wt none sn) (op := .LITERAL) hop (.inl rfl) hp (lit_acc (b := false) hop hw (beq_eq_false_iff_ne.mpr (hc hp)))]
    rfl
  · unfold M.exec
    have h1 : ops[(St T n st pc p hd mk lm li lp inn fr wt none sn).word 0]? = some .LITERAL := hop
    rw [h1]
    dsimp only
    refine (if_pos ?_).trans rfl
    exact Nat.not_lt.mp hp

/-- a set of written signs: what the class at pc says of c -/
def ws (c : Nat) : Bool := c == 32 || c == 9
theorem acc_ws9 (c : Nat) (sn : Sre.Seen) : ∃ sn', accepts CODE 9 c sn = .ok (ws c, sn') := by
  unfold ws
  by_cases h1 : c = 32
  · subst h1; exact ⟨_, rfl⟩
  · by_cases h2 : c = 9
    · subst h2; exact ⟨_, rfl⟩
    · have e1 : (c == 32) = false := beq_eq_false_iff_ne.mpr h1
      have e2 : (c == 9) = false := beq_eq_false_iff_ne.mpr h2
      refine ⟨((sn.add 16).add 16).add 0, ?_⟩
      show (if (c == 32) = true then _ else if (c == 9) = true then _ else _) = _
      rw [e1, e2]
      rfl
theorem acc_ws84 (c : Nat) (sn : Sre.Seen) : ∃ sn', accepts CODE 84 c sn = .ok (ws c, sn') := by
  unfold ws
  by_cases h1 : c = 32
  · subst h1; exact ⟨_, rfl⟩
  · by_cases h2 : c = 9
    · subst h2; exact ⟨_, rfl⟩
    · have e1 : (c == 32) = false := beq_eq_false_iff_ne.mpr h1
      have e2 : (c == 9) = false := beq_eq_false_iff_ne.mpr h2
      refine ⟨((sn.add 16).add 16).add 0, ?_⟩
      show (if (c == 32) = true then _ else if (c == 9) = true then _ else _) = _
      rw [e1, e2]
      rfl
theorem acc_w23 (c : Nat) (sn : Sre.Seen) : ∃ sn', accepts CODE 23 c sn = .ok (c == 87 || c == 119, sn') := by
  by_cases h1 : c = 87
  · subst h1; exact ⟨_, rfl⟩
  · by_cases h2 : c = 119
    · subst h2; exact ⟨_, rfl⟩
    · have e1 : (c == 87) = false := beq_eq_false_iff_ne.mpr h1
      have e2 : (c == 119) = false := beq_eq_false_iff_ne.mpr h2
      refine ⟨((sn.add 16).add 16).add 0, ?_⟩
      show (if (c == 87) = true then _ else if (c == 119) = true then _ else _) = _
      rw [e1, e2]
      rfl
theorem acc_nq45 (c : Nat) (sn : Sre.Seen) : ∃ sn', accepts CODE 45 c sn = .ok (c != 34, sn') := ⟨_, rfl⟩
/-- the bare tag's class refuses a blank, a tab, a comma, a quote -/
theorem acc_bare61 (c : Nat) (h : c = 32 ∨ c = 9 ∨ c = 44 ∨ c = 34) (sn : Sre.Seen) : ∃ sn', accepts CODE 61 c sn = .ok (false, sn') := by
  rcases h with rfl | rfl | rfl | rfl <;> exact ⟨_, rfl⟩

/-- a run of signs -/
theorem run_is {i : Nat} {ok : Nat → Bool} (hacc : ∀ c sn, ∃ sn', accepts CODE i c sn = .ok (ok c, sn')) :
    ∀ (k N q found : Nat) (sn : Sre.Seen), (∀ j, j < k → ok (T.getD (q + j) 0) = true) → (k = N ∨ (k < N ∧ ok (T.getD (q + k) 0) = false)) → ∃ sn', Sre.run CODE T i N q found sn = .ok (found + k, sn') := by
  intro k
  induction k with
  | zero =>
    intro N q found sn _ h
    cases N with
    | zero => exact ⟨sn, rfl⟩
    | succ N =>
      rcases h with h | ⟨_, h⟩
      · cases h
      · obtain ⟨sn', e⟩ := hacc (T.getD (q + 0) 0) sn
        rw [h] at e
        refine ⟨sn', ?_⟩
        show (do let (yes, seen) ← accepts CODE i (T.getD q 0) sn; if yes then Sre.run CODE T i N (q + 1) (found + 1) seen else pure (found, seen)) = _
        rw [Nat.add_zero] at e
        rw [e]
        rfl
  | succ k ih =>
    intro N q found sn h1 h2
    cases N with
    | zero => rcases h2 with h | ⟨h, _⟩ <;> omega
    | succ N =>
      obtain ⟨sn1, e⟩ := hacc (T.getD (q + 0) 0) sn
      rw [h1 0 (by omega)] at e
      rw [Nat.add_zero] at e
      obtain ⟨sn2, e2⟩ := ih N (q + 1) (found + 1) sn1 (fun j hj => by have := h1 (j + 1) (by omega); rwa [show q + 1 + j = q + (j + 1) by omega]) (by
        rcases h2 with h | ⟨h, h'⟩
        · left; omega
        · right; exact ⟨by omega, by rwa [show q + 1 + k = q + (k + 1) by omega]⟩)
      refine ⟨sn2, ?_⟩
      show (do let (yes, seen) ← accepts CODE i (T.getD q 0) sn; if yes then Sre.run CODE T i N (q + 1) (found + 1) seen else pure (found, seen)) = _
      rw [e]
      show Sre.run CODE T i N (q + 1) (found + 1) sn1 = _
      rw [e2]
      congr 2
      omega

def gb (pc pos k : Nat) (lm li : Int) : Sre.Frame := { wait := .giveBack, pc := pc, pos := pos, outermost := true, count := k, kept := { lastmark := lm, lastindex := li, whole := false, marks := #[] } }

theorem exec_rep {m : M} {k : Nat} {sn' : Sre.Seen} (hop : ops[m.word 0]? = some .REPEAT_ONE) (hl : m.word 2 = 0) (hm : m.word 3 = 4294967295) (hp : m.pos ≤ m.lim)
    (hr : Sre.run m.code m.text (m.pc + 4) (min 4294967295 ((m.lim : Int) - m.pos).toNat) m.pos 0 ((m.seen.add (m.word 0)).add (m.word 4)) = .ok (k, sn')) :
    m.exec = M.afterRun { m with seen := sn', pos := m.pos + k } .giveBack k (M.keep { m with seen := sn', pos := m.pos + k } m.inner.isSome) := by
  unfold M.exec
  simp only [M.word] at hop hl hm hr ⊢
  rw [hop]
  dsimp only
  simp only [hl, hm]
  have h0 : ¬ (((0 : Nat) : Int) > (m.lim : Int) - m.pos) := by omega
  rw [if_neg h0]
  simp only [Bool.false_eq_true, if_false, hr, Nat.not_lt_zero]
theorem go_rep {pc sk k : Nat} {ok : Nat → Bool} (hpc : pc < CODE.size) (hop : ops[CODE.getD (pc + 0) 0]? = some .REPEAT_ONE) (hmin : CODE.getD (pc + 2) 0 = 0) (hmax : CODE.getD (pc + 3) 0 = 4294967295) (hsk : CODE.getD (pc + 1) 0 = sk)
    (hacc : ∀ c sn, ∃ sn', accepts CODE (pc + 4) c sn = .ok (ok c, sn')) (hk : p + k ≤ n) (hn : n < 4294967295) (h1 : ∀ j, j < k → ok (T.getD (p + j) 0) = true) (h2 : p + k = n ∨ ok (T.getD (p + k) 0) = false) (hw : wt < 1000) :
    Steps 1 (St T n st pc p hd mk lm li lp none fr wt none) (St T n st (pc + 1 + sk) (p + k) (p + k) mk lm li lp none (gb pc (p + k) k lm li :: fr) (wt + 1) none) := by
  refine Steps.one (fun _ => rfl) fun sn => ?_
  rw [exec_at hpc]
  have hN : (min 4294967295 ((n : Int) - (p : Int)).toNat) = n - p := by omega
  obtain ⟨sn', e⟩ := run_is (T := T) hacc k (n - p) p 0 ((sn.add (CODE.getD (pc + 0) 0)).add (CODE.getD (pc + 4) 0)) h1 (by
    rcases h2 with h | h
    · left; omega
    · by_cases q : p + k = n
      · left; omega
      · right; exact ⟨by omega, h⟩)
  rw [Nat.zero_add, ← hN] at e
  refine ⟨sn', ?_⟩
  rw [exec_rep (m := St T n st pc p hd mk lm li lp none fr wt none sn) hop hmin hmax (by show p ≤ n; omega) e]
  unfold M.afterRun M.attempt
  refine (if_neg ?_).trans ?_
  · show ¬ (wt + 1 + 0 > 16777216); omega
  · show St T n st (pc + 1 + CODE.getD (pc + 1) 0) (p + k) (p + k) mk lm li lp none (gb pc (p + k) k lm li :: fr) (wt + 1 + 0) none sn' = _
    rw [hsk]

theorem go_mark {pc i : Nat} {mk' : Array (Option Nat)} {lm' li' : Int} (hpc : pc < CODE.size) (hop : ops[CODE.getD (pc + 0) 0]? = some .MARK) (hw : CODE.getD (pc + 1) 0 = i)
    (e : ∀ sn, M.mark (St T n st pc p hd mk lm li lp inn fr wt none sn) i = St T n st (pc + 2) p hd mk' lm' li' lp inn fr wt none sn) :
    Steps 1 (St T n st pc p hd mk lm li lp inn fr wt none) (St T n st (pc + 2) p hd mk' lm' li' lp inn fr wt none) := by
  refine Steps.one (fun _ => rfl) fun sn => ?_
  rw [exec_at hpc]
  refine ⟨sn.add (CODE.getD (pc + 0) 0), ?_⟩
  unfold M.exec
  have h1 : ops[(St T n st pc p hd mk lm li lp inn fr wt none sn).word 0]? = some .MARK := hop
  rw [h1]
  dsimp only
  refine Eq.trans ?_ (e (sn.add (CODE.getD (pc + 0) 0)))
  show M.mark (St T n st pc p hd mk lm li lp inn fr wt none (sn.add (CODE.getD (pc + 0) 0))) (CODE.getD (pc + 1) 0) = _
  rw [hw]
theorem go_jump {pc k : Nat} (hpc : pc < CODE.size) (hop : ops[CODE.getD (pc + 0) 0]? = some .JUMP) (hw : CODE.getD (pc + 1) 0 = k) :
    Steps 1 (St T n st pc p hd mk lm li lp inn fr wt none) (St T n st (pc + 1 + k) p hd mk lm li lp inn fr wt none) := by
  refine Steps.one (fun _ => rfl) fun sn => ?_
  rw [exec_at hpc]
  refine ⟨sn.add (CODE.getD (pc + 0) 0), ?_⟩
  unfold M.exec
  have h1 : ops[(St T n st pc p hd mk lm li lp inn fr wt none sn).word 0]? = some .JUMP := hop
  rw [h1]
  dsimp only
  show St T n st (pc + 1 + CODE.getD (pc + 1) 0) p hd mk lm li lp inn fr wt none (sn.add (CODE.getD (pc + 0) 0)) = _
  rw [hw]
def cl (pos : Nat) : Sre.Frame := { wait := .closeLoop, pc := 17, pos := pos, outermost := true }
def L0 : Loop := { pc := 17, count := -1, began := none, outer := none }
def L1 (p : Nat) : Loop := { pc := 17, count := 0, began := some p, outer := none }
theorem go_repeat (hw : wt < 1000) : Steps 1 (St T n st 17 p hd mk lm li #[] none fr wt none) (St T n st 34 p p mk lm li #[L0] (some 0) (cl p :: fr) (wt + 1) none) := by
  refine Steps.one (fun _ => rfl) fun sn => ?_
  rw [exec_at (by decide)]
  refine ⟨sn.add 23, ?_⟩
  refine Eq.trans (b := M.attempt (St T n st 17 p hd mk lm li #[L0] (some 0) fr wt none (sn.add 23)) (cl p) 34 p true) rfl ?_
  unfold M.attempt
  refine (if_neg ?_).trans rfl
  show ¬ (wt + 1 + 0 > 16777216); omega
def mm (pos : Nat) : Sre.Frame := { wait := .maxMore, pc := 35, pos := pos, outermost := true, count := 0, kept := { lastmark := -1, lastindex := -1, whole := true, marks := #[] }, loop := 0, began := none }
theorem go_until0 (hw : wt < 1000) : Steps 1 (St T n st 34 p hd mk (-1) (-1) #[L0] (some 0) fr wt none) (St T n st 21 p p mk (-1) (-1) #[L1 p] (some 0) (mm p :: fr) (wt + 1) none) := by
  refine Steps.one (fun _ => rfl) fun sn => ?_
  rw [exec_at (by decide)]
  refine ⟨sn.add 18, ?_⟩
  have hx : mk.extract 0 ((-1 : Int) + 1).toNat = #[] := by simp
  refine Eq.trans (b := M.attempt (St T n st 35 p hd mk (-1) (-1) #[L1 p] (some 0) fr wt none (sn.add 18)) { mm p with kept := { lastmark := -1, lastindex := -1, whole := true, marks := mk.extract 0 ((-1 : Int) + 1).toNat } } 21 p true) rfl ?_
  rw [hx]
  unfold M.attempt
  refine (if_neg ?_).trans rfl
  show ¬ (wt + 1 + 0 > 16777216); omega

theorem go_w (hp : p < n) (hc : T.getD p 0 = 87) : Steps 1 (St T n st 23 p hd mk lm li lp inn fr wt none) (St T n st 30 (p + 1) hd mk lm li lp inn fr wt none) := by
  refine Steps.one (fun _ => rfl) fun sn => ?_
  rw [exec_at (by decide)]
  obtain ⟨sn', e⟩ := acc_w23 (T.getD p 0) (sn.add 13)
  rw [hc] at e
  refine ⟨sn', ?_⟩
  rw [exec_char (m := St T n st 23 p hd mk lm li lp inn fr wt none sn) (op := .IN) rfl (.inr rfl) hp (b := true) (by show accepts CODE 23 (T.getD p 0) (sn.add 13) = _; rw [hc]; exact e)]
  rfl
theorem no_w (hc : p < n → T.getD p 0 ≠ 87 ∧ T.getD p 0 ≠ 119) : Steps 1 (St T n st 23 p hd mk lm li lp inn fr wt none) (St T n st 23 p hd mk lm li lp inn fr wt (some false)) := by
  refine Steps.one (fun _ => rfl) fun sn => ?_
  rw [exec_at (by decide)]
  by_cases hp : p < n
  · obtain ⟨sn', e⟩ := acc_w23 (T.getD p 0) (sn.add 13)
    have e1 : (T.getD p 0 == 87 || T.getD p 0 == 119) = false := by
      rw [beq_eq_false_iff_ne.mpr (hc hp).1, beq_eq_false_iff_ne.mpr (hc hp).2]; rfl
    rw [e1] at e
    refine ⟨sn', ?_⟩
    rw [exec_char (m := St T n st 23 p hd mk lm li lp inn fr wt none sn) (op := .IN) rfl (.inr rfl) hp e]
    rfl
  · refine ⟨sn.add 13, ?_⟩
    unfold M.exec
    have h1 : ops[(St T n st 23 p hd mk lm li lp inn fr wt none sn).word 0]? = some .IN := rfl
    rw [h1]
    dsimp only
    refine (if_pos ?_).trans rfl
    exact Nat.not_lt.mp hp

def mt (pc pos : Nat) (count : Int) (lm li : Int) : Sre.Frame := { wait := .maxTail, pc := pc, pos := pos, outermost := true, count := count, kept := { lastmark := lm, lastindex := li, whole := false, marks := #[] }, loop := 0 }
/-- the optional mark was no match: on without it -/
theorem no_mm {q : Nat} {lm' li' : Int} (hw : wt < 1000) : Steps 1 (St T n st 23 p hd mk lm' li' #[L1 q] (some 0) (mm p :: fr) wt (some false)) (St T n st 35 p p mk (-1) (-1) #[L0] none (mt 35 p 0 (-1) (-1) :: fr) (wt - (1 + 0) + 1) none) := by
  refine Steps.one (fun _ => rfl) fun sn => ?_
  rw [step_resume (m := St T n st 23 p hd mk lm' li' #[L1 q] (some 0) (mm p :: fr) wt (some false) sn) rfl rfl rfl]
  refine ⟨sn, ?_⟩
  have hx : (#[] : Array (Option Nat)) ++ mk.extract 0 mk.size = mk := by simp
  refine Eq.trans (b := M.attempt (St T n st 35 p hd ((#[] : Array (Option Nat)) ++ mk.extract 0 mk.size) (-1) (-1) #[L0] none fr (wt - (1 + 0)) none sn) (mt 35 p 0 (-1) (-1)) 35 p true) rfl ?_
  rw [hx]
  unfold M.attempt
  refine (if_neg ?_).trans rfl
  show ¬ (wt - (1 + 0) + 1 + 0 > 16777216); omega
/-- the optional mark was met: its end -/
theorem go_until1 {q : Nat} (hw : wt < 1000) : Steps 1 (St T n st 34 p hd mk lm li #[L1 q] (some 0) fr wt none) (St T n st 35 p p mk lm li #[L1 q] none (mt 35 p 1 lm li :: fr) (wt + 1) none) := by
  refine Steps.one (fun _ => rfl) fun sn => ?_
  rw [exec_at (by decide)]
  refine ⟨sn.add 18, ?_⟩
  refine Eq.trans (b := M.attempt (St T n st 35 p hd mk lm li #[L1 q] none fr wt none (sn.add 18)) (mt 35 p 1 lm li) 35 p true) rfl ?_
  unfold M.attempt
  refine (if_neg ?_).trans rfl
  show ¬ (wt + 1 + 0 > 16777216); omega
def nb (pc pos : Nat) (lm li : Int) : Sre.Frame := { wait := .nextBranch, pc := pc, pos := pos, outermost := true, kept := { lastmark := lm, lastindex := li, whole := false, marks := #[] } }
theorem go_branch {pc : Nat} (hpc : pc < CODE.size) (hop : ops[CODE.getD (pc + 0) 0]? = some .BRANCH) (hne : (CODE.getD (pc + 1) 0 == 0) = false) (hw : wt < 1000) :
    Steps 1 (St T n st pc p hd mk lm li lp none fr wt none) (St T n st (pc + 1 + 1) p p mk lm li lp none (nb (pc + 1) p lm li :: fr) (wt + 1) none) := by
  refine Steps.one (fun _ => rfl) fun sn => ?_
  rw [exec_at hpc]
  refine ⟨sn.add (CODE.getD (pc + 0) 0), ?_⟩
  unfold M.exec
  have h1 : ops[(St T n st pc p hd mk lm li lp none fr wt none sn).word 0]? = some .BRANCH := hop
  rw [h1]
  dsimp only
  unfold M.alternative
  refine (if_neg (c := (CODE.getD (pc + 1) 0 == 0) = true) (by rw [hne]; exact Bool.false_ne_true)).trans ?_
  refine Eq.trans (b := M.attempt (St T n st pc p hd mk lm li lp none fr wt none (sn.add (CODE.getD (pc + 0) 0))) (nb (pc + 1) p lm li) (pc + 1 + 1) p true) rfl ?_
  unfold M.attempt
  refine (if_neg ?_).trans rfl
  show ¬ (wt + 1 + 0 > 16777216); omega
/-- a branch failed: the next one -/
theorem no_nb {a b pc' : Nat} {lm' li' : Int} {q : Nat} (hb : a + CODE.getD a 0 = b) (hne : (CODE.getD b 0 == 0) = false) (hw : wt < 1000) :
    Steps 1 (St T n st pc' q hd mk lm' li' lp none (nb a p lm li :: fr) wt (some false)) (St T n st (b + 1) p p mk lm li lp none (nb b p lm li :: fr) (wt - (1 + 0) + 1) none) := by
  refine Steps.one (fun _ => rfl) fun sn => ?_
  rw [step_resume (m := St T n st pc' q hd mk lm' li' lp none (nb a p lm li :: fr) wt (some false) sn) rfl rfl rfl]
  refine ⟨sn, ?_⟩
  refine Eq.trans (b := M.alternative (St T n st a p hd mk lm li lp none fr (wt - (1 + 0)) none sn) (a + CODE.getD a 0) { lastmark := lm, lastindex := li, whole := false, marks := #[] }) rfl ?_
  rw [hb]
  unfold M.alternative
  refine (if_neg (c := (CODE.getD b 0 == 0) = true) (by rw [hne]; exact Bool.false_ne_true)).trans ?_
  refine Eq.trans (b := M.attempt (St T n st a p hd mk lm li lp none fr (wt - (1 + 0)) none sn) (nb b p lm li) (b + 1) p true) rfl ?_
  unfold M.attempt
  refine (if_neg ?_).trans rfl
  show ¬ (wt - (1 + 0) + 1 + 0 > 16777216); omega
/-- no branch is left -/
theorem end_nb {a b pc' : Nat} {lm' li' : Int} {q : Nat} (hb : a + CODE.getD a 0 = b) (hne : (CODE.getD b 0 == 0) = true) :
    Steps 1 (St T n st pc' q hd mk lm' li' lp inn (nb a p lm li :: fr) wt (some false)) (St T n st a p hd mk lm li lp inn fr (wt - (1 + 0)) (some false)) := by
  refine Steps.one (fun _ => rfl) fun sn => ?_
  rw [step_resume (m := St T n st pc' q hd mk lm' li' lp inn (nb a p lm li :: fr) wt (some false) sn) rfl rfl rfl]
  refine ⟨sn, ?_⟩
  refine Eq.trans (b := M.alternative (St T n st a p hd mk lm li lp inn fr (wt - (1 + 0)) none sn) (a + CODE.getD a 0) { lastmark := lm, lastindex := li, whole := false, marks := #[] }) rfl ?_
  rw [hb]
  unfold M.alternative
  exact (if_pos (c := (CODE.getD b 0 == 0) = true) hne).trans rfl
theorem no_mt {pc pc' q : Nat} {count lm li lm' li' : Int} {l : Loop} : Steps 1 (St T n st pc' q hd mk lm' li' #[l] none (mt pc p count lm li :: fr) wt (some false)) (St T n st pc p hd mk lm' li' #[l] (some 0) fr (wt - (1 + 0)) (some false)) := by
  refine Steps.one (fun _ => rfl) fun sn => ?_
  rw [step_resume (m := St T n st pc' q hd mk lm' li' #[l] none (mt pc p count lm li :: fr) wt (some false) sn) rfl rfl rfl]
  exact ⟨sn, rfl⟩
theorem no_cl {pc' q : Nat} : Steps 1 (St T n st pc' q hd mk lm li #[L0] inn (cl p :: fr) wt (some false)) (St T n st 17 p hd mk lm li #[] none fr (wt - (1 + 0)) (some false)) := by
  refine Steps.one (fun _ => rfl) fun sn => ?_
  rw [step_resume (m := St T n st pc' q hd mk lm li #[L0] inn (cl p :: fr) wt (some false) sn) rfl rfl rfl]
  exact ⟨sn, rfl⟩
/-- a blank is given back -/
theorem no_gb {pc' q k : Nat} {lm li lm' li' : Int} (hw : wt < 1000) : Steps 1 (St T n st pc' q hd mk lm' li' lp none (gb 5 p (k + 1) lm li :: fr) wt (some false)) (St T n st 17 (p - 1) (p - 1) mk lm li lp none (gb 5 (p - 1) k lm li :: fr) (wt - (1 + 0) + 1) none) := by
  refine Steps.one (fun _ => rfl) fun sn => ?_
  rw [step_resume (m := St T n st pc' q hd mk lm' li' lp none (gb 5 p (k + 1) lm li :: fr) wt (some false) sn) rfl rfl rfl]
  refine ⟨sn, ?_⟩
  have hk : ((k + 1 : Nat) : Int) - 1 = (k : Int) := by omega
  unfold M.resume
  refine (if_neg (c := (false = true)) Bool.false_ne_true).trans ?_
  refine (if_neg (c := ((k + 1 : Nat) : Int) - 1 < ((0 : Nat) : Int)) (by omega)).trans ?_
  refine Eq.trans (b := M.attempt (St T n st 5 (p - 1) hd mk lm li lp none fr (wt - (1 + 0)) none sn) { gb 5 (p - 1) k lm li with count := ((k + 1 : Nat) : Int) - 1 } 17 (p - 1) true) rfl ?_
  rw [hk]
  unfold M.attempt
  refine (if_neg ?_).trans rfl
  show ¬ (wt - (1 + 0) + 1 + 0 > 16777216); omega
theorem end_gb {pc' q : Nat} {lm li lm' li' : Int} : Steps 1 (St T n st pc' q hd mk lm' li' lp none (gb 5 p 0 lm li :: fr) wt (some false)) (St T n st 5 p hd mk lm li lp none fr (wt - (1 + 0)) (some false)) := by
  refine Steps.one (fun _ => rfl) fun sn => ?_
  rw [step_resume (m := St T n st pc' q hd mk lm' li' lp none (gb 5 p 0 lm li :: fr) wt (some false) sn) rfl rfl rfl]
  exact ⟨sn, rfl⟩
/-- the bare tag needs one sign -/
theorem no_bare (hc : n ≤ p ∨ T.getD p 0 = 32 ∨ T.getD p 0 = 9 ∨ T.getD p 0 = 44 ∨ T.getD p 0 = 34) (hn : n < 4294967295) : Steps 1 (St T n st 57 p hd mk lm li lp inn fr wt none) (St T n st 57 p hd mk lm li lp inn fr wt (some false)) := by
  refine Steps.one (fun _ => rfl) fun sn => ?_
  rw [exec_at (by decide)]
  by_cases hp : p < n
  · have hc' := hc.resolve_left (Nat.not_le.mpr hp)
    obtain ⟨sn', e⟩ := acc_bare61 (T.getD p 0) hc' ((sn.add 24).add 13)
    refine ⟨sn', ?_⟩
    have hN : (min 4294967295 ((n : Int) - (p : Int)).toNat) = (n - p - 1) + 1 := by omega
    have hr : Sre.run CODE T 61 (min 4294967295 ((n : Int) - (p : Int)).toNat) p 0 ((sn.add 24).add 13) = .ok (0, sn') := by
      rw [hN]
      show (do let (yes, seen) ← accepts CODE 61 (T.getD p 0) ((sn.add 24).add 13); if yes then Sre.run CODE T 61 (n - p - 1) (p + 1) (0 + 1) seen else pure (0, seen)) = _
      rw [e]
      rfl
    unfold M.exec
    refine (if_neg (c := ((1 : Nat) : Int) > (n : Int) - (p : Int)) (by omega)).trans ?_
    refine Eq.trans (b := match Sre.run CODE T 61 (min 4294967295 ((n : Int) - (p : Int)).toNat) p 0 ((sn.add 24).add 13) with
      | .error why => M.stick (St T n st 57 p hd mk lm li lp inn fr wt none (sn.add 24)) why
      | .ok (k, seen) => if k < 1 then M.say (St T n st 57 p hd mk lm li lp inn fr wt none seen) false else M.afterRun { St T n st 57 p hd mk lm li lp inn fr wt none seen with pos := p + k } .giveBack k (M.keep { St T n st 57 p hd mk lm li lp inn fr wt none seen with pos := p + k } inn.isSome)) rfl ?_
    rw [hr]
    rfl
  · refine ⟨sn.add 24, ?_⟩
    unfold M.exec
    exact (if_pos (c := ((1 : Nat) : Int) > (n : Int) - (p : Int)) (by omega)).trans rfl
end
end Mine
end

section
open PySem PySem.Sre
set_option maxRecDepth 100000
namespace Mine
section
variable {T : Array Nat} {n st p hd : Nat} {mk : Array (Option Nat)} {lm li : Int} {lp : Array Loop} {inn : Option Nat} {fr : List Sre.Frame} {wt : Nat} {sn : Sre.Seen}

theorem go_end (hp : p = n) : Steps 1 (St T n st 99 p hd mk lm li lp inn fr wt none) (St T n st 101 p hd mk lm li lp inn fr wt none) := by
  refine Steps.one (fun _ => rfl) fun sn => ?_
  rw [exec_at (by decide)]
  refine ⟨(sn.add 6).add 50, ?_⟩
  have e : (p == n) = true := beq_iff_eq.mpr hp
  refine Eq.trans (b := if (p == n) = true then St T n st 101 p hd mk lm li lp inn fr wt none ((sn.add 6).add 50) else M.say (St T n st 99 p hd mk lm li lp inn fr wt none ((sn.add 6).add 50)) false) rfl ?_
  rw [if_pos e]
theorem go_success : Steps 1 (St T n st 104 p hd mk lm li lp inn fr wt none) (St T n st 104 p p mk lm li lp inn fr wt (some true)) := by
  refine Steps.one (fun _ => rfl) fun sn => ?_
  rw [exec_at (by decide)]
  exact ⟨sn.add 1, rfl⟩

def GoodF (f : Sre.Frame) : Prop := f.outermost = true ∧ (f.wait = .giveBack ∨ f.wait = .nextBranch ∨ f.wait = .maxMore ∨ f.wait = .maxTail ∨ f.wait = .closeLoop)
theorem yes_one {pc pos : Nat} {f : Sre.Frame} (h : GoodF f) : ∃ lp' inn' wt' pc' pos', (St T n st pc pos hd mk lm li lp inn (f :: fr) wt (some true) sn).step = St T n st pc' pos' hd mk lm li lp' inn' fr wt' (some true) sn := by
  rw [step_resume (m := St T n st pc pos hd mk lm li lp inn (f :: fr) wt (some true) sn) rfl rfl rfl]
  obtain ⟨w, fpc, fpos, om, cnt, kept, lo, bg⟩ := f
  obtain ⟨h1, h2⟩ := h
  simp only at h1 h2
  subst h1
  rcases h2 with rfl | rfl | rfl | rfl | rfl
  all_goals exact ⟨_, _, _, _, _, rfl⟩
theorem yes_all : ∀ (fr : List Sre.Frame) (lp : Array Loop) (inn : Option Nat) (wt pc pos : Nat), (∀ f ∈ fr, GoodF f) →
    ∃ m', M.runFor (fr.length + 1) (St T n st pc pos hd mk lm li lp inn fr wt (some true) sn) = m' ∧ m'.outcome = some .matched ∧ m'.marks = mk ∧ m'.lastmark = lm ∧ m'.lastindex = li ∧ m'.handed = hd ∧ m'.start = st := by
  intro fr
  induction fr with
  | nil => intro lp inn wt pc pos _; exact ⟨_, rfl, rfl, rfl, rfl, rfl, rfl, rfl⟩
  | cons f fr ih =>
    intro lp inn wt pc pos hg
    obtain ⟨lp', inn', wt', pc', pos', e⟩ := yes_one (T := T) (n := n) (st := st) (hd := hd) (mk := mk) (lm := lm) (li := li) (lp := lp) (inn := inn) (fr := fr) (wt := wt) (sn := sn) (pc := pc) (pos := pos) (hg f (.head _))
    obtain ⟨m', e', r⟩ := ih lp' inn' wt' pc' pos' fun g hgm => hg g (.tail _ hgm)
    refine ⟨m', ?_, r⟩
    show (if (St T n st pc pos hd mk lm li lp inn (f :: fr) wt (some true) sn).outcome.isSome then _ else M.runFor (fr.length + 1) (St T n st pc pos hd mk lm li lp inn (f :: fr) wt (some true) sn).step) = m'
    refine (if_neg (c := ((none : Option Sre.Outcome).isSome = true)) Bool.false_ne_true).trans ?_
    rw [e]; exact e'

def K0 : Array (Option Nat) := #[none, none, none, none, none, none]
theorem init_eq (h : p < n) : forMatch CODE T 3 p n false false = St T n p 5 p p K0 (-1) (-1) #[] none [] 0 none (({} : Sre.Seen).add 14) := by
  refine Eq.trans (b := if ((1 : Nat) != 0 && decide (p ≤ n) && decide (n - p < 1)) = true then M.say (St T n p 5 p p K0 (-1) (-1) #[] none [] 0 none (({} : Sre.Seen).add 14)) false else St T n p 5 p p K0 (-1) (-1) #[] none [] 0 none (({} : Sre.Seen).add 14)) rfl ?_
  refine if_neg ?_
  have : ¬ (n - p < 1) := by omega
  simp [this]
theorem init_end (h : p = n) : forMatch CODE T 3 p n false false = M.say (St T n p 5 p p K0 (-1) (-1) #[] none [] 0 none (({} : Sre.Seen).add 14)) false := by
  refine Eq.trans (b := if ((1 : Nat) != 0 && decide (p ≤ n) && decide (n - p < 1)) = true then M.say (St T n p 5 p p K0 (-1) (-1) #[] none [] 0 none (({} : Sre.Seen).add 14)) false else St T n p 5 p p K0 (-1) (-1) #[] none [] 0 none (({} : Sre.Seen).add 14)) rfl ?_
  refine if_pos ?_
  subst h
  simp

/-- one try that fails: at q stands a blank, a comma, or the end -/
theorem try_fails {q k : Nat} (hq : n ≤ q ∨ T.getD q 0 = 32 ∨ T.getD q 0 = 9 ∨ T.getD q 0 = 44) (hn : n < 4294967295) :
    ∃ mk' pc' hd', Steps 13 (St T n st 17 q hd mk (-1) (-1) #[] none [gb 5 q k (-1) (-1)] 1 none) (St T n st pc' q hd' mk' (-1) (-1) #[] none [gb 5 q k (-1) (-1)] 1 (some false)) := by
  refine ⟨((List.range 4).foldl (fun (a : Array (Option Nat)) (j : Nat) => if (j : Int) > -1 then a.setIfInBounds j none else a) (mk.setIfInBounds 0 (some q))).setIfInBounds 4 (some q), 17, q, ?_⟩
  have hc : ∀ c, c ≠ 32 → c ≠ 9 → c ≠ 44 → q < n → T.getD q 0 ≠ c := fun c h1 h2 h3 hlt e => by
    rcases hq with h | h | h | h
    · omega
    all_goals rw [h] at e; omega
  refine Steps.trans (k := 12) (go_repeat (by omega)) ?_
  refine Steps.trans (k := 11) (go_until0 (by omega)) ?_
  refine Steps.trans (k := 10) (go_mark (pc := 21) (i := 0) (mk' := mk.setIfInBounds 0 (some q)) (lm' := 0) (li' := -1) (by decide) rfl rfl (fun sn => rfl)) ?_
  refine Steps.trans (k := 9) (no_w (fun h => ⟨hc 87 (by decide) (by decide) (by decide) h, hc 119 (by decide) (by decide) (by decide) h⟩)) ?_
  refine Steps.trans (k := 8) (no_mm (by omega)) ?_
  refine Steps.trans (k := 7) (go_branch (pc := 35) (by decide) rfl rfl (by omega)) ?_
  refine Steps.trans (k := 6) (no_lit (pc := 37) 34 (by decide) rfl rfl (fun h => hc 34 (by decide) (by decide) (by decide) h)) ?_
  refine Steps.trans (k := 5) (no_nb (a := 36) (b := 54) rfl rfl (by omega)) ?_
  refine Steps.trans (k := 4) (go_mark (pc := 55) (i := 4) (mk' := ((List.range 4).foldl (fun (a : Array (Option Nat)) (j : Nat) => if (j : Int) > -1 then a.setIfInBounds j none else a) (mk.setIfInBounds 0 (some q))).setIfInBounds 4 (some q)) (lm' := 4) (li' := -1) (by decide) rfl rfl (fun sn => rfl)) ?_
  refine Steps.trans (k := 3) (no_bare (by rcases hq with h | h | h | h; exact .inl h; exact .inr (.inl h); exact .inr (.inr (.inl h)); exact .inr (.inr (.inr (.inl h)))) hn) ?_
  refine Steps.trans (k := 2) (end_nb (a := 54) (b := 79) rfl rfl) ?_
  refine Steps.trans (k := 1) no_mt ?_
  exact no_cl

theorem all_fail (hn : n < 4294967295) : ∀ (k q : Nat) (hd : Nat) (mk : Array (Option Nat)), k ≤ q → (n ≤ q ∨ T.getD q 0 = 32 ∨ T.getD q 0 = 9 ∨ T.getD q 0 = 44) → (∀ j, j < k → T.getD (q - 1 - j) 0 = 32 ∨ T.getD (q - 1 - j) 0 = 9) →
    ∃ mk' pos' hd', Steps (14 * (k + 1)) (St T n st 17 q hd mk (-1) (-1) #[] none [gb 5 q k (-1) (-1)] 1 none) (St T n st 5 pos' hd' mk' (-1) (-1) #[] none [] 0 (some false)) := by
  intro k
  induction k with
  | zero =>
    intro q hd mk _ hq _
    obtain ⟨mk', pc', hd', h⟩ := try_fails (T := T) (n := n) (st := st) (hd := hd) (mk := mk) (q := q) (k := 0) hq hn
    exact ⟨mk', q, hd', Steps.trans (k := 1) h end_gb⟩
  | succ k ih =>
    intro q hd mk hkq hq hb
    obtain ⟨mk', pc', hd', h⟩ := try_fails (T := T) (n := n) (st := st) (hd := hd) (mk := mk) (q := q) (k := k + 1) hq hn
    have h0 := hb 0 (by omega)
    obtain ⟨mk2, p2, hd2, h2⟩ := ih (q - 1) (q - 1) mk' (by omega) (by rcases h0 with h | h; exact .inr (.inl h); exact .inr (.inr (.inl h))) (fun j hj => by
      have := hb (j + 1) (by omega)
      rwa [show q - 1 - (j + 1) = q - 1 - 1 - j by omega] at this)
    refine ⟨mk2, p2, hd2, ?_⟩
    have hx := Steps.trans h (Steps.trans (no_gb (by omega)) h2)
    rw [show 14 * (k + 1 + 1) = 13 + (1 + 14 * (k + 1)) by omega]
    exact hx

theorem isws {c : Nat} (h : c = 32 ∨ c = 9) : ws c = true := by rcases h with rfl | rfl <;> rfl
theorem notws {c : Nat} (h : c ≠ 32) (h' : c ≠ 9) : ws c = false := by
  unfold ws; rw [beq_eq_false_iff_ne.mpr h, beq_eq_false_iff_ne.mpr h']; rfl

/-- no match: blanks, then a comma or the end -/
theorem match_no (hn : n < 4294967295) {k : Nat} (hk : p + k ≤ n) (h1 : ∀ j, j < k → T.getD (p + j) 0 = 32 ∨ T.getD (p + j) 0 = 9) (h2 : p + k = n ∨ T.getD (p + k) 0 = 44) :
    ∃ j m', j ≤ 14 * k + 20 ∧ M.runFor j (forMatch CODE T 3 p n false false) = m' ∧ m'.outcome = some .failed := by
  by_cases h : p = n
  · rw [init_end h]
    exact ⟨1, _, by omega, rfl, rfl⟩
  · rw [init_eq (by omega)]
    have hr := go_rep (T := T) (n := n) (st := p) (p := p) (hd := p) (mk := K0) (lm := -1) (li := -1) (lp := #[]) (fr := []) (wt := 0) (pc := 5) (sk := 11) (k := k) (ok := ws) (by decide) rfl rfl rfl rfl acc_ws9 hk hn (fun j hj => isws (h1 j hj)) (by
      rcases h2 with h | h
      · exact .inl h
      · exact .inr (by rw [h]; rfl)) (by omega)
    obtain ⟨mk', pos', hd', hf⟩ := all_fail (T := T) (n := n) (st := p) hn k (p + k) (p + k) K0 (by omega) (by rcases h2 with h | h; exact .inl (by omega); exact .inr (.inr (.inr h))) (fun j hj => by
      have := h1 (k - 1 - j) (by omega)
      rwa [show p + (k - 1 - j) = p + k - 1 - j by omega] at this)
    obtain ⟨sn', e⟩ := (Steps.trans hr hf) (({} : Sre.Seen).add 14)
    refine ⟨(1 + 14 * (k + 1)) + 1, _, by omega, rfl, ?_⟩
    rw [runFor_add, e]
    rfl


theorem good_gb (pc pos k : Nat) (lm li : Int) : GoodF (gb pc pos k lm li) := ⟨rfl, .inl rfl⟩
theorem good_nb (pc pos : Nat) (lm li : Int) : GoodF (nb pc pos lm li) := ⟨rfl, .inr (.inl rfl)⟩
theorem good_mm (pos : Nat) : GoodF (mm pos) := ⟨rfl, .inr (.inr (.inl rfl))⟩
theorem good_mt (pc pos : Nat) (c lm li : Int) : GoodF (mt pc pos c lm li) := ⟨rfl, .inr (.inr (.inr (.inl rfl)))⟩
theorem good_cl (pos : Nat) : GoodF (cl pos) := ⟨rfl, .inr (.inr (.inr (.inr rfl)))⟩

/-- from the quote on, up to the end of it all -/
theorem quoted {a t e k2 fin : Nat} {mk2 mk3 : Array (Option Nat)} (hn : n < 4294967295)
    (hq1 : T.getD a 0 = 34) (ht : ∀ j, j < t → T.getD (a + 1 + j) 0 ≠ 34) (hq2 : T.getD (a + 1 + t) 0 = 34) (hb : ∀ j, j < k2 → T.getD (a + 1 + t + 1 + j) 0 = 32 ∨ T.getD (a + 1 + t + 1 + j) 0 = 9)
    (he : a + 1 + t + 1 + k2 = e) (hen : e ≤ n) (hc : (e = n ∧ fin = n) ∨ (T.getD e 0 = 44 ∧ e < n ∧ fin = e + 1)) (hw : wt < 900)
    (e2 : ∀ fr wt sn, M.mark (St T n st 39 (a + 1) a mk lm li lp none fr wt none sn) 2 = St T n st 41 (a + 1) a mk2 2 li lp none fr wt none sn)
    (e3 : ∀ hd fr wt sn, M.mark (St T n st 48 (a + 1 + t) hd mk2 2 li lp none fr wt none sn) 3 = St T n st 50 (a + 1 + t) hd mk3 3 2 lp none fr wt none sn)
    (hf : ∀ f ∈ fr, GoodF f) :
    ∃ j fr' wt', j ≤ 20 ∧ fr'.length ≤ fr.length + 5 ∧ (∀ f ∈ fr', GoodF f) ∧ Steps j (St T n st 35 a hd mk lm li lp none fr wt none) (St T n st 104 fin fin mk3 3 2 lp none fr' wt' (some true)) := by
  have s1 : Steps 8 (St T n st 35 a hd mk lm li lp none fr wt none) (St T n st 92 e e mk3 3 2 lp none (gb 80 e k2 3 2 :: gb 41 (a + 1 + t) t 2 li :: nb 36 a lm li :: fr) (wt + 1 + 1 + 1) none) := by
    refine Steps.trans (k := 7) (go_branch (pc := 35) (by decide) rfl rfl (by omega)) ?_
    refine Steps.trans (k := 6) (go_lit (pc := 37) 34 (by decide) rfl rfl (by omega) hq1) ?_
    refine Steps.trans (k := 5) (go_mark (pc := 39) (i := 2) (by decide) rfl rfl (fun sn => e2 _ _ sn)) ?_
    refine Steps.trans (k := 4) (go_rep (pc := 41) (sk := 6) (k := t) (ok := fun c => c != 34) (by decide) rfl rfl rfl rfl acc_nq45 (by omega) hn (fun j hj => bne_iff_ne.mpr (ht j hj)) (.inr (by show (T.getD (a + 1 + t) 0 != 34) = false; rw [hq2]; rfl)) (by omega)) ?_
    refine Steps.trans (k := 3) (go_mark (pc := 48) (i := 3) (by decide) rfl rfl (fun sn => e3 _ _ _ sn)) ?_
    refine Steps.trans (k := 2) (go_lit (pc := 50) 34 (by decide) rfl rfl (by omega) hq2) ?_
    refine Steps.trans (k := 1) (go_jump (pc := 52) (k := 27) (by decide) rfl rfl) ?_
    have hz := go_rep (T := T) (n := n) (st := st) (p := a + 1 + t + 1) (hd := a + 1 + t) (mk := mk3) (lm := 3) (li := 2) (lp := lp) (fr := gb 41 (a + 1 + t) t 2 li :: nb 36 a lm li :: fr) (wt := wt + 1 + 1) (pc := 80) (sk := 11) (k := k2) (ok := ws) (by decide) rfl rfl rfl rfl acc_ws84 (by omega) hn (fun j hj => isws (hb j hj)) (by
      rw [he]
      rcases hc with ⟨h, _⟩ | ⟨h, _⟩
      · exact .inl h
      · exact .inr (by rw [h]; rfl)) (by omega)
    rw [he] at hz
    exact hz
  have hg : ∀ f ∈ gb 80 e k2 3 2 :: gb 41 (a + 1 + t) t 2 li :: nb 36 a lm li :: fr, GoodF f := by
    intro f hm
    rcases List.mem_cons.mp hm with rfl | hm
    · exact good_gb ..
    rcases List.mem_cons.mp hm with rfl | hm
    · exact good_gb ..
    rcases List.mem_cons.mp hm with rfl | hm
    · exact good_nb ..
    exact hf f hm
  rcases hc with ⟨h1, h2⟩ | ⟨h1, h2, h3⟩
  · rw [h2]
    have s2 : Steps 6 (St T n st 92 e e mk3 3 2 lp none (gb 80 e k2 3 2 :: gb 41 (a + 1 + t) t 2 li :: nb 36 a lm li :: fr) (wt + 1 + 1 + 1) none) (St T n st 104 e e mk3 3 2 lp none (nb 98 e 3 2 :: gb 80 e k2 3 2 :: gb 41 (a + 1 + t) t 2 li :: nb 36 a lm li :: fr) (wt + 1 + 1 + 1 + 1 - (1 + 0) + 1) (some true)) := by
      refine Steps.trans (k := 5) (go_branch (pc := 92) (by decide) rfl rfl (by omega)) ?_
      refine Steps.trans (k := 4) (no_lit (pc := 94) 44 (by decide) rfl rfl (fun h => by omega)) ?_
      refine Steps.trans (k := 3) (no_nb (a := 93) (b := 98) rfl rfl (by omega)) ?_
      refine Steps.trans (k := 2) (go_end h1) ?_
      refine Steps.trans (k := 1) (go_jump (pc := 101) (k := 2) (by decide) rfl rfl) ?_
      exact go_success
    rw [h1] at s1 s2
    exact ⟨8 + 6, _, _, by omega, by simp, fun f hm => by
      rcases List.mem_cons.mp hm with rfl | hm
      · exact good_nb ..
      · exact hg f (h1 ▸ hm), Steps.trans s1 s2⟩
  · subst h3
    have s2 : Steps 4 (St T n st 92 e e mk3 3 2 lp none (gb 80 e k2 3 2 :: gb 41 (a + 1 + t) t 2 li :: nb 36 a lm li :: fr) (wt + 1 + 1 + 1) none) (St T n st 104 (e + 1) (e + 1) mk3 3 2 lp none (nb 93 e 3 2 :: gb 80 e k2 3 2 :: gb 41 (a + 1 + t) t 2 li :: nb 36 a lm li :: fr) (wt + 1 + 1 + 1 + 1) (some true)) := by
      refine Steps.trans (k := 3) (go_branch (pc := 92) (by decide) rfl rfl (by omega)) ?_
      refine Steps.trans (k := 2) (go_lit (pc := 94) 44 (by decide) rfl rfl h2 h1) ?_
      refine Steps.trans (k := 1) (go_jump (pc := 96) (k := 7) (by decide) rfl rfl) ?_
      exact go_success
    exact ⟨8 + 4, _, _, by omega, by simp, fun f hm => by
      rcases List.mem_cons.mp hm with rfl | hm
      · exact good_nb ..
      · exact hg f hm, Steps.trans s1 s2⟩

/-- a match without the weak mark -/
theorem match_strong (hn : n < 4294967295) {k1 t k2 e fin : Nat} (h1 : ∀ j, j < k1 → T.getD (p + j) 0 = 32 ∨ T.getD (p + j) 0 = 9) (hq1 : T.getD (p + k1) 0 = 34) (ht : ∀ j, j < t → T.getD (p + k1 + 1 + j) 0 ≠ 34) (hq2 : T.getD (p + k1 + 1 + t) 0 = 34)
    (hb : ∀ j, j < k2 → T.getD (p + k1 + 1 + t + 1 + j) 0 = 32 ∨ T.getD (p + k1 + 1 + t + 1 + j) 0 = 9) (he : p + k1 + 1 + t + 1 + k2 = e) (hen : e ≤ n) (hc : (e = n ∧ fin = n) ∨ (T.getD e 0 = 44 ∧ e < n ∧ fin = e + 1)) :
    ∃ j m', j ≤ 60 ∧ M.runFor j (forMatch CODE T 3 p n false false) = m' ∧ m'.outcome = some .matched ∧ m'.marks = #[none, none, some (p + k1 + 1), some (p + k1 + 1 + t), none, none] ∧ m'.lastmark = 3 ∧ m'.lastindex = 2 ∧ m'.handed = fin ∧ m'.start = p := by
  rw [init_eq (by omega)]
  have hr := go_rep (T := T) (n := n) (st := p) (p := p) (hd := p) (mk := K0) (lm := -1) (li := -1) (lp := #[]) (fr := []) (wt := 0) (pc := 5) (sk := 11) (k := k1) (ok := ws) (by decide) rfl rfl rfl rfl acc_ws9 (by omega) hn (fun j hj => isws (h1 j hj)) (.inr (by rw [hq1]; rfl)) (by omega)
  have hw : Steps 5 (St T n p 17 (p + k1) (p + k1) K0 (-1) (-1) #[] none [gb 5 (p + k1) k1 (-1) (-1)] 1 none) (St T n p 35 (p + k1) (p + k1) #[some (p + k1), none, none, none, none, none] (-1) (-1) #[L0] none [mt 35 (p + k1) 0 (-1) (-1), cl (p + k1), gb 5 (p + k1) k1 (-1) (-1)] 3 none) := by
    refine Steps.trans (k := 4) (go_repeat (by omega)) ?_
    refine Steps.trans (k := 3) (go_until0 (by omega)) ?_
    refine Steps.trans (k := 2) (go_mark (pc := 21) (i := 0) (mk' := #[some (p + k1), none, none, none, none, none]) (lm' := 0) (li' := -1) (by decide) rfl rfl (fun sn => rfl)) ?_
    refine Steps.trans (k := 1) (no_w (fun h => by rw [hq1]; decide)) ?_
    exact no_mm (by omega)
  obtain ⟨j, fr', wt', hj, hl, hg, s⟩ := quoted (T := T) (n := n) (st := p) (hd := p + k1) (mk := #[some (p + k1), none, none, none, none, none]) (lm := -1) (li := -1) (lp := #[L0]) (fr := [mt 35 (p + k1) 0 (-1) (-1), cl (p + k1), gb 5 (p + k1) k1 (-1) (-1)]) (wt := 3) (a := p + k1) (t := t) (e := e) (k2 := k2) (fin := fin)
    (mk2 := #[none, none, some (p + k1 + 1), none, none, none]) (mk3 := #[none, none, some (p + k1 + 1), some (p + k1 + 1 + t), none, none]) hn hq1 ht hq2 hb he hen hc (by omega) (fun fr wt sn => rfl) (fun hd fr wt sn => rfl) (fun f hm => by
      rcases List.mem_cons.mp hm with rfl | hm
      · exact good_mt ..
      rcases List.mem_cons.mp hm with rfl | hm
      · exact good_cl ..
      rw [List.mem_singleton.mp hm]; exact good_gb ..)
  obtain ⟨sn', e'⟩ := (Steps.trans hr (Steps.trans hw s)) (({} : Sre.Seen).add 14)
  obtain ⟨m', em, r⟩ := yes_all (T := T) (n := n) (st := p) (hd := fin) (mk := #[none, none, some (p + k1 + 1), some (p + k1 + 1 + t), none, none]) (lm := 3) (li := 2) (sn := sn') fr' #[L0] none wt' 104 fin hg
  refine ⟨(1 + (5 + j)) + (fr'.length + 1), m', by simp only [List.length_cons, List.length_nil] at hl; omega, ?_, r⟩
  rw [runFor_add, e', em]

/-- a match with the weak mark -/
theorem match_weak (hn : n < 4294967295) {k1 t k2 e fin : Nat} (h1 : ∀ j, j < k1 → T.getD (p + j) 0 = 32 ∨ T.getD (p + j) 0 = 9) (hW : T.getD (p + k1) 0 = 87) (hS : T.getD (p + k1 + 1) 0 = 47) (hq1 : T.getD (p + k1 + 2) 0 = 34) (ht : ∀ j, j < t → T.getD (p + k1 + 2 + 1 + j) 0 ≠ 34) (hq2 : T.getD (p + k1 + 2 + 1 + t) 0 = 34)
    (hb : ∀ j, j < k2 → T.getD (p + k1 + 2 + 1 + t + 1 + j) 0 = 32 ∨ T.getD (p + k1 + 2 + 1 + t + 1 + j) 0 = 9) (he : p + k1 + 2 + 1 + t + 1 + k2 = e) (hen : e ≤ n) (hc : (e = n ∧ fin = n) ∨ (T.getD e 0 = 44 ∧ e < n ∧ fin = e + 1)) :
    ∃ j m', j ≤ 60 ∧ M.runFor j (forMatch CODE T 3 p n false false) = m' ∧ m'.outcome = some .matched ∧ m'.marks = #[some (p + k1), some (p + k1 + 2), some (p + k1 + 2 + 1), some (p + k1 + 2 + 1 + t), none, none] ∧ m'.lastmark = 3 ∧ m'.lastindex = 2 ∧ m'.handed = fin ∧ m'.start = p := by
  rw [init_eq (by omega)]
  have hr := go_rep (T := T) (n := n) (st := p) (p := p) (hd := p) (mk := K0) (lm := -1) (li := -1) (lp := #[]) (fr := []) (wt := 0) (pc := 5) (sk := 11) (k := k1) (ok := ws) (by decide) rfl rfl rfl rfl acc_ws9 (by omega) hn (fun j hj => isws (h1 j hj)) (.inr (by rw [hW]; rfl)) (by omega)
  have hw : Steps 7 (St T n p 17 (p + k1) (p + k1) K0 (-1) (-1) #[] none [gb 5 (p + k1) k1 (-1) (-1)] 1 none) (St T n p 35 (p + k1 + 2) (p + k1 + 2) #[some (p + k1), some (p + k1 + 2), none, none, none, none] 1 1 #[L1 (p + k1)] none [mt 35 (p + k1 + 2) 1 1 1, mm (p + k1), cl (p + k1), gb 5 (p + k1) k1 (-1) (-1)] 4 none) := by
    refine Steps.trans (k := 6) (go_repeat (by omega)) ?_
    refine Steps.trans (k := 5) (go_until0 (by omega)) ?_
    refine Steps.trans (k := 4) (go_mark (pc := 21) (i := 0) (mk' := #[some (p + k1), none, none, none, none, none]) (lm' := 0) (li' := -1) (by decide) rfl rfl (fun sn => rfl)) ?_
    refine Steps.trans (k := 3) (go_w (by omega) hW) ?_
    refine Steps.trans (k := 2) (go_lit (pc := 30) 47 (by decide) rfl rfl (by omega) hS) ?_
    refine Steps.trans (k := 1) (go_mark (pc := 32) (i := 1) (mk' := #[some (p + k1), some (p + k1 + 2), none, none, none, none]) (lm' := 1) (li' := 1) (by decide) rfl rfl (fun sn => rfl)) ?_
    exact go_until1 (by omega)
  obtain ⟨j, fr', wt', hj, hl, hg, s⟩ := quoted (T := T) (n := n) (st := p) (hd := p + k1 + 2) (mk := #[some (p + k1), some (p + k1 + 2), none, none, none, none]) (lm := 1) (li := 1) (lp := #[L1 (p + k1)]) (fr := [mt 35 (p + k1 + 2) 1 1 1, mm (p + k1), cl (p + k1), gb 5 (p + k1) k1 (-1) (-1)]) (wt := 4) (a := p + k1 + 2) (t := t) (e := e) (k2 := k2) (fin := fin)
    (mk2 := #[some (p + k1), some (p + k1 + 2), some (p + k1 + 2 + 1), none, none, none]) (mk3 := #[some (p + k1), some (p + k1 + 2), some (p + k1 + 2 + 1), some (p + k1 + 2 + 1 + t), none, none]) hn hq1 ht hq2 hb he hen hc (by omega) (fun fr wt sn => rfl) (fun hd fr wt sn => rfl) (fun f hm => by
      rcases List.mem_cons.mp hm with rfl | hm
      · exact good_mt ..
      rcases List.mem_cons.mp hm with rfl | hm
      · exact good_mm ..
      rcases List.mem_cons.mp hm with rfl | hm
      · exact good_cl ..
      rw [List.mem_singleton.mp hm]; exact good_gb ..)
  obtain ⟨sn', e'⟩ := (Steps.trans hr (Steps.trans hw s)) (({} : Sre.Seen).add 14)
  obtain ⟨m', em, r⟩ := yes_all (T := T) (n := n) (st := p) (hd := fin) (mk := #[some (p + k1), some (p + k1 + 2), some (p + k1 + 2 + 1), some (p + k1 + 2 + 1 + t), none, none]) (lm := 3) (li := 2) (sn := sn') fr' #[L1 (p + k1)] none wt' 104 fin hg
  refine ⟨(1 + (7 + j)) + (fr'.length + 1), m', by simp only [List.length_cons, List.length_nil] at hl; omega, ?_, r⟩
  rw [runFor_add, e', em]
end
end Mine
end

section
open PySem PySem.W PySem.Calls PySem.Spec PyProof.Rows
set_option maxRecDepth 100000
set_option maxHeartbeats 4000000
namespace Mine
open PySem.Builtin PySem.Builtin.Str
theorem plainAttrs_pat : PlainAttrs "re.Pattern" :=
  ⟨⟨"object.__getattribute__", by rw [typeLookup_type, builtinLookup_eq_fast]; kernel_rfl, by decide +kernel⟩, by rw [typeLookup_type, builtinLookup_eq_fast]; kernel_rfl⟩
theorem plainAttrs_mat : PlainAttrs "re.Match" :=
  ⟨⟨"object.__getattribute__", by rw [typeLookup_type, builtinLookup_eq_fast]; kernel_rfl, by decide +kernel⟩, by rw [typeLookup_type, builtinLookup_eq_fast]; kernel_rfl⟩
theorem slot_pat_match : Slot "re.Pattern" "match" "re.Pattern.match" :=
  .of (owner := "re.Pattern") (n := "match") (by rw [typeLookup_type, builtinLookup_eq_fast]; kernel_rfl) (by decide +kernel) (by decide +kernel) (by decide +kernel)
    (by first | exact .inl (by decide +kernel) | exact .inr (by decide +kernel)) (by rw [isSubtype_type]; kernel_rfl)
theorem type_pat_match : typeOf (.builtin "re.Pattern.match") = pure (.type "method_descriptor") := by show builtinType _ = _; rw [builtinType_eq_fast]; kernel_rfl
theorem entry_pat_match : entryFor table "re.Pattern.match" = some Builtin.«re.Pattern.match» := entryFor_of_tree (by kernel_rfl)
theorem args_pat_match_3 (a b c : Value) : argsOk "re.Pattern.match" ⟨[a, b, c], []⟩ := by unfold argsOk; kernel_rfl
theorem slot_mat_groups : Slot "re.Match" "groups" "re.Match.groups" :=
  .of (owner := "re.Match") (n := "groups") (by rw [typeLookup_type, builtinLookup_eq_fast]; kernel_rfl) (by decide +kernel) (by decide +kernel) (by decide +kernel)
    (by first | exact .inl (by decide +kernel) | exact .inr (by decide +kernel)) (by rw [isSubtype_type]; kernel_rfl)
theorem type_mat_groups : typeOf (.builtin "re.Match.groups") = pure (.type "method_descriptor") := by show builtinType _ = _; rw [builtinType_eq_fast]; kernel_rfl
theorem entry_mat_groups : entryFor table "re.Match.groups" = some Builtin.«re.Match.groups» := entryFor_of_tree (by kernel_rfl)
theorem args_mat_groups_1 (a : Value) : argsOk "re.Match.groups" ⟨[a], []⟩ := by unfold argsOk; kernel_rfl
theorem slot_mat_end : Slot "re.Match" "end" "re.Match.end" :=
  .of (owner := "re.Match") (n := "end") (by rw [typeLookup_type, builtinLookup_eq_fast]; kernel_rfl) (by decide +kernel) (by decide +kernel) (by decide +kernel)
    (by first | exact .inl (by decide +kernel) | exact .inr (by decide +kernel)) (by rw [isSubtype_type]; kernel_rfl)
theorem type_mat_end : typeOf (.builtin "re.Match.end") = pure (.type "method_descriptor") := by show builtinType _ = _; rw [builtinType_eq_fast]; kernel_rfl
theorem entry_mat_end : entryFor table "re.Match.end" = some Builtin.«re.Match.end» := entryFor_of_tree (by kernel_rfl)
theorem args_mat_end_1 (a : Value) : argsOk "re.Match.end" ⟨[a], []⟩ := by unfold argsOk; kernel_rfl
end Mine
end

section
open PySem PySem.W PySem.Calls PySem.Spec PyProof.Rows
set_option maxRecDepth 100000
set_option maxHeartbeats 4000000
namespace Mine
open PySem.Builtin PySem.Builtin.Str PySem.Builtin.Re PySem.Sre
section
variable {prog : Program} {w : World} {A : Around} {E : Value → Shared → Prop} {s : Shared}

theorem drive_to {Q : M → Shared → Prop} {f : M} (hf : f.outcome.isSome = true) : ∀ (turns k : Nat) (m : M), M.runFor k m = f → k < 4 * turns → Q f s → wpAny (model prog w) A (reDrive turns m) Q E s := by
  intro turns
  induction turns with
  | zero => intro k m _ h; omega
  | succ n ih =>
    intro k m e hk hq
    unfold reDrive
    by_cases h4 : k ≤ 4
    · have e4 : M.runFor reTurnSteps m = f := by
        have : reTurnSteps = k + (4 - k) := by unfold reTurnSteps; omega
        rw [this, runFor_add, e, runFor_done hf]
      simp only [e4, hf, if_true]
      exact wpAny_pure hq
    · have e4 : M.runFor (k - 4) (M.runFor reTurnSteps m) = f := by
        have : k = 4 + (k - 4) := by omega
        rw [this, runFor_add] at e
        exact e
      by_cases hs : (M.runFor reTurnSteps m).outcome.isSome = true
      · have e5 : M.runFor reTurnSteps m = f := by rw [runFor_done hs] at e4; exact e4
        simp only [e5, hf, if_true]
        exact wpAny_pure hq
      · simp only [hs]
        exact wpAny_bind (wpAny_rule (ih (k - 4) _ e4 (by omega) hq))
theorem run_to_end {Q : Option M → Shared → Prop} {f m : M} {k : Nat} (e : M.runFor k m = f) (hk : k < 2 ^ 60) (hm : f.outcome = some .matched ∧ Q (some f) s ∨ f.outcome = some .failed ∧ Q none s) : wpAny (model prog w) A (reRunToEnd m) Q E s := by
  unfold reRunToEnd
  have hf : f.outcome.isSome = true := by rcases hm with h | h <;> rw [h.1] <;> rfl
  refine wpAny_bind (drive_to hf (2 ^ 64) k m e (by omega) ?_)
  refine wpAny_bind (wpAny_forIn_list _ (fun _ _ s' => s' = s) (fun _ s' => wpAny (model prog w) A (match f.outcome with
    | some .matched => pure (some f)
    | some .failed => pure none
    | some (.stuck why) => unsupported s!"_sre:{why}"
    | none => unsupported "internal:sre:no-outcome") Q E s') ?_ ?_ _ _ rfl)
  · intro x rest b s' hs'
    subst hs'
    split
    · exact wpAny_bind (wpAny_rule (wpAny_pure rfl))
    · exact wpAny_pure rfl
  · intro b s' hs'
    subst hs'
    rcases hm with h | h
    · rw [h.1]; exact wpAny_pure h.2
    · rw [h.1]; exact wpAny_pure h.2

def CODEV : Array Value := CODE.map fun (n : Nat) => Value.int n 0
theorem codev_code : (CODEV.map reRawOf).map (·.toNat) = CODE := by decide +kernel
theorem named3 (a b : Value) : reNamed "re.Pattern.match" "match" ["string", "pos", "endpos"] 1 [a, b] [] = pure [some a, some b, none] := rfl
theorem pat_match_any {P C : Addr} {pt : Value} {fl : Value} {x : Str} {t tp : Tok} {i : Int} {n : Nat} {Q : Value → Shared → Prop}
    (hP : s.heap.get? P = some { cls := .type "re.Pattern", data := .fields #[pt, fl, .int 3 0, .none, .none, .ref C, .int 0 0] })
    (hC : s.heap.get? C = some { cls := .type "tuple", data := .seq CODEV n }) (h0 : 0 ≤ i) (h1 : i < 2 ^ 62)
    (h : wpAny (model prog w) A.in1 (reAnswer { pattern := .ref P, string := .str x t, code := CODE, text := x.cps, kind := 0, groups := 3, pos := min i.toNat x.cps.size, lim := min (2 ^ 63 - 1 : Int).toNat x.cps.size } (forMatch CODE x.cps 3 (min i.toNat x.cps.size) (min (2 ^ 63 - 1 : Int).toNat x.cps.size) false false)) (fun fin s' => ∃ v, fin = .done (.ret v) ∧ Q v s') E s) :
    wpAny (model prog w) A (call (.builtin "re.Pattern.match") [.ref P, .str x t, .int i tp]) Q E s := by
  have hT : s.TypeIs (.ref P) "re.Pattern" := ⟨_, hP, rfl⟩
  refine wpAny_call_entry slot_pat_match hT entry_pat_match ?_ (args_pat_match_3 _ _ _)
  obtain ⟨hp, g, d, tk, os⟩ := s
  unfold «re.Pattern.match» reTarget
  dsimp only
  rw [named3]
  generalize hRA : reAnswer = RA
  have hi : (decide (i < -(2 ^ 63)) || decide (i ≥ 2 ^ 63)) = false := by
    have a1 : ¬ (i < -(2 ^ 63)) := by omega
    have a2 : ¬ (i ≥ 2 ^ 63) := by omega
    exact Bool.or_eq_false_iff.mpr ⟨decide_eq_false a1, decide_eq_false a2⟩
  wp_walk using wpAny_loadPart' hP, wpAny_load' hP, wpAny_loadPart' hC, wpAny_load' hC
  refine wpAny_ite ?_
  rw [if_neg (by rw [hi]; exact Bool.false_ne_true)]
  wp_walk using wpAny_loadPart' hP, wpAny_load' hP, wpAny_loadPart' hC, wpAny_load' hC
  subst hRA
  have ec : Array.map (fun (x : Int) => x.toNat) (Array.map reRawOf ((some CODEV).getD #[])) = CODE := codev_code
  dsimp only
  rw [ec]
  exact h
end
end Mine
end

section
open PySem PySem.W PySem.Calls PySem.Spec PyProof.Rows
set_option maxRecDepth 100000
set_option maxHeartbeats 4000000
namespace Mine
open PySem.Builtin PySem.Builtin.Str PySem.Builtin.Re PySem.Sre
section
variable {prog : Program} {w : World} {A : Around} {E : Value → Shared → Prop} {s : Shared} {h₀ : Heap} {L : Addr} {m : Str → Option Value} {news : List (Addr × Obj)}

def patObj (pt fl : Value) (C : Addr) : Obj := { cls := .type "re.Pattern", data := .fields #[pt, fl, .int 3 0, .none, .none, .ref C, .int 0 0] }
def matObj (x : Str) (t : Tok) (P : Addr) (p n : Nat) (li : Int) (D : Addr) : Obj := { cls := .type "re.Match", data := .fields #[.str x t, .ref P, rawInt p, rawInt n, rawInt li, .ref D] }
/-- the spans: the whole, the weak mark's if b, the tag's -/
def spanL (b : Bool) (p fin k a e : Nat) : List Value := [rawInt p, rawInt fin, (if b then rawInt k else rawInt (-1)), (if b then rawInt ((k + 2 : Nat) : Int) else rawInt (-1)), rawInt a, rawInt e, rawInt (-1), rawInt (-1)]
def spanObj (b : Bool) (p fin k a e : Nat) : Obj := { cls := .type "tuple", data := .seq (spanL b p fin k a e).toArray }
def marksOf (b : Bool) (k a e : Nat) : Array (Option Nat) := #[if b then some k else none, if b then some (k + 2) else none, some a, some e, none, none]

theorem pat_no {P C : Addr} {pt fl : Value} {x : Str} {t tp : Tok} {i : Int} {n : Nat} {Q : Value → Shared → Prop} {k : Nat} {mm : M}
    (hP : s.heap.get? P = some (patObj pt fl C)) (hC : s.heap.get? C = some { cls := .type "tuple", data := .seq CODEV n }) (h0 : 0 ≤ i) (hi : i.toNat ≤ x.length) (hx : x.length ≤ 16777216)
    (e : M.runFor k (forMatch CODE x.cps 3 i.toNat x.cps.size false false) = mm) (hk : k < 2 ^ 60) (hm : mm.outcome = some .failed) (h : Q .none s) :
    wpAny (model prog w) A (call (.builtin "re.Pattern.match") [.ref P, .str x t, .int i tp]) Q E s := by
  unfold Str.length at hi hx
  refine pat_match_any hP hC h0 (by omega) ?_
  have e1 : min i.toNat x.cps.size = i.toNat := by omega
  have e2 : min (2 ^ 63 - 1 : Int).toNat x.cps.size = x.cps.size := by omega
  rw [e1, e2]
  unfold reAnswer
  refine wpAny_bind (run_to_end e hk (.inr ⟨hm, ?_⟩))
  exact wpAny_pure ⟨_, rfl, h⟩
theorem pat_yes {P C : Addr} {pt fl : Value} {x : Str} {t tp : Tok} {i : Int} {n : Nat} {Q : Value → Shared → Prop} {j : Nat} {mm : M} {b : Bool} {fin k a e : Nat} (F : Fr h₀ L s.heap m) (N : News h₀ L s.heap news)
    (hP : s.heap.get? P = some (patObj pt fl C)) (hC : s.heap.get? C = some { cls := .type "tuple", data := .seq CODEV n }) (h0 : 0 ≤ i) (hi : i.toNat ≤ x.length) (hx : x.length ≤ 16777216)
    (er : M.runFor j (forMatch CODE x.cps 3 i.toNat x.cps.size false false) = mm) (hj : j < 2 ^ 60) (hm : mm.outcome = some .matched) (hmk : mm.marks = marksOf b k a e) (hlm : mm.lastmark = 3) (hli : mm.lastindex = 2) (hhd : mm.handed = fin) (hst : mm.start = i.toNat) (hae : a ≤ e)
    (h : ∀ D R h', Fr h₀ L h' m → News h₀ L h' ((R, matObj x t P i.toNat x.cps.size 2 D) :: (D, spanObj b i.toNat fin k a e) :: news) → (∀ p ∈ news, p.1 < D) → D < R → Q (.ref R) { s with heap := h' }) :
    wpAny (model prog w) A (call (.builtin "re.Pattern.match") [.ref P, .str x t, .int i tp]) Q E s := by
  unfold Str.length at hi hx
  refine pat_match_any hP hC h0 (by omega) ?_
  have e1 : min i.toNat x.cps.size = i.toNat := by omega
  have e2 : min (2 ^ 63 - 1 : Int).toNat x.cps.size = x.cps.size := by omega
  rw [e1, e2]
  unfold reAnswer
  refine wpAny_bind (run_to_end er hj (.inl ⟨hm, ?_⟩))
  dsimp only
  unfold reNewMatch
  dsimp only
  rw [hmk, hlm, hli, hhd, hst]
  have c1 : (List.range 3).any (fun g => match (marksOf b k a e).getD (2 * g) none, (marksOf b k a e).getD (2 * g + 1) none with | some b, some e => decide (((2 * g + 1 : Nat) : Int) ≤ 3) && decide (e < b) | _, _ => false) = false := by
    have q : ¬ (e < a) := by omega
    have q2 : ¬ (k + 2 < k) := by omega
    rw [show List.range 3 = [0, 1, 2] from rfl]
    cases b <;> simp [marksOf, q, q2]
  refine wpAny_bind ?_
  split
  · rename_i hh
    exact absurd (c1.symm.trans hh) Bool.false_ne_true
  have key : ∀ (l : List Value) (Q' : Value → Shared → Prop), l = spanL b i.toNat fin k a e → (∀ D h', Fr h₀ L h' m → News h₀ L h' ((D, spanObj b i.toNat fin k a e) :: news) → (∀ p ∈ news, p.1 < D) → Q' (.ref D) { s with heap := h' }) → wpAny (model prog w) A.in1 (newTuple l) Q' E s := by
    rintro l Q' rfl hq
    unfold newTuple newObj
    dsimp only
    have hz : ¬ ((spanL b i.toNat fin k a e).toArray.size > sizeLine) := by
      rw [sizeLine_eq]; simp [spanL]
    rw [if_neg hz]
    exact wpAny_bind (wpAny_alloc (wpAny_pure (hq _ _ (F.push _) (N.push F _) fun p hp => Heap.lt_size (N p hp).1)))
  refine wpAny_bind (key _ _ (by cases b <;> rfl) fun D h' F' N' l1 => ?_)
  unfold newFields newObj
  dsimp only
  have hz : ¬ ((#[Value.str x t, Value.ref P, rawInt i.toNat, rawInt x.cps.size, rawInt 2, Value.ref D] : Array Value).size > sizeLine + 2) := by
    rw [sizeLine_eq]; simp
  refine (wpAny_ite ?_)
  rw [if_neg hz]
  refine wpAny_bind (wpAny_alloc (wpAny_pure ?_))
  refine wpAny_pure ⟨_, rfl, h _ _ _ (F'.push _) (N'.push F' _) l1 (Heap.lt_size (N' _ (.head _)).1)⟩
end
end Mine
end

section
open PySem PySem.W PySem.Calls PySem.Spec PyProof.Rows
set_option maxRecDepth 100000
set_option maxHeartbeats 4000000
namespace Mine
open PySem.Builtin PySem.Builtin.Str PySem.Builtin.Re PySem.Sre
section
variable {prog : Program} {w : World} {A : Around} {E : Value → Shared → Prop} {s : Shared} {h₀ : Heap} {L : Addr} {m : Str → Option Value} {news : List (Addr × Obj)}

def spanI (b : Bool) (p fin k a e : Nat) : Array Int := #[(p : Int), (fin : Int), (if b then (k : Int) else -1), (if b then ((k + 2 : Nat) : Int) else -1), (a : Int), (e : Int), -1, -1]
theorem spanL_raw (b : Bool) (p fin k a e : Nat) : Array.map reRawOf ((some (spanL b p fin k a e).toArray).getD #[]) = spanI b p fin k a e := by
  cases b <;> simp [spanL, spanI, reRawOf, rawInt]
theorem named_groups : reNamed "re.Match.groups" "groups" ["default"] 0 [] [] = pure [none] := rfl
theorem mat_groups {P R D : Addr} {x : Str} {t : Tok} {p n : Nat} {li : Int} {b : Bool} {fin k a e : Nat} {Q : Value → Shared → Prop} (F : Fr h₀ L s.heap m) (N : News h₀ L s.heap news)
    (hR : s.heap.get? R = some (matObj x t P p n li D)) (hD : s.heap.get? D = some (spanObj b p fin k a e)) (hx : x.length ≤ 16777216)
    (h : ∀ G h' tk t1 t2, Fr h₀ L h' m → News h₀ L h' ((G, { cls := .type "tuple", data := .seq #[if b then .str ⟨x.cps.extract k (k + 2)⟩ t1 else .none, .str ⟨x.cps.extract a e⟩ t2, .none] }) :: news) → (∀ p ∈ news, p.1 < G) → Q (.ref G) { s with heap := h', toks := tk }) :
    wpAny (model prog w) A (call (.builtin "re.Match.groups") [.ref R]) Q E s := by
  have hT : s.TypeIs (.ref R) "re.Match" := ⟨_, hR, rfl⟩
  refine wpAny_call_entry slot_mat_groups hT entry_mat_groups ?_ (args_mat_groups_1 _)
  have hl : ∀ i j, (⟨x.cps.extract i j⟩ : Str).length ≤ sizeLine := fun i j => by
    unfold Str.length at hx ⊢; rw [sizeLine_eq]; simp only [Array.size_extract]; omega
  obtain ⟨hp, g, d, tk, os⟩ := s
  unfold «re.Match.groups» reWithDefault
  dsimp only
  rw [named_groups]
  unfold matObj at hR
  unfold spanObj at hD
  cases b
  · wp_walk using wpAny_loadPart' hR, wpAny_load' hR, wpAny_loadPart' hD, wpAny_load' hD
    rw [spanL_raw]
    have hr : List.range ((spanI false p fin k a e).size / 2 - 1) = [0, 1, 2] := by rw [show (spanI false p fin k a e).size = 8 from rfl]; rfl
    dsimp only
    rw [hr]
    wp_walk using wpAny_loadPart' hR, wpAny_load' hR, wpAny_loadPart' hD, wpAny_load' hD
    exact ⟨_, rfl, h _ _ _ 0 _ (F.push _) (N.push F _) (fun p hp => Heap.lt_size (N p hp).1)⟩
  · wp_walk using wpAny_loadPart' hR, wpAny_load' hR, wpAny_loadPart' hD, wpAny_load' hD
    rw [spanL_raw]
    have hr : List.range ((spanI true p fin k a e).size / 2 - 1) = [0, 1, 2] := by rw [show (spanI true p fin k a e).size = 8 from rfl]; rfl
    dsimp only
    rw [hr]
    wp_walk using wpAny_loadPart' hR, wpAny_load' hR, wpAny_loadPart' hD, wpAny_load' hD
    exact ⟨_, rfl, h _ _ _ _ _ (F.push _) (N.push F _) (fun p hp => Heap.lt_size (N p hp).1)⟩
theorem mat_end {P R D : Addr} {x : Str} {t : Tok} {p n : Nat} {li : Int} {b : Bool} {fin k a e : Nat} {Q : Value → Shared → Prop}
    (hR : s.heap.get? R = some (matObj x t P p n li D)) (hD : s.heap.get? D = some (spanObj b p fin k a e))
    (h : ∀ tk, Q (.int fin tk) { s with toks := s.toks + 1 }) :
    wpAny (model prog w) A (call (.builtin "re.Match.end") [.ref R]) Q E s := by
  have hT : s.TypeIs (.ref R) "re.Match" := ⟨_, hR, rfl⟩
  refine wpAny_call_entry slot_mat_end hT entry_mat_end ?_ (args_mat_end_1 _)
  obtain ⟨hp, g, d, tk, os⟩ := s
  unfold «re.Match.end» reOneGroup
  dsimp only
  unfold matObj at hR
  unfold spanObj at hD
  wp_walk using wpAny_loadPart' hR, wpAny_load' hR, wpAny_loadPart' hD, wpAny_load' hD
  rw [spanL_raw]
  exact ⟨_, rfl, h _⟩
end
end Mine
end

section
open PySem PySem.W PySem.Calls PySem.Spec PyProof.Rows
set_option maxRecDepth 100000
set_option maxHeartbeats 4000000
namespace Mine
open PySem.Sre
def WsL (ws : List Nat) : Prop := ∀ c ∈ ws, c = 32 ∨ c = 9
def qt (b : Bool) (x : Str) : List Nat := (if b then [87, 47] else []) ++ 34 :: x.cps.toList ++ [34]

/-- a text tells tags -/
inductive ParL : List Nat → List (Bool × Str) → Prop
  | done {ws : List Nat} (h : WsL ws) : ParL ws []
  | skip {ws r : List Nat} {l : List (Bool × Str)} (h : WsL ws) (k : ParL r l) : ParL (ws ++ 44 :: r) l
  | tag {ws ws2 r : List Nat} {l : List (Bool × Str)} (b : Bool) (x : Str) (h : WsL ws) (ok : TagOk x) (h2 : WsL ws2) (k : ParL r l) : ParL (ws ++ qt b x ++ ws2 ++ 44 :: r) ((b, x) :: l)
  | last {ws ws2 : List Nat} (b : Bool) (x : Str) (h : WsL ws) (ok : TagOk x) (h2 : WsL ws2) : ParL (ws ++ qt b x ++ ws2) [(b, x)]

section
variable {T : Array Nat} {p : Nat} {rest : List Nat}
theorem drop_get (e : T.toList.drop p = rest) (j : Nat) : T.getD (p + j) 0 = rest.getD j 0 := by
  subst e
  simp [Array.getD_eq_getD_getElem?, List.getD_eq_getElem?_getD, List.getElem?_drop]
theorem drop_len (e : T.toList.drop p = rest) : rest.length = T.size - p := by
  subst e; simp
theorem ws_get {ws t : List Nat} (h : WsL ws) {j : Nat} (hj : j < ws.length) : (ws ++ t).getD j 0 = 32 ∨ (ws ++ t).getD j 0 = 9 := by
  rw [List.getD_eq_getElem?_getD, List.getElem?_append_left hj, List.getElem?_eq_getElem hj]
  exact h _ (List.getElem_mem hj)
theorem app_get (a b : List Nat) (j : Nat) : (a ++ b).getD (a.length + j) 0 = b.getD j 0 := by
  rw [List.getD_eq_getElem?_getD, List.getD_eq_getElem?_getD, List.getElem?_append_right (by omega)]
  congr 2; omega

theorem run_done (hn : T.size < 4294967295) (hp : p ≤ T.size) (h : WsL rest) (e : T.toList.drop p = rest) :
    ∃ j m', j < 2 ^ 60 ∧ M.runFor j (forMatch CODE T 3 p T.size false false) = m' ∧ m'.outcome = some .failed := by
  have hl := drop_len e
  obtain ⟨j, m', h1, h2, h3⟩ := match_no (T := T) (p := p) hn (k := rest.length) (by omega) (fun j hj => by rw [drop_get e]; have := ws_get (t := []) h hj; simpa using this) (.inl (by omega))
  exact ⟨j, m', by omega, h2, h3⟩
theorem run_skip {ws r : List Nat} (hn : T.size < 4294967295) (hp : p ≤ T.size) (h : WsL ws) (e : T.toList.drop p = ws ++ 44 :: r) :
    ∃ j m', j < 2 ^ 60 ∧ M.runFor j (forMatch CODE T 3 p T.size false false) = m' ∧ m'.outcome = some .failed := by
  have hl := drop_len e
  simp at hl
  obtain ⟨j, m', h1, h2, h3⟩ := match_no (T := T) (p := p) hn (k := ws.length) (by omega) (fun j hj => by rw [drop_get e]; exact ws_get h hj) (.inr (by rw [drop_get e]; have := app_get ws (44 :: r) 0; simpa using this))
  exact ⟨j, m', by omega, h2, h3⟩

theorem drop_more {k : Nat} {a b : List Nat} (e : T.toList.drop p = a ++ b) (hk : a.length = k) : T.toList.drop (p + k) = b := by
  rw [← List.drop_drop, e, ← hk, List.drop_left]
theorem ext_at {a e : Nat} {m tl : List Nat} (h : T.toList.drop a = m ++ tl) (he : a + m.length = e) : T.extract a e = m.toArray := by
  apply Array.toList_inj.mp
  rw [Array.toList_extract]
  simp only [List.extract]
  rw [h, ← he]
  simp

structure TagRun (T : Array Nat) (p : Nat) (b : Bool) (x : Str) (tl : List Nat) (j : Nat) (mm : M) (k a e fin : Nat) : Prop where
  hj : j < 2 ^ 60
  run : M.runFor j (forMatch CODE T 3 p T.size false false) = mm
  out : mm.outcome = some .matched
  marks : mm.marks = marksOf b k a e
  lm : mm.lastmark = 3
  li : mm.lastindex = 2
  hd : mm.handed = fin
  st : mm.start = p
  ae : a ≤ e
  tag : T.extract a e = x.cps
  wk : b = true → (T.extract k (k + 2)).size = 2
  fin1 : p < fin
  fin2 : fin ≤ T.size
  next : T.toList.drop fin = tl

theorem run_tag {ws ws2 tl : List Nat} {b : Bool} {x : Str} (hn : T.size < 4294967295) (hp : p ≤ T.size) (h : WsL ws) (ok : TagOk x) (h2 : WsL ws2) (ht : tl = [] ∨ ∃ r, tl = 44 :: r) (e : T.toList.drop p = ws ++ (qt b x ++ (ws2 ++ tl))) :
    ∃ j mm k a e' fin, TagRun T p b x tl.tail j mm k a e' fin := by
  have hl := drop_len e
  have d1 : T.toList.drop (p + ws.length) = qt b x ++ (ws2 ++ tl) := drop_more e rfl
  have hxs : x.cps.toList.length = x.cps.size := by simp
  have hnq : ∀ (q : Nat), T.toList.drop q = x.cps.toList ++ (34 :: (ws2 ++ tl)) → ∀ j, j < x.cps.size → T.getD (q + j) 0 ≠ 34 := by
    intro q hq j hj
    rw [drop_get hq]
    rw [List.getD_eq_getElem?_getD, List.getElem?_append_left (by rw [hxs]; exact hj), List.getElem?_eq_getElem (by rw [hxs]; exact hj)]
    exact ok.nq _ (List.getElem_mem _)
  have cons_get : ∀ (q c : Nat) (r : List Nat), T.toList.drop q = c :: r → T.getD q 0 = c := by
    intro q c r hq
    have := drop_get hq 0
    simpa using this
  cases b with
  | false =>
    have d2 : T.toList.drop (p + ws.length) = 34 :: (x.cps.toList ++ (34 :: (ws2 ++ tl))) := by rw [d1]; simp [qt]
    have d3 : T.toList.drop (p + ws.length + 1) = x.cps.toList ++ (34 :: (ws2 ++ tl)) := drop_more (a := [34]) (by rw [d2]; rfl) rfl
    have d4 : T.toList.drop (p + ws.length + 1 + x.cps.size) = 34 :: (ws2 ++ tl) := drop_more d3 hxs
    have d5 : T.toList.drop (p + ws.length + 1 + x.cps.size + 1) = ws2 ++ tl := drop_more (a := [34]) (by rw [d4]; rfl) rfl
    have d6 : T.toList.drop (p + ws.length + 1 + x.cps.size + 1 + ws2.length) = tl := drop_more d5 rfl
    have l6 := drop_len d6
    have l5 := drop_len d5
    have l4 := drop_len d4
    simp at l5 l4
    obtain ⟨fin, hc, hfin, hf2⟩ : ∃ fin, ((p + ws.length + 1 + x.cps.size + 1 + ws2.length = T.size ∧ fin = T.size) ∨ (T.getD (p + ws.length + 1 + x.cps.size + 1 + ws2.length) 0 = 44 ∧ p + ws.length + 1 + x.cps.size + 1 + ws2.length < T.size ∧ fin = p + ws.length + 1 + x.cps.size + 1 + ws2.length + 1)) ∧ T.toList.drop fin = tl.tail ∧ fin ≤ T.size := by
      rcases ht with rfl | ⟨r, rfl⟩
      · refine ⟨T.size, .inl ⟨?_, rfl⟩, by simp, Nat.le_refl _⟩
        simp at l6 l5; omega
      · refine ⟨_, .inr ⟨cons_get _ _ _ d6, ?_, rfl⟩, drop_more (a := [44]) (by rw [d6]; rfl) rfl, ?_⟩
        · simp at l6; omega
        · simp at l6; omega
    have hen : p + ws.length + 1 + x.cps.size + 1 + ws2.length ≤ T.size := by omega
    obtain ⟨j, mm, r1, r2, r3, r4, r5, r6, r7, r8⟩ := match_strong (T := T) (p := p) hn (k1 := ws.length) (t := x.cps.size) (k2 := ws2.length) (fin := fin) (fun j hj => by rw [drop_get e]; exact ws_get h hj) (cons_get _ _ _ d2) (hnq _ d3) (cons_get _ _ _ d4) (fun j hj => by rw [drop_get d5]; exact ws_get h2 hj) rfl hen hc
    refine ⟨j, mm, 0, p + ws.length + 1, p + ws.length + 1 + x.cps.size, fin, by omega, r2, r3, by rw [r4]; rfl, r5, r6, r7, r8, by omega, ?_, (fun q => nomatch q), by omega, hf2, hfin⟩
    rw [ext_at d3 (by rw [hxs])]
  | true =>
    have d2 : T.toList.drop (p + ws.length) = 87 :: 47 :: 34 :: (x.cps.toList ++ (34 :: (ws2 ++ tl))) := by rw [d1]; simp [qt]
    have d2a : T.toList.drop (p + ws.length + 1) = 47 :: 34 :: (x.cps.toList ++ (34 :: (ws2 ++ tl))) := drop_more (a := [87]) (by rw [d2]; rfl) rfl
    have d2b : T.toList.drop (p + ws.length + 2) = 34 :: (x.cps.toList ++ (34 :: (ws2 ++ tl))) := drop_more (a := [87, 47]) (by rw [d2]; rfl) rfl
    have d3 : T.toList.drop (p + ws.length + 2 + 1) = x.cps.toList ++ (34 :: (ws2 ++ tl)) := drop_more (a := [34]) (by rw [d2b]; rfl) rfl
    have d4 : T.toList.drop (p + ws.length + 2 + 1 + x.cps.size) = 34 :: (ws2 ++ tl) := drop_more d3 hxs
    have d5 : T.toList.drop (p + ws.length + 2 + 1 + x.cps.size + 1) = ws2 ++ tl := drop_more (a := [34]) (by rw [d4]; rfl) rfl
    have d6 : T.toList.drop (p + ws.length + 2 + 1 + x.cps.size + 1 + ws2.length) = tl := drop_more d5 rfl
    have l6 := drop_len d6
    have l5 := drop_len d5
    have l4 := drop_len d4
    simp at l5 l4
    obtain ⟨fin, hc, hfin, hf2⟩ : ∃ fin, ((p + ws.length + 2 + 1 + x.cps.size + 1 + ws2.length = T.size ∧ fin = T.size) ∨ (T.getD (p + ws.length + 2 + 1 + x.cps.size + 1 + ws2.length) 0 = 44 ∧ p + ws.length + 2 + 1 + x.cps.size + 1 + ws2.length < T.size ∧ fin = p + ws.length + 2 + 1 + x.cps.size + 1 + ws2.length + 1)) ∧ T.toList.drop fin = tl.tail ∧ fin ≤ T.size := by
      rcases ht with rfl | ⟨r, rfl⟩
      · refine ⟨T.size, .inl ⟨?_, rfl⟩, by simp, Nat.le_refl _⟩
        simp at l6 l5; omega
      · refine ⟨_, .inr ⟨cons_get _ _ _ d6, ?_, rfl⟩, drop_more (a := [44]) (by rw [d6]; rfl) rfl, ?_⟩
        · simp at l6; omega
        · simp at l6; omega
    have hen : p + ws.length + 2 + 1 + x.cps.size + 1 + ws2.length ≤ T.size := by omega
    obtain ⟨j, mm, r1, r2, r3, r4, r5, r6, r7, r8⟩ := match_weak (T := T) (p := p) hn (k1 := ws.length) (t := x.cps.size) (k2 := ws2.length) (fin := fin) (fun j hj => by rw [drop_get e]; exact ws_get h hj) (cons_get _ _ _ d2) (cons_get _ _ _ d2a) (cons_get _ _ _ d2b) (hnq _ d3) (cons_get _ _ _ d4) (fun j hj => by rw [drop_get d5]; exact ws_get h2 hj) rfl hen hc
    refine ⟨j, mm, p + ws.length, p + ws.length + 2 + 1, p + ws.length + 2 + 1 + x.cps.size, fin, by omega, r2, r3, by rw [r4]; rfl, r5, r6, r7, r8, by omega, ?_, fun _ => ?_, by omega, hf2, hfin⟩
    · rw [ext_at d3 (by rw [hxs])]
    · simp only [Array.size_extract]; omega

theorem find_done {x : Str} {q : Nat} (hp : q ≤ x.length) (h : WsL rest) (e : x.cps.toList.drop q = rest) : Txt.find3 x ⟨#[44]⟩ (q : Int) = -1 := by
  have hl := drop_len e
  have fi : fromIndex x.length (q : Int) = q := by unfold fromIndex; rw [if_neg (by omega)]; omega
  rcases StrLaws.find3_spec x 44 (q : Int) with ⟨h1, _⟩ | ⟨k, h1, h2, h3, h4, _⟩
  · exact h1
  · rw [fi] at h2
    unfold Str.length at h3
    have := drop_get e (k - q)
    rw [show q + (k - q) = k by omega, h4] at this
    have h5 := ws_get (t := []) h (j := k - q) (by omega)
    simp only [List.append_nil] at h5
    omega
theorem find_skip {x : Str} {q : Nat} {ws r : List Nat} (hp : q ≤ x.length) (h : WsL ws) (e : x.cps.toList.drop q = ws ++ 44 :: r) : Txt.find3 x ⟨#[44]⟩ (q : Int) = ((q + ws.length : Nat) : Int) := by
  have hl := drop_len e
  simp at hl
  have fi : fromIndex x.length (q : Int) = q := by unfold fromIndex; rw [if_neg (by omega)]; omega
  have hc : x.cps.getD (q + ws.length) 0 = 44 := by rw [drop_get e]; have := app_get ws (44 :: r) 0; simpa using this
  rcases StrLaws.find3_spec x 44 (q : Int) with ⟨h1, h2⟩ | ⟨k, h1, h2, h3, h4, h5⟩
  · exfalso
    rw [fi] at h2
    exact h2 (q + ws.length) (by omega) (by unfold Str.length; omega) hc
  · rw [fi] at h2 h5
    have : k = q + ws.length := by
      rcases Nat.lt_trichotomy k (q + ws.length) with hlt | heq | hgt
      · exfalso
        have := drop_get e (k - q)
        rw [show q + (k - q) = k by omega, h4] at this
        have h6 := ws_get (t := 44 :: r) h (j := k - q) (by omega)
        omega
      · exact heq
      · exfalso
        exact h5 (q + ws.length) (by omega) hgt hc
    rw [h1, this]
end
end Mine
end

section
open PySem PySem.W PySem.Calls PySem.Spec PyProof.Rows
set_option maxRecDepth 100000
set_option maxHeartbeats 4000000
namespace Mine
theorem tag_shape {x : Str} (h : TagOk x) : (∃ c, x = ⟨#[c]⟩) ∨ ∃ c d, x = ⟨#[c, d]⟩ := by
  obtain ⟨⟨l⟩⟩ := x
  have h1 := h.ne
  have h2 := h.le
  match l, h1, h2 with
  | [], h1, _ => exact absurd rfl h1
  | [c], _, _ => exact .inl ⟨c, rfl⟩
  | [c, d], _, _ => exact .inr ⟨c, d, rfl⟩
  | _ :: _ :: _ :: r, _, h2 => simp at h2
theorem quoteS_cps (b : Bool) (x : Str) : (quoteS b x).cps.toList = qt b x := by
  unfold quoteS qt
  rw [lit_quote, lit_wquote]
  cases b
  · show (#[34] ++ x.cps ++ #[34] : Array Nat).toList = _
    simp
  · show (#[87, 47, 34] ++ x.cps ++ #[34] : Array Nat).toList = _
    simp
theorem quoteS_eq (b : Bool) (x : Str) : quoteS b x = ⟨(qt b x).toArray⟩ := by
  have := quoteS_cps b x
  generalize quoteS b x = q at this ⊢
  obtain ⟨q⟩ := q
  simp only at this
  rw [← this]
theorem idx3 : Builtin.Str.strSliceIndices (some 1) (some (-1)) 1 3 = [1] := by decide +kernel
theorem idx4 : Builtin.Str.strSliceIndices (some 1) (some (-1)) 1 4 = [1, 2] := by decide +kernel
theorem idx5 : Builtin.Str.strSliceIndices (some 3) (some (-1)) 1 5 = [3] := by decide +kernel
theorem idx6 : Builtin.Str.strSliceIndices (some 3) (some (-1)) 1 6 = [3, 4] := by decide +kernel
theorem lit_W : Str.ofString "W/" = ⟨#[87, 47]⟩ := by decide +kernel
theorem lit_w : Str.ofString "w/" = ⟨#[119, 47]⟩ := by decide +kernel
theorem sw_no {a b c : Nat} {r : List Nat} (h : c ≠ a) : Txt.startswith ⟨(c :: r).toArray⟩ ⟨#[a, b]⟩ = false := by
  unfold Txt.startswith Builtin.Str.subAt
  rw [Bool.and_eq_false_iff]
  right
  rw [beq_eq_false_iff_ne]
  intro e
  have := congrArg (fun x => x[0]?) e
  simp [Str.length] at this
  omega
theorem sw_yes {a b : Nat} {r : List Nat} : Txt.startswith ⟨(a :: b :: r).toArray⟩ ⟨#[a, b]⟩ = true := by
  unfold Txt.startswith Builtin.Str.subAt
  simp [Str.length]
theorem sl_eq {x : Str} {n : Nat} {ix : List Nat} {y : Str} {i : Int} (hn : x.length = n) (e : Builtin.Str.strSliceIndices (some i) (some (-1)) 1 n = ix) (hne : (ix.length == n) = false) (hy : (ix.filterMap (x.cps[·]?)).toArray = y.cps) : Txt.slice x (some i) (some (-1)) = y := by
  unfold Txt.slice
  rw [hn, e, hne]
  simp only [Bool.and_false, Bool.false_eq_true, if_false]
  rw [hy]
theorem unq_hyps {b : Bool} {x : Str} (h : TagOk x) : (quoteS b x).length ≤ 10 ∧ 1 ≤ (quoteS b x).length ∧ (Txt.startswith (quoteS b x) (Str.ofString "W/") || Txt.startswith (quoteS b x) (Str.ofString "w/")) = b ∧
    Txt.startswith3 (quoteS b x) (Str.ofString "\"") (if b then 2 else 0) = true ∧ endswith3 (quoteS b x) (Str.ofString "\"") (if b then 2 else 0) = true ∧
    Txt.slice (quoteS b x) (some (if b then 2 + 1 else 0 + 1)) (some (-1)) = x := by
  rw [quoteS_eq, lit_W, lit_w]
  rcases tag_shape h with ⟨c, rfl⟩ | ⟨c, d, rfl⟩ <;> cases b
  · refine ⟨by simp [qt, Str.length], by simp [qt, Str.length], ?_, rfl, rfl, sl_eq (n := 3) rfl idx3 rfl rfl⟩
    rw [show Txt.startswith ⟨(qt false ⟨#[c]⟩).toArray⟩ ⟨#[87, 47]⟩ = false from sw_no (by decide), show Txt.startswith ⟨(qt false ⟨#[c]⟩).toArray⟩ ⟨#[119, 47]⟩ = false from sw_no (by decide)]; rfl
  · refine ⟨by simp [qt, Str.length], by simp [qt, Str.length], ?_, rfl, rfl, sl_eq (n := 5) rfl idx5 rfl rfl⟩
    rw [show Txt.startswith ⟨(qt true ⟨#[c]⟩).toArray⟩ ⟨#[87, 47]⟩ = true from sw_yes]; rfl
  · refine ⟨by simp [qt, Str.length], by simp [qt, Str.length], ?_, rfl, rfl, sl_eq (n := 4) rfl idx4 rfl rfl⟩
    rw [show Txt.startswith ⟨(qt false ⟨#[c, d]⟩).toArray⟩ ⟨#[87, 47]⟩ = false from sw_no (by decide), show Txt.startswith ⟨(qt false ⟨#[c, d]⟩).toArray⟩ ⟨#[119, 47]⟩ = false from sw_no (by decide)]; rfl
  · refine ⟨by simp [qt, Str.length], by simp [qt, Str.length], ?_, rfl, rfl, sl_eq (n := 6) rfl idx6 rfl rfl⟩
    rw [show Txt.startswith ⟨(qt true ⟨#[c, d]⟩).toArray⟩ ⟨#[87, 47]⟩ = true from sw_yes]; rfl
end Mine
end

section
open PySem PySem.W PySem.Calls PySem.Spec PyProof.Rows
set_option maxRecDepth 100000
set_option maxHeartbeats 8000000
namespace Mine
local macro_rules | `(tactic| k_enter) => `(tactic| (refine' enter ?k1 ?k2 ?k6 ?k7 ?k8 ?k9 ?kB ?_ ?c2 ?c3 ?c4 ?c5; (case k1 => assumption); (case k2 => assumption); (case k6 => k_is); (case k7 => k_is); (case k8 => (have := (by assumption : Room1 _).hd; omega)); (case k9 => first | exact BindsTo.of_eq rfl | exact binds_K (by k_in) rfl (by k_is) rfl rfl rfl | fail "k_enter: no rule for these arguments"); (case c5 => decide); (case kB => exact locs rfl); (case c2 => exact rfl); (case c3 => exact rfl); (case c4 => exact rfl); k_whole; intro L' h' F' N'; (try dsimp only); (try k_fold)))
local macro_rules | `(tactic| walk_at "call builtin:str.startswith cons nil") => `(tactic| (k_here; (with_reducible show wpAny _ _ (call (Value.builtin "str.startswith") [Value.str _ _, Value.ref _]) _ _ _); (with_unfolding_all refine' startswith_tup ?k1 ?_; (case k1 => exact tup_news (by k_asm) (by k_mem)))))
local macro_rules | `(tactic| walk_at "call builtin:str.endswith") => `(tactic| (k_here; (with_reducible show wpAny _ _ (call (Value.builtin "str.endswith") [Value.str _ _, Value.str _ _, Value.int _ _]) _ _ _); refine call_endswith3 ?_))
theorem Out.tup3 {s s' : Shared} {Q : Value → Shared → Prop} {y : Str} {b : Bool} {t : Tok} {a L : Addr} {n : Nat} {news : List (Addr × Obj)} (h : Out s (fun h' v => ∃ a t' n, v = .ref a ∧ s.heap.get? a = none ∧ h'.get? a = some { cls := .type "tuple", data := .seq #[.str y t', .bool b] n }) Q) (k : Ext s.heap s'.heap) (N : News s.heap L s'.heap news) (m : (a, ({ cls := .type "tuple", data := .seq #[.str y t, .bool b] n } : Obj)) ∈ news) (eg : s'.gens = s.gens) (eo : s'.os = s.os) :
    Q (.ref a) s' := h.done k ⟨a, t, n, rfl, (N _ m).2.2, (N _ m).1⟩ eg eo
section
variable {p : Program} {loose : List Str} {w : World} {A : Around} {s : Shared} {mean : ExcName → Option Value} {mg mb : Str → Option Value} {Q E : Value → Shared → Prop}

theorem unq_spec {q : Str} {b : Bool} {t : Tok} (hl : q.length ≤ 10) (hp : 1 ≤ q.length) (hw : (Txt.startswith q (Str.ofString "W/") || Txt.startswith q (Str.ofString "w/")) = b)
   (hs : Txt.startswith3 q (Str.ofString "\"") (if b then 2 else 0) = true) (he : endswith3 q (Str.ofString "\"") (if b then 2 else 0) = true)
   (RM : Room1 A) (X : (hd.heap_39 w.params).In s.heap) (T : Top p loose mean mg mb s.heap)
   (h : Out s (fun h' v => ∃ a t' n, v = .ref a ∧ s.heap.get? a = none ∧ h'.get? a = some { cls := .type "tuple", data := .seq #[.str (Txt.slice q (some (if b then 2 + 1 else 0 + 1)) (some (-1))) t', .bool b] n }) Q) :
   wpAny (model PySem.Challenge.rw_ez0425_01.row.prog w) A (call (.ref 209) [.str q t]) Q E s := by
  revert X T
  k_fill
  intro X T
  cases b
  all_goals (
    (try simp only [Bool.false_eq_true, if_false, if_true] at hs he)
    refine wpAny_call ?_
    k_dflt k_enter
    k_steps)
  all_goals first
    | (exfalso; simp_all; done)
    | (refine' Out.tup3 h ?k ?N ?m rfl rfl; (case k => exact Fr.keep (by assumption)); (case N => assumption); (case m => k_mem))
theorem unq_tag {b : Bool} {x : Str} {t : Tok} (ok : TagOk x) (RM : Room1 A) (X : (hd.heap_39 w.params).In s.heap) (T : Top p loose mean mg mb s.heap)
   (h : Out s (fun h' v => ∃ a t' n, v = .ref a ∧ s.heap.get? a = none ∧ h'.get? a = some { cls := .type "tuple", data := .seq #[.str x t', .bool b] n }) Q) :
   wpAny (model PySem.Challenge.rw_ez0425_01.row.prog w) A (call (.ref 209) [.str (quoteS b x) t]) Q E s := by
  obtain ⟨h1, h2, h3, h4, h5, h6⟩ := unq_hyps (b := b) ok
  refine unq_spec h1 h2 h3 h4 h5 RM X T ?_
  rw [h6]
  exact h
end
end Mine
end

section
open PySem
set_option maxRecDepth 100000
namespace Mine
open SetTable

/-- a small table: eight places, none of them given up -/
structure Small (t : SetTable) (n : Nat) : Prop where
  mask : t.mask = 7
  dum : t.dummies = #[]
  size : t.place.size = n
  le : n ≤ 4

theorem has_nil (j : Nat) : has #[] j = false := by unfold has; simp
theorem slot_free {t : SetTable} (hd : t.dummies = #[]) {j : Nat} (h : j ∉ t.place.toList) : t.slot j = .empty := by
  unfold SetTable.slot
  dsimp only
  have e : (t.place[below t.place j]? == some j) = false := by
    rw [beq_eq_false_iff_ne]
    intro q
    exact h (by
      have := Array.mem_of_getElem? q
      exact Array.mem_toList_iff.mpr this)
  rw [e, hd, has_nil]
  simp
theorem slot_kind {t : SetTable} (hd : t.dummies = #[]) (j : Nat) : t.slot j = .empty ∨ ∃ i, t.slot j = .live i := by
  unfold SetTable.slot
  dsimp only
  rw [hd, has_nil]
  split
  · exact .inr ⟨_, rfl⟩
  · exact .inl rfl

def at0 (i perturb : Nat) : Probe := { j := i, more := 0, i := i, perturb := perturb, dummy := none }
theorem leap7 (i p : Nat) : leap 7 i p = ((i * 5 + 1 + p / 32) % 8, p / 32) := rfl
theorem runEnd7 {i : Nat} (h : i < 8) : runEnd 7 i = i := by
  unfold runEnd
  split
  · omega
  · rfl
theorem adv {t : SetTable} (hm : t.mask = 7) (i p : Nat) : t.advance (at0 i p) = at0 ((i * 5 + 1 + p / 32) % 8) (p / 32) := by
  have e : t.advance (at0 i p) = { j := (leap t.mask i p).1, more := runEnd t.mask (leap t.mask i p).1 - (leap t.mask i p).1, i := (leap t.mask i p).1, perturb := (leap t.mask i p).2, dummy := none } := rfl
  rw [e, hm, leap7, runEnd7 (Nat.mod_lt _ (by decide)), Nat.sub_self]
  rfl
theorem start {t : SetTable} (hm : t.mask = 7) (h : Int) : t.probeStart h = at0 (bits h % 8) (bits h) := by
  have e : t.probeStart h = { j := bits h % (t.mask + 1), more := runEnd t.mask (bits h % (t.mask + 1)) - bits h % (t.mask + 1), i := bits h % (t.mask + 1), perturb := bits h, dummy := none } := rfl
  rw [e, hm, runEnd7 (Nat.mod_lt _ (by decide)), Nat.sub_self]
  rfl
@[irreducible] def goP (t : SetTable) (h : Int) (n : Nat) (p : Probe) : Option Met := SetTable.probe.go t (fun _ => h + 1) h n p
theorem go_hit {t : SetTable} (h : Int) (n i p : Nat) (e : t.slot i = Slot.empty) : goP t h (n + 1) (at0 i p) = some (Met.empty i none) := by
  have q : goP t h (n + 1) (at0 i p) = (match t.slot i with
      | .empty => some (Met.empty i none)
      | .dummy => goP t h n (t.advance { at0 i p with dummy := some i })
      | .live k => if (h + 1 == h) = true then some (Met.candidate i k (t.advance (at0 i p))) else goP t h n (t.advance (at0 i p))) := by unfold goP; rfl
  rw [q, e]
theorem go_miss {t : SetTable} (hm : t.mask = 7) (h : Int) (n i p : Nat) {k : Nat} (e : t.slot i = Slot.live k) : goP t h (n + 1) (at0 i p) = goP t h n (at0 ((i * 5 + 1 + p / 32) % 8) (p / 32)) := by
  have q : goP t h (n + 1) (at0 i p) = (match t.slot i with
      | .empty => some (Met.empty i none)
      | .dummy => goP t h n (t.advance { at0 i p with dummy := some i })
      | .live k => if (h + 1 == h) = true then some (Met.candidate i k (t.advance (at0 i p))) else goP t h n (t.advance (at0 i p))) := by unfold goP; rfl
  have hh : (h + 1 == h) = false := by rw [beq_eq_false_iff_ne]; omega
  rw [q, e, hh, adv hm]
  rfl

theorem some_free {t : SetTable} {n : Nat} (S : Small t n) : ∃ j, j < 8 ∧ t.slot j = .empty := by
  have hl : t.place.toList.length ≤ 4 := by rw [Array.length_toList, S.size]; exact S.le
  have : ∃ j, j < 8 ∧ j ∉ t.place.toList := by
    refine Classical.byContradiction fun hn => ?_
    have all : ∀ j, j < 8 → j ∈ t.place.toList := fun j hj => Classical.byContradiction fun q => hn ⟨j, hj, q⟩
    have h0 := all 0 (by decide)
    have h1 := all 1 (by decide)
    have h2 := all 2 (by decide)
    have h3 := all 3 (by decide)
    have h4 := all 4 (by decide)
    revert hl h0 h1 h2 h3 h4
    generalize t.place.toList = l
    intro hl h0 h1 h2 h3 h4
    match l, hl with
    | [], _ => cases h0
    | [a], _ => simp only [List.mem_cons, List.not_mem_nil, or_false] at h0 h1; omega
    | [a, b], _ => simp only [List.mem_cons, List.not_mem_nil, or_false] at h0 h1 h2; omega
    | [a, b, c], _ => simp only [List.mem_cons, List.not_mem_nil, or_false] at h0 h1 h2 h3; omega
    | [a, b, c, d], _ => simp only [List.mem_cons, List.not_mem_nil, or_false] at h0 h1 h2 h3 h4; omega
    | a :: b :: c :: d :: e :: r, hl => simp only [List.length_cons] at hl; omega
  obtain ⟨j, hj, hn⟩ := this
  exact ⟨j, hj, slot_free S.dum hn⟩

@[irreducible] def nx (i : Nat) : Nat := (i * 5 + 1) % 8
theorem nx_lt (i : Nat) : nx i < 8 := by unfold nx; exact Nat.mod_lt _ (by decide)
theorem nx_cover : ∀ i j : Fin 8, j.1 = i.1 ∨ j.1 = nx i.1 ∨ j.1 = nx (nx i.1) ∨ j.1 = nx (nx (nx i.1)) ∨ j.1 = nx (nx (nx (nx i.1))) ∨ j.1 = nx (nx (nx (nx (nx i.1)))) ∨ j.1 = nx (nx (nx (nx (nx (nx i.1))))) ∨ j.1 = nx (nx (nx (nx (nx (nx (nx i.1)))))) := by unfold nx; decide
theorem go_one {t : SetTable} (hm : t.mask = 7) (hd : t.dummies = #[]) (h : Int) (k i : Nat) : (∃ j, goP t h (k + 1) (at0 i 0) = some (Met.empty j none)) ∨ (t.slot i ≠ Slot.empty ∧ goP t h (k + 1) (at0 i 0) = goP t h k (at0 (nx i) 0)) := by
  rcases slot_kind hd i with e | ⟨q, e⟩
  · exact .inl ⟨i, go_hit h k i 0 e⟩
  · refine .inr ⟨by rw [e]; exact Slot.noConfusion, ?_⟩
    rw [go_miss hm h k i 0 e]
    unfold nx
    rfl
/-- where the perturbation is spent, the eight places are all seen -/
theorem go_cycle {t : SetTable} (hm : t.mask = 7) (hd : t.dummies = #[]) (h : Int) (he : ∃ j, j < 8 ∧ t.slot j = Slot.empty) (n i : Nat) (hi : i < 8) : ∃ j, goP t h (n + 8) (at0 i 0) = some (Met.empty j none) := by
  obtain ⟨j0, hj0, e0⟩ := he
  rcases go_one hm hd h (n + 7) i with r | ⟨n1, e1⟩
  · exact r
  rw [show n + 8 = n + 7 + 1 from rfl, e1]
  rcases go_one hm hd h (n + 6) (nx i) with r | ⟨n2, e2⟩
  · exact r
  rw [e2]
  rcases go_one hm hd h (n + 5) (nx (nx i)) with r | ⟨n3, e3⟩
  · exact r
  rw [e3]
  rcases go_one hm hd h (n + 4) (nx (nx (nx i))) with r | ⟨n4, e4⟩
  · exact r
  rw [e4]
  rcases go_one hm hd h (n + 3) (nx (nx (nx (nx i)))) with r | ⟨n5, e5⟩
  · exact r
  rw [e5]
  rcases go_one hm hd h (n + 2) (nx (nx (nx (nx (nx i))))) with r | ⟨n6, e6⟩
  · exact r
  rw [e6]
  rcases go_one hm hd h (n + 1) (nx (nx (nx (nx (nx (nx i)))))) with r | ⟨n7, e7⟩
  · exact r
  rw [e7]
  rcases go_one hm hd h n (nx (nx (nx (nx (nx (nx (nx i))))))) with r | ⟨n8, e8⟩
  · exact r
  exfalso
  have c := nx_cover ⟨i, hi⟩ ⟨j0, hj0⟩
  have c' : j0 = i ∨ j0 = nx i ∨ j0 = nx (nx i) ∨ j0 = nx (nx (nx i)) ∨ j0 = nx (nx (nx (nx i))) ∨ j0 = nx (nx (nx (nx (nx i)))) ∨ j0 = nx (nx (nx (nx (nx (nx i))))) ∨ j0 = nx (nx (nx (nx (nx (nx (nx i)))))) := c
  rcases c' with q | q | q | q | q | q | q | q
  · exact n1 (q ▸ e0)
  · exact n2 (q ▸ e0)
  · exact n3 (q ▸ e0)
  · exact n4 (q ▸ e0)
  · exact n5 (q ▸ e0)
  · exact n6 (q ▸ e0)
  · exact n7 (q ▸ e0)
  · exact n8 (q ▸ e0)
theorem go_any {t : SetTable} (hm : t.mask = 7) (hd : t.dummies = #[]) (h : Int) (he : ∃ j, j < 8 ∧ t.slot j = Slot.empty) : ∀ (k n i p : Nat), i < 8 → p < 32 ^ k → ∃ j, goP t h (n + 8 + k) (at0 i p) = some (Met.empty j none) := by
  intro k
  induction k with
  | zero =>
    intro n i p hi hp
    have : p = 0 := by simpa using hp
    subst this
    exact go_cycle hm hd h he n i hi
  | succ k ih =>
    intro n i p hi hp
    rcases slot_kind hd i with e | ⟨q, e⟩
    · exact ⟨i, go_hit h (n + 8 + k) i p e⟩
    · rw [show n + 8 + (k + 1) = n + 8 + k + 1 by omega, go_miss hm h _ i p e]
      exact ih n _ _ (Nat.mod_lt _ (by decide)) (by rw [Nat.pow_succ] at hp; omega)
theorem bits_lt (h : Int) : bits h < 2 ^ 64 := by
  unfold bits; omega
theorem free_small {t : SetTable} {n : Nat} (S : Small t n) (h : Int) : ∃ j, t.freeSlot h = some (j, false) := by
  have he := some_free S
  have hp : t.probe (fun _ => h + 1) h (t.probeStart h) = goP t h 220 (at0 (bits h % 8) (bits h)) := by
    unfold SetTable.probe
    rw [start S.mask]
    show SetTable.probe.go t (fun _ => h + 1) h (10 * turns t.mask) _ = _
    rw [S.mask]
    unfold goP
    rfl
  obtain ⟨j, e⟩ := go_any S.mask S.dum h he 13 199 (bits h % 8) (bits h) (Nat.mod_lt _ (by decide)) (Nat.lt_of_lt_of_le (bits_lt h) (by decide))
  refine ⟨j, ?_⟩
  unfold SetTable.freeSlot
  rw [hp]
  have : goP t h 220 (at0 (bits h % 8) (bits h)) = some (Met.empty j none) := e
  rw [this]
  rfl
/-- one more into a small table -/
theorem lay_small {t : SetTable} {es : Array (Int × Value)} (S : Small t es.size) (hle : es.size ≤ 3) (h : Int) (x : Value) :
    ∃ t' p, layNew t es h x = (SetTable.insertAt es p (h, x), t', false, false) ∧ Small t' (es.size + 1) ∧ t'.led = t.led ∧ t'.plain = t.plain ∧ t'.moves = t.moves ∧ t'.finger = t.finger := by
  obtain ⟨j, e⟩ := free_small S h
  unfold layNew
  rw [e]
  dsimp only
  have hput : t.put j = ({ t with place := SetTable.insertAt t.place (below t.place j) j, dummies := #[] }, below t.place j) := by
    unfold SetTable.put
    dsimp only
    rw [S.dum, has_nil]
    simp
  have hsz : ∀ {α : Type} (xs : Array α) (p : Nat) (x : α), (SetTable.insertAt xs p x).size = xs.size + 1 := fun xs p x => by
    have := (SetTable.insertAt_perm xs p x).length_eq
    simpa using this
  rw [hput]
  dsimp only
  have hfit : ({ t with place := SetTable.insertAt t.place (below t.place j) j, dummies := #[] } : SetTable).fits (SetTable.insertAt es (below t.place j) (h, x)).size = true := by
    unfold SetTable.fits SetTable.fill
    rw [hsz, hsz]
    simp only [S.size, S.mask, beq_self_eq_true, Bool.true_and, decide_eq_true_eq]
    simp
    omega
  refine ⟨{ t with place := SetTable.insertAt t.place (below t.place j) j, dummies := #[] }, below t.place j, ?_, ⟨S.mask, rfl, (hsz _ _ _).trans (by rw [S.size]), by omega⟩, rfl, rfl, rfl, rfl⟩
  unfold SetTable.orStandIn
  rw [hfit]
  rfl
end Mine
end

section
open PySem PySem.W PySem.Calls PySem.Spec PyProof.Rows
set_option maxRecDepth 100000
set_option maxHeartbeats 1000000
namespace Mine
def byText (w : World) : Bool := w.params.followText "set-order"

inductive Ents (w : World) : List (Int × Value) → List Str → Prop
  | nil : Ents w [] []
  | cons {es : List (Int × Value)} {l : List Str} (x : Str) (t : Tok) (r : Ents w es l) : Ents w ((hashStr w x, .str x t) :: es) (x :: l)

/-- a set object of texts: l in the table's order -/
def SSet (w : World) (cls : String) (o : Obj) (l : List Str) : Prop :=
  o.cls = .type cls ∧ o.dict = none ∧ o.slots = #[] ∧ ∃ es ep t, o.data = .set es ep t ∧ Ents w es.toList l ∧ l.Nodup ∧ Small t l.length ∧ (byText w = false → t.led = true) ∧ (l ≠ [] → t.plain = false)

section
variable {w : World}
theorem Ents.len {es : List (Int × Value)} {l : List Str} (h : Ents w es l) : es.length = l.length := by
  induction h with
  | nil => rfl
  | cons x t r ih => simp [ih]
theorem Ents.append {a b : List (Int × Value)} {l k : List Str} (h : Ents w a l) (h' : Ents w b k) : Ents w (a ++ b) (l ++ k) := by
  induction h with
  | nil => exact h'
  | cons x t r ih => exact .cons x t ih
theorem Ents.split {es : List (Int × Value)} {l : List Str} (h : Ents w es l) : ∀ p, Ents w (es.take p) (l.take p) ∧ Ents w (es.drop p) (l.drop p) := by
  induction h with
  | nil => intro p; simp; exact .nil
  | cons x t r ih =>
    intro p
    cases p with
    | zero => exact ⟨.nil, .cons x t r⟩
    | succ p => exact ⟨.cons x t (ih p).1, (ih p).2⟩
theorem Ents.elems {prog : Program} {es : List (Int × Value)} {l : List Str} (h : Ents w es l) : ElemsOf (strKind prog w) es := by
  induction h with
  | nil => intro e he; cases he
  | cons x t r ih =>
    intro e he
    rcases List.mem_cons.mp he with rfl | he
    · exact ⟨⟨x, by show (x == x) = true; simp, rfl⟩, rfl⟩
    · exact ih e he
theorem Ents.find {prog : Program} {es : List (Int × Value)} {l : List Str} (h : Ents w es l) (x : Str) : es.findIdx? (fun e => (strKind prog w).is x e.2) = l.findIdx? (fun y => y == x) := by
  induction h with
  | nil => rfl
  | cons y t r ih =>
    rw [List.findIdx?_cons, List.findIdx?_cons, ih]
    rfl
theorem Ents.get {es : List (Int × Value)} {l : List Str} (h : Ents w es l) : ∀ i : Nat, es[i]? = (match l[i]? with | some x => (match es[i]? with | some e => some (hashStr w x, e.2) | none => none) | none => none) ∧ ∀ x, l[i]? = some x → ∃ t, es[i]? = some (hashStr w x, .str x t) := by
  induction h with
  | nil => intro i; simp
  | cons y t r ih =>
    intro i
    cases i with
    | zero => simp
    | succ i => simpa using ih i

theorem ssize {cls : String} {o : Obj} {l : List Str} {es : Array (Int × Value)} {ep : Nat} {t : SetTable} (hd : o.data = .set es ep t) (S : SSet w cls o l) : Ents w es.toList l ∧ l.Nodup ∧ Small t l.length ∧ es.size = l.length ∧ t.fits es.size = true ∧ (byText w = false → t.led = true) ∧ (l ≠ [] → t.plain = false) := by
  obtain ⟨_, _, _, es', ep', t', hd', he, hn, sm, h1, h2⟩ := S
  rw [hd] at hd'
  cases hd'
  have hz : es.size = l.length := by rw [← Array.length_toList, he.len]
  refine ⟨he, hn, sm, hz, ?_, h1, h2⟩
  unfold SetTable.fits SetTable.fill
  rw [sm.size, sm.mask, sm.dum, hz]
  have := sm.le
  simp
  omega

variable {prog : Program} {A : Around} {E : Value → Shared → Prop} {s : Shared}

theorem new_sset {cls : String} {Q : Value → Shared → Prop}
    (h : ∀ o, SSet w cls o [] → Q (.ref s.heap.objs.size) { s with heap := s.heap.push o }) :
    wpAny (model prog w) A (newSet (.type cls)) Q E s := by
  unfold newSet setsByText
  refine wpAny_bind (wpAny_bind (wpAny_askSetting (wpAny_pure ?_)))
  dsimp only
  simp only [newObj]
  refine wpAny_bind (wpAny_alloc (wpAny_pure (h _ ⟨rfl, rfl, rfl, #[], 0, _, rfl, .nil, List.nodup_nil, ⟨rfl, rfl, rfl, by decide⟩, fun hb => ?_, fun h => absurd rfl h⟩)))
  show (!w.params.followText "set-order") = true
  unfold byText at hb
  rw [hb]; rfl

theorem add_sset {cls : String} {a : Addr} {o : Obj} {l : List Str} {x : Str} {tk : Tok} {Q : Bool → Shared → Prop} (ho : s.heap.get? a = some o) (S : SSet w cls o l) (hle : l.length ≤ 3 ∨ x ∈ l)
    (h : ∀ o' l' b h', SSet w cls o' l' → (∀ y, y ∈ l' ↔ y = x ∨ y ∈ l) → l'.length ≤ l.length + 1 → h'.get? a = some o' → Heap.SameBut a s.heap h' → Q b { s with heap := h' }) :
    wpAny (model prog w) A (setAddHashed a (.str x tk) (hashStr w x)) Q E s := by
  have S0 := S
  obtain ⟨hc, hdc, hsl, es, ep, t, hd, _⟩ := S0
  obtain ⟨he, hnd, sm, hz, hf, hled, hpl⟩ := ssize hd S
  have hel : ElemsOf (strKind prog w) es.toList := he.elems
  have hkey : (strKind prog w).is x (.str x tk) = true := by show (x == x) = true; simp
  have hb : es.size < scanBound := by rw [hz]; have := sm.le; unfold scanBound; omega
  unfold setAddHashed setAddHashedIn
  refine wpAny_holding (wpAny_bind (wpAny_setState_of ho hd hf ?_))
  dsimp only
  rw [byScan_of rfl hb hel]
  simp only [↓reduceIte]
  unfold setAddByScan
  refine wpAny_bind ?_
  refine wpAny_bind (wpAny_rule ?_)
  refine wpAny_bind (wpAny_setScan_of hkey ho hd hf hel ?_)
  rw [he.find]
  cases hr : List.findIdx? (fun y => y == x) l with
  | some j =>
    dsimp only
    obtain ⟨hj, hpj, _⟩ := List.findIdx?_eq_some_iff_getElem.mp hr
    have hx : x ∈ l := by
      have : l[j] = x := by simpa using hpj
      rw [← this]; exact List.getElem_mem hj
    refine wpAny_pure (wpAny_pure ?_)
    exact h o l _ s.heap S (fun y => ⟨.inr, fun q => q.elim (fun e => e ▸ hx) id⟩) (by omega) ho (Heap.SameBut.refl a s.heap)
  | none =>
    dsimp only
    have hx : x ∉ l := fun hm => by
      have := List.findIdx?_eq_none_iff.mp hr x hm
      simp at this
    have hl3 : l.length ≤ 3 := hle.resolve_right hx
    obtain ⟨t', p, e, sm', e1, e2, e3, e4⟩ := lay_small (t := t) (es := es) (by rw [hz]; exact sm) (by omega) (hashStr w x) (.str x tk)
    rw [e]
    dsimp only
    have full : ∀ T2 : SetTable, Small T2 (es.size + 1) → (!false && T2.tooFull) = false := fun T2 q => by
      unfold SetTable.tooFull SetTable.fill
      rw [q.mask, q.dum, q.size]
      simp
      omega
    have es1 : Ents w (SetTable.insertAt es p (hashStr w x, .str x tk)).toList (l.take p ++ x :: l.drop p) := by
      rw [SetTable.toList_insertAt]
      exact (he.split p).1.append (.cons x tk (he.split p).2)
    have pm : List.Perm (l.take p ++ x :: l.drop p) (x :: l) := by
      refine List.perm_middle.trans ?_
      rw [List.take_append_drop]
    have len1 : (l.take p ++ x :: l.drop p).length = es.size + 1 := by rw [pm.length_eq, List.length_cons, hz]
    have isz : (SetTable.insertAt es p (hashStr w x, .str x tk)).size ≤ sizeLine := by
      rw [← Array.length_toList, es1.len, len1, sizeLine_eq, hz]; omega
    have done : ∀ T2 : SetTable, T2.plain = false → Small T2 (es.size + 1) → T2.led = t.led → Q true { s with heap := s.heap.update a (Obj.putSet (SetTable.insertAt es p (hashStr w x, .str x tk)) T2) } := fun T2 q1 q2 q3 => by
      have hg : (s.heap.update a (Obj.putSet (SetTable.insertAt es p (hashStr w x, .str x tk)) T2)).get? a = some { o with data := .set (SetTable.insertAt es p (hashStr w x, .str x tk)) (ep + 1) T2 } := by
        have := Heap.get?_update_self (Obj.putSet (SetTable.insertAt es p (hashStr w x, .str x tk)) T2) ho (by rw [putSet_of _ T2 hd]; rfl)
        rw [putSet_of _ T2 hd] at this; exact this
      refine h { o with data := .set (SetTable.insertAt es p (hashStr w x, .str x tk)) (ep + 1) T2 } (l.take p ++ x :: l.drop p) _ _ ⟨hc, hdc, hsl, _, _, _, rfl, es1, pm.nodup_iff.mpr (List.nodup_cons.mpr ⟨hx, hnd⟩), by rw [len1]; exact q2, fun hb => q3.trans (hled hb), fun _ => q1⟩ (fun y => by rw [pm.mem_iff, List.mem_cons]) (by rw [len1, hz]; exact Nat.le_refl _) hg (Heap.SameBut.update ..)
    refine wpAny_bind (wpAny_pure ?_)
    split
    · rename_i hp
      refine wpAny_bind ?_
      rw [hashByValue_scannable 8 rfl]
      refine wpAny_pure ?_
      simp only [plainKind, Bool.false_eq_true, if_false]
      refine wpAny_bind (wpAny_storeSet_of ho hd ?_ isz)
      have sm2 : Small { t' with plain := false } (es.size + 1) := ⟨sm'.mask, sm'.dum, sm'.size, sm'.le⟩
      rw [if_neg (by rw [full _ sm2]; exact Bool.false_ne_true)]
      exact wpAny_pure (wpAny_pure (done _ rfl sm2 e1))
    · rename_i hp
      have hp' : t'.plain = false := by simpa using hp
      refine wpAny_bind (wpAny_pure ?_)
      simp only [if_true]
      refine wpAny_bind (wpAny_storeSet_of ho hd ?_ isz)
      rw [if_neg (by rw [full _ sm']; exact Bool.false_ne_true)]
      exact wpAny_pure (wpAny_pure (done _ hp' sm' e1))
end
end Mine
end

section
open PySem PySem.W PySem.Calls PySem.Spec PyProof.Rows
set_option maxRecDepth 100000
set_option maxHeartbeats 1000000
namespace Mine
section
variable {prog : Program} {w : World} {A : Around} {E : Value → Shared → Prop} {R : Result → Shared → Prop} {I : Addr} {fp wr : List Addr} {n : Nat} {P : Nat → Value → Prop} {St : Nat → Heap → Prop}

theorem upd_loop {cls : String} (W : Walks prog w A.in1 I fp wr n P St) (a : Addr) (ha : a ∉ fp) (vals : List Str) (hn : vals.length = n) (hval : ∀ i v, P i v → ∃ t, v = .str (vals.getD i Str.empty) t) (l0 : List Str) (h4 : l0.length + n ≤ 4) :
    ∀ (k i : Nat) (s : Shared) (o : Obj) (l : List Str), n - i = k → i ≤ n → St i s.heap → s.heap.get? a = some o → SSet w cls o l → (∀ y, y ∈ l ↔ y ∈ l0 ∨ y ∈ vals.take i) → l.length ≤ l0.length + i →
      (∀ h' tk o' l', (∀ b ob, b ∉ a :: wr → s.heap.get? b = some ob → h'.get? b = some ob) → h'.get? a = some o' → SSet w cls o' l' → (∀ y, y ∈ l' ↔ y ∈ l0 ∨ y ∈ vals) → l'.length ≤ l0.length + n → R (.ok (.ret .none)) { s with heap := h', toks := tk }) →
      codeAny (model prog w) A (.builtin "set.update.loop" ⟨[.ref a, .ref I], []⟩) R s := by
  have haw : a ∉ wr := fun h => ha (W.sub _ h)
  intro k
  induction k with
  | zero =>
    intro i s o l hk hi hst ho hS hl hlen hR
    have hin : i = n := by omega
    subst hin
    refine codeAny_builtin F.entry_set_update_loop ?_
    rw [Around.under_plainId F.plain_set_update_loop _]
    show wpAny _ A.in1 (pyNext (.ref I) >>= _) _ _ s
    refine wpAny_bind (W.done s _ _ hst fun h' tk hm => ?_)
    show wpAny _ A.in1 (ret Value.none) _ _ _
    refine wpAny_pure (hR h' tk o l (fun b ob hb e => hm b ob (fun q => hb (.tail _ q)) e) (hm a o haw ho) hS (fun y => ?_) hlen)
    rw [hl y, ← hn, List.take_length]
  | succ k ih =>
    intro i s o l hk hi hst ho hS hl hlen hR
    have hlt : i < n := by omega
    refine codeAny_builtin F.entry_set_update_loop ?_
    rw [Around.under_plainId F.plain_set_update_loop _]
    show wpAny _ A.in1 (pyNext (.ref I) >>= _) _ _ s
    refine wpAny_bind (W.item i s _ _ hlt hst fun v h' tk hP hst' hm => ?_)
    obtain ⟨t, rfl⟩ := hval i v hP
    have ho' := hm a o haw ho
    show wpAny _ A.in1 (holding [Value.str (vals.getD i Str.empty) t] (setAdd a (.str (vals.getD i Str.empty) t)) >>= _) _ _ _
    refine wpAny_bind (wpAny_holding ?_)
    unfold setAdd
    refine wpAny_holding ?_
    refine wpAny_bind ((strKind prog w).pyHash (k := vals.getD i Str.empty) (by show (_ == _) = true; simp) ?_)
    refine add_sset (s := { s with heap := h', toks := tk + 1 }) ho' hS (.inl (by omega)) fun o2 l2 b h2 hS2 hl2 hlen2 ho2 hsb => ?_
    refine wpAny_pure ⟨plainId_quiet F.plain_set_update_loop _, ?_⟩
    have hst2 : St (i + 1) h2 := W.frame _ _ _ hst' fun c hc oc e => by
      rw [hsb.2 c (fun q => ha (q ▸ hc))]; exact e
    have hmem : ∀ y, y ∈ l2 ↔ y ∈ l0 ∨ y ∈ vals.take (i + 1) := fun y => by
      rw [hl2 y, hl y, List.take_add_one]
      have hg : vals[i]? = some (vals.getD i Str.empty) := by
        rw [List.getD_eq_getElem?_getD]
        have : i < vals.length := by omega
        rw [List.getElem?_eq_getElem this]
        rfl
      rw [hg]
      simp only [Option.toList_some, List.mem_append, List.mem_singleton]
      constructor
      · rintro (h | h | h)
        · exact .inr (.inr h)
        · exact .inl h
        · exact .inr (.inl h)
      · rintro (h | h | h)
        · exact .inr (.inl h)
        · exact .inr (.inr h)
        · exact .inl h
    refine ih (i + 1) { s with heap := h2, toks := tk + 1 } o2 l2 (by omega) hlt hst2 ho2 hS2 hmem (by omega) fun h3 tk3 o3 l3 hk3 ho3 hS3 hl3 hlen3 => ?_
    refine hR h3 tk3 o3 l3 (fun c oc hc e => hk3 c oc hc ?_) ho3 hS3 hl3 hlen3
    rw [hsb.2 c (fun q => hc (q ▸ List.mem_cons_self))]
    exact hm c oc (fun q => hc (.tail _ q)) e
end
end Mine
end

section
open PySem PySem.W PySem.Calls PySem.Spec PyProof.Rows
set_option maxRecDepth 100000
set_option maxHeartbeats 4000000
namespace Mine
theorem sub_tuple_set : isSubtype (.type "tuple") (.type "set") = pure false := by rw [isSubtype_type]; kernel_rfl
theorem sub_tuple_frozenset : isSubtype (.type "tuple") (.type "frozenset") = pure false := by rw [isSubtype_type]; kernel_rfl
theorem strs_at : ∀ {vs : List Value} {ss : List Str}, StrsAre vs ss → ∀ (i : Nat) (v : Value), vs[i]? = some v → ∃ t, v = .str (ss.getD i Str.empty) t
  | _, _, .nil, i, v, h => by simp at h
  | _, _, .cons x t r, 0, v, h => by simp at h; exact ⟨t, by rw [← h]; rfl⟩
  | _, _, .cons x t r, i + 1, v, h => by
    simp only [List.getElem?_cons_succ] at h
    obtain ⟨t', e⟩ := strs_at r i v h
    exact ⟨t', by rw [e]; rfl⟩
theorem strs_len : ∀ {vs : List Value} {ss : List Str}, StrsAre vs ss → vs.length = ss.length
  | _, _, .nil => rfl
  | _, _, .cons x t r => by simp [strs_len r]
section
variable {prog : Program} {w : World} {A : Around} {E : Value → Shared → Prop} {s : Shared}
theorem update_list {cls fid : String} {a l : Addr} {vs : List Value} {ss : List Str} {o : Obj} {l0 : List Str} {Q : Unit → Shared → Prop} (hh : A.handled = none) (hl : s.heap.IsList l vs.toArray) (hv : StrsAre vs ss)
    (ho : s.heap.get? a = some o) (S : SSet w cls o l0) (h4 : l0.length + ss.length ≤ 4) (hne : l ≠ a)
    (h : ∀ h' tk o' l', (∀ b ob, b ≠ a → s.heap.get? b = some ob → h'.get? b = some ob) → h'.get? a = some o' → SSet w cls o' l' → (∀ y, y ∈ l' ↔ y ∈ l0 ∨ y ∈ ss) → l'.length ≤ l0.length + ss.length → Q () { s with heap := h', toks := tk }) :
    wpAny (model prog w) A (Builtin.Frozenset.updateFrom fid a (.ref l)) Q E s := by
  have hlt : l < s.heap.objs.size := by obtain ⟨ol, hol, _⟩ := hl; exact Heap.lt_size hol
  have hat : a < s.heap.objs.size := Heap.lt_size ho
  have hl0 := hl
  obtain ⟨⟨olc, old, olt, osl⟩, hol, hc, n, hdd⟩ := hl0
  simp only at hc hdd
  subst hc; subst hdd
  have hT : s.TypeIs (.ref l) "list" := ⟨_, hol, rfl⟩
  have hsls := F.sub_list_set
  have hslf := F.sub_list_frozenset
  have hnd : (Value.type "list" == Value.type "dict") = false := by decide
  unfold Builtin.Frozenset.updateFrom Builtin.Frozenset.isAnySet
  generalize hPI : pyIter = PI
  wp_walk
  subst hPI
  refine wpAny_pyIter_list hl ?_
  refine wpAny_bind (wpAny_runValue ?_)
  have hneI : l ≠ s.heap.objs.size := Nat.ne_of_lt hlt
  have W := Walks.list (prog := prog) (w := w) (A := A.in1) (by simp [hh]) s.heap.objs.size l hneI vs.toArray
  have hfp : a ∉ [s.heap.objs.size, l] := by
    simp only [List.mem_cons, List.not_mem_nil, or_false, not_or]
    exact ⟨Nat.ne_of_lt hat, fun e => hne e.symm⟩
  refine upd_loop (cls := cls) W a hfp ss (by rw [List.size_toArray, strs_len hv]) (fun i v hP => strs_at hv i v (by simpa using hP)) l0 (by rw [List.size_toArray, strs_len hv]; exact h4) _ 0 _ o l0 rfl (Nat.zero_le _)
    ⟨⟨_, Heap.get?_push_size _ rfl, rfl, rfl⟩, hl.push _⟩ (Heap.get?_push_of_some _ ho) S (fun y => by simp) (by omega) fun h' tk o' l' hk ho' S' hm hlen => ?_
  refine wpAny_pure ?_
  refine h h' tk o' l' (fun b ob hb e => hk b ob ?_ (Heap.get?_push_of_some _ e)) ho' S' hm (by rw [List.size_toArray, strs_len hv] at hlen; exact hlen)
  intro hm
  rcases List.mem_cons.mp hm with q | q
  · exact hb q
  · rw [List.mem_singleton.mp q] at e
    exact absurd (Heap.lt_size e) (Nat.lt_irrefl _)
end
end Mine
end

section
open PySem PySem.W PySem.Calls PySem.Spec PyProof.Rows
set_option maxRecDepth 100000
set_option maxHeartbeats 4000000
namespace Mine
section
variable {prog : Program} {w : World} {A : Around} {E : Value → Shared → Prop} {s : Shared}

theorem Ents.perm {es es' : List (Int × Value)} (p : List.Perm es es') : ∀ {l : List Str}, Ents w es l → ∃ l', Ents w es' l' ∧ List.Perm l l' := by
  induction p with
  | nil => intro l h; exact ⟨l, h, .rfl⟩
  | cons x _ ih =>
    intro l h
    cases h with
    | cons y t r =>
      obtain ⟨l', h', q⟩ := ih r
      exact ⟨y :: l', .cons y t h', .cons y q⟩
  | swap x y r =>
    intro l h
    cases h with
    | cons a t r' =>
      cases r' with
      | cons b u r'' => exact ⟨b :: a :: _, .cons b u (.cons a t r''), .swap b a _⟩
  | trans _ _ ih1 ih2 =>
    intro l h
    obtain ⟨l1, h1, q1⟩ := ih1 h
    obtain ⟨l2, h2, q2⟩ := ih2 h1
    exact ⟨l2, h2, q1.trans q2⟩

theorem erase_perm {α : Type} (l : List α) (i : Nat) (h : i < l.length) : List.Perm (l[i] :: l.eraseIdx i) l := by
  rw [List.eraseIdx_eq_take_drop_succ]
  refine List.perm_middle.symm.trans ?_
  rw [← List.drop_eq_getElem_cons h, List.take_append_drop]
theorem pick_perm {α : Type} (next : Nat → Nat) : ∀ (fuel k : Nat) (left : List α) (out : Array α), left.length = fuel → List.Perm (pickOrder.go next fuel k left out).toList (out.toList ++ left) := by
  intro fuel
  induction fuel with
  | zero =>
    intro k left out h
    have : left = [] := List.length_eq_zero_iff.mp h
    subst this
    simp [pickOrder.go]
  | succ n ih =>
    intro k left out h
    have hlt : next k % left.length < left.length := Nat.mod_lt _ (by omega)
    unfold pickOrder.go
    rw [List.getElem?_eq_getElem hlt]
    dsimp only
    refine (ih (k + 1) _ _ (by rw [List.length_eraseIdx]; rw [if_pos hlt, h]; rfl)).trans ?_
    rw [Array.toList_push, List.append_assoc]
    refine List.Perm.append_left _ ?_
    exact erase_perm left _ hlt
theorem pickOrder_perm {α : Type} (next : Nat → Nat) (xs : Array α) : List.Perm (pickOrder next xs).toList xs.toList := by
  have := pick_perm next xs.size 0 xs.toList #[] (by simp)
  simpa [pickOrder] using this

theorem wpAny_choose {M : Model} {A : Around} {E : Value → Shared → Prop} {s : Shared} {src : Source} {n : Nat} {Q : Nat → Shared → Prop} (hn : n ≠ 0) (h : ∀ i dr, i < n → Q i { s with drawn := dr }) : wpAny M A (choose src n) Q E s := fun Γ p _ => by
  show n ≠ 0 ∧ _
  exact ⟨hn, h _ _ (Nat.mod_lt _ (Nat.pos_of_ne_zero hn))⟩
theorem draw_any {α : Type} : ∀ (n : Nat) (xs : List α) (s : Shared) (Q : List α → Shared → Prop), xs.length = n → (∀ ys dr, List.Perm xs ys → Q ys { s with drawn := dr }) → wpAny (model prog w) A (drawOrder n xs) Q E s := by
  intro n
  induction n with
  | zero =>
    intro xs s Q h hq
    have : xs = [] := List.length_eq_zero_iff.mp h
    subst this
    unfold drawOrder
    exact wpAny_pure (hq [] s.drawn .rfl)
  | succ n ih =>
    intro xs s Q h hq
    cases xs with
    | nil => cases h
    | cons x xs =>
      unfold drawOrder
      refine wpAny_bind (wpAny_choose (by simp) fun i dr hi => ?_)
      rw [List.getElem?_eq_getElem hi]
      dsimp only
      refine wpAny_bind (ih _ _ _ (by rw [List.length_eraseIdx, if_pos hi, h]; rfl) fun ys dr' p => ?_)
      exact wpAny_pure (hq _ dr' ((erase_perm _ i hi).symm.trans (.cons _ p)))

theorem walk_any {cls : String} {a : Addr} {o : Obj} {l : List Str} {Q : Array (Int × Value) → Shared → Prop} (ho : s.heap.get? a = some o) (S : SSet w cls o l)
    (h : ∀ es' l' dr, Ents w es'.toList l' → List.Perm l l' → Q es' { s with drawn := dr }) : wpAny (model prog w) A (setWalk a) Q E s := by
  have S0 := S
  obtain ⟨_, _, _, es, ep, t, hd, _⟩ := S0
  obtain ⟨he, hnd, sm, hz, hf, hled, hpl⟩ := ssize hd S
  unfold setWalk
  refine wpAny_bind (wpAny_setState_of ho hd hf ?_)
  dsimp only
  unfold setsByText
  refine wpAny_bind (wpAny_bind (wpAny_askSetting (wpAny_pure ?_)))
  show wpAny _ _ (if byText w = true then _ else _) _ _ _
  cases hb : byText w with
  | true =>
    simp only [if_true]
    refine wpAny_bind (wpAny_askSetting (wpAny_pure ?_))
    obtain ⟨l', e', p⟩ := Ents.perm (pickOrder_perm (w.params.setOrder a ep) es).symm he
    exact h _ l' s.drawn e' p
  | false =>
    simp only [Bool.false_eq_true, if_false]
    show wpAny _ _ (if (!t.plain && decide (es.size > 1)) = true then _ else _) _ _ _
    split
    · refine wpAny_bind (draw_any es.size es.toList s _ (by simp) fun ys dr p => ?_)
      obtain ⟨l', e', q⟩ := Ents.perm p he
      exact wpAny_pure (h ys.toArray l' dr (by simpa using e') q)
    · have hl := hled hb
      show wpAny _ _ (do (if (!t.led && decide (es.size > 1)) = true then unsupported "set:maker-not-led" else pure ()); return es) _ _ _
      rw [hl]
      simp only [Bool.not_true, Bool.false_and, Bool.false_eq_true, if_false]
      exact wpAny_bind (wpAny_pure (wpAny_pure (h es l s.drawn he .rfl)))
end
end Mine
end

section
open PySem PySem.W PySem.Calls PySem.Spec PyProof.Rows
set_option maxRecDepth 100000
set_option maxHeartbeats 4000000
namespace Mine
section
variable {prog : Program} {w : World} {A : Around} {E : Value → Shared → Prop} {s : Shared}

theorem Ents.noRef {es : List (Int × Value)} {l : List Str} (h : Ents w es l) : ∀ e ∈ es, ∃ x t, e.2 = Value.str x t ∧ e.1 = hashStr w x ∧ x ∈ l := by
  induction h with
  | nil => intro e he; cases he
  | cons x t r ih =>
    intro e he
    rcases List.mem_cons.mp he with rfl | he
    · exact ⟨x, t, rfl, rfl, .head _⟩
    · obtain ⟨y, u, e1, e2, e3⟩ := ih e he
      exact ⟨y, u, e1, e2, .tail _ e3⟩
theorem state_any {cls : String} {a : Addr} {o : Obj} {l : List Str} {Q : (Array (Int × Value) × Nat × SetTable) → Shared → Prop} (ho : s.heap.get? a = some o) (S : SSet w cls o l)
    (h : ∀ es ep t, o.data = .set es ep t → Q (es, ep, t) s) : wpAny (model prog w) A (setState a) Q E s := by
  have S0 := S
  obtain ⟨_, _, _, es, ep, t, hd, _⟩ := S0
  obtain ⟨he, hnd, sm, hz, hf, hled, hpl⟩ := ssize hd S
  exact wpAny_setState_of ho hd hf (h es ep t hd)
theorem quiet_any {sets : List Addr} {Q : Bool → Shared → Prop} (hs : ∀ a ∈ sets, ∃ cls o l, s.heap.get? a = some o ∧ SSet w cls o l) (h : Q true s) : wpAny (model prog w) A (setsQuiet sets) Q E s := by
  unfold setsQuiet
  refine wpAny_bind (wpAny_forIn_list _ (fun rest r s' => (∀ a ∈ rest, ∃ cls o l, s.heap.get? a = some o ∧ SSet w cls o l) ∧ r.1 = none ∧ s' = s) _ ?_ ?_ sets _ ⟨hs, rfl, rfl⟩)
  · rintro a rest r s' ⟨hr, hr1, rfl⟩
    obtain ⟨cls, o, l, ho, S⟩ := hr a (.head _)
    unfold setEntries
    refine wpAny_bind (wpAny_bind (state_any ho S fun es ep t hd => wpAny_pure ?_))
    obtain ⟨he, _⟩ := ssize hd S
    refine wpAny_bind ?_
    refine PySem.wpAny_forIn_array' _ (fun rest' r' s'' => (∀ e ∈ rest', ∃ x t, e.2 = Value.str x t) ∧ r'.1 = none ∧ s'' = s') _ ?_ ?_ es _ ⟨fun e hm => by obtain ⟨x, t, e1, _⟩ := he.noRef e (by simpa using hm); exact ⟨x, t, e1⟩, rfl, rfl⟩
    · rintro e rest' r' s'' ⟨h1, h2, rfl⟩
      obtain ⟨x, t, e1⟩ := h1 e (.head _)
      obtain ⟨hsh, v⟩ := e
      simp only at e1
      subst e1
      exact wpAny_pure ⟨fun e hm => h1 e (.tail _ hm), rfl, rfl⟩
    · rintro r' s'' ⟨_, h2, rfl⟩
      obtain ⟨r1, r2⟩ := r'
      simp only at h2
      subst h2
      exact wpAny_pure ⟨fun a hm => hr a (.tail _ hm), rfl, rfl⟩
  · rintro r s' ⟨_, h2, rfl⟩
    obtain ⟨r1, r2⟩ := r
    simp only at h2
    subst h2
    exact wpAny_pure h

theorem unseen_any {cls cls2 : String} {a f : Addr} {o ofi : Obj} {l l0 : List Str} {Q : Array (Int × Value) → Shared → Prop} (ho : s.heap.get? a = some o) (S : SSet w cls o l) (hof : s.heap.get? f = some ofi) (Sf : SSet w cls2 ofi l0) (hne : l0 ≠ [])
    (h : ∀ es' l' dr, Ents w es'.toList l' → List.Perm l l' → Q es' { s with drawn := dr }) : wpAny (model prog w) A (setWalkUnseen a [f] (some f)) Q E s := by
  have S0 := S
  obtain ⟨_, _, _, es, ep, t, hd, _⟩ := S0
  obtain ⟨he, hnd, sm, hz, hf, hled, hpl⟩ := ssize hd S
  unfold setWalkUnseen
  refine wpAny_bind (wpAny_setState_of ho hd hf ?_)
  dsimp only
  unfold setsByText
  refine wpAny_bind (wpAny_bind (wpAny_askSetting (wpAny_pure ?_)))
  show wpAny _ _ (if (byText w || (t.led && t.plain) || decide (es.size ≤ 1)) = true then _ else _) _ _ _
  split
  · exact walk_any ho S h
  · rename_i hc
    have hb : byText w = false := by
      cases q : byText w with
      | false => rfl
      | true => rw [q] at hc; simp at hc
    have hle := hled hb
    refine wpAny_bind (quiet_any (sets := [a, f]) (fun b hm => ?_) ?_)
    · rcases List.mem_cons.mp hm with rfl | hm
      · exact ⟨cls, o, l, ho, S⟩
      · rw [List.mem_singleton.mp hm]; exact ⟨cls2, ofi, l0, hof, Sf⟩
    · simp only [Bool.not_true, Bool.false_eq_true, if_false]
      refine wpAny_bind (wpAny_rule ?_)
      refine wpAny_bind (state_any hof Sf fun ef epf tf hdf => ?_)
      obtain ⟨_, _, _, _, _, _, hplf⟩ := ssize hdf Sf
      have hpf := hplf hne
      dsimp only
      rw [hle, hpf]
      simp only [Bool.not_true, Bool.and_false, Bool.false_and, Bool.or_self, Bool.false_eq_true, if_false]
      exact wpAny_pure (h es l s.drawn he .rfl)

theorem merge_any {cls cls2 : String} {fid : String} {a b : Addr} {o ob : Obj} {l0 lb : List Str} {Q : Unit → Shared → Prop} (ho : s.heap.get? a = some o) (S : SSet w cls o l0) (hob : s.heap.get? b = some ob) (Sb : SSet w cls2 ob lb) (hne : a ≠ b) (h4 : l0.length + lb.length ≤ 4)
    (h : ∀ h' dr o' l', Heap.SameBut a s.heap h' → h'.get? a = some o' → SSet w cls o' l' → (∀ y, y ∈ l' ↔ y ∈ l0 ∨ y ∈ lb) → l'.length ≤ l0.length + lb.length → Q () { s with heap := h', drawn := dr }) :
    wpAny (model prog w) A (Builtin.Frozenset.merge fid a b) Q E s := by
  have hne' : (a == b) = false := beq_eq_false_iff_ne.mpr hne
  unfold Builtin.Frozenset.merge
  unfold setEpoch
  refine wpAny_bind (wpAny_bind (state_any hob Sb fun es0 ep0 t0 hd0 => wpAny_pure ?_))
  unfold setMerge
  rw [hne']
  simp only [Bool.false_eq_true, if_false]
  refine wpAny_bind (state_any hob Sb fun eo epo to hdo => ?_)
  rw [hd0] at hdo
  cases hdo
  dsimp only
  obtain ⟨heo, hndo, smo, hzo, hfo, hledo, hplo⟩ := ssize hd0 Sb
  by_cases hemp : lb = []
  · subst hemp
    have : es0.isEmpty = true := by
      rw [Array.isEmpty_iff_size_eq_zero, hzo]; rfl
    rw [this]
    simp only [if_true]
    exact wpAny_pure (h s.heap s.drawn o l0 (Heap.SameBut.refl a s.heap) ho S (fun y => by simp) (by simp))
  · have hnemp : es0.isEmpty = false := by
      rw [Bool.eq_false_iff]
      intro q
      rw [Array.isEmpty_iff_size_eq_zero, hzo] at q
      exact hemp (List.length_eq_zero_iff.mp q)
    rw [hnemp]
    simp only [Bool.false_eq_true, if_false]
    unfold setRoomFor
    refine wpAny_bind (wpAny_bind (state_any ho S fun es ep t hd => ?_))
    obtain ⟨he, hnd, sm, hz, hf, hled, hpl⟩ := ssize hd S
    have hroom : t.roomFor es0.size = none := by
      unfold SetTable.roomFor SetTable.fill
      rw [sm.mask, sm.dum, sm.size, hzo]
      rw [if_neg]
      simp
      omega
    dsimp only
    rw [hroom]
    refine wpAny_pure ?_
    refine wpAny_bind (state_any ho S fun es' ep' t' hd' => ?_)
    rw [hd] at hd'
    cases hd'
    dsimp only
    by_cases h0 : l0 = []
    · subst h0
      have hroad : t.road t0 = .slotForSlot := by
        unfold SetTable.road SetTable.fill
        rw [sm.size, sm.dum, sm.mask, smo.mask, smo.dum]
        rfl
      rw [hroad]
      dsimp only
      refine wpAny_storeSet_of ho hd ?_ (by rw [hzo, sizeLine_eq]; have := smo.le; omega)
      have S0 := S
      obtain ⟨hc, hdc, hsl, _⟩ := S0
      have hg : (s.heap.update a (Obj.putSet es0 { t0 with finger := t.finger, led := t.led && t0.led, moves := t.moves, plain := t.plain && t0.plain })).get? a = some { o with data := .set es0 (ep + 1) { t0 with finger := t.finger, led := t.led && t0.led, moves := t.moves, plain := t.plain && t0.plain } } := by
        have := Heap.get?_update_self (Obj.putSet es0 { t0 with finger := t.finger, led := t.led && t0.led, moves := t.moves, plain := t.plain && t0.plain }) ho (by rw [putSet_of _ _ hd]; rfl)
        rw [putSet_of _ _ hd] at this; exact this
      exact h _ s.drawn { o with data := .set es0 (ep + 1) { t0 with finger := t.finger, led := t.led && t0.led, moves := t.moves, plain := t.plain && t0.plain } } lb (Heap.SameBut.update ..) hg ⟨hc, hdc, hsl, _, _, _, rfl, heo, hndo, ⟨smo.mask, smo.dum, smo.size, smo.le⟩, fun q => by show (t.led && t0.led) = true; rw [hled q, hledo q]; rfl, fun q => by show (t.plain && t0.plain) = false; rw [hplo q]; simp⟩ (fun y => by simp) (by simp)
    · have hroad : t.road t0 = .oneByOne := by
        unfold SetTable.road SetTable.fill
        rw [sm.size, sm.dum]
        have : l0.length ≠ 0 := fun q => h0 (List.length_eq_zero_iff.mp q)
        have e : ((l0.length + (#[] : Array Nat).size) != 0) = true := by
          rw [bne_iff_ne]; simpa using this
        rw [if_pos e]
      rw [hroad]
      dsimp only
      refine wpAny_bind (unseen_any hob Sb ho S h0 fun ew lw dr hew pw => ?_)
      have hlw : lw.length = lb.length := pw.length_eq.symm
      refine wpAny_bind (PySem.wpAny_forIn_array' _ (fun rest _ s' => ∃ h' o' l' rl, s' = { s with heap := h', drawn := dr } ∧ Heap.SameBut a s.heap h' ∧ h'.get? a = some o' ∧ SSet w cls o' l' ∧ Ents w rest rl ∧ (∀ y, (y ∈ l' ∨ y ∈ rl) ↔ y ∈ l0 ∨ y ∈ lb) ∧ l'.length + rl.length ≤ l0.length + lb.length) _ ?_ ?_ ew _
        ⟨s.heap, o, l0, lw, rfl, Heap.SameBut.refl a s.heap, ho, S, hew, fun y => by rw [pw.mem_iff], by omega⟩)
      · rintro e rest u s' ⟨h', o', l', rl, rfl, hsb, ho', S', hr, hm, hlen⟩
        cases hr with
        | cons x tx hr =>
          rename_i rl
          simp only [List.length_cons] at hlen
          refine wpAny_bind (wpAny_holding (add_sset (s := { s with heap := h', drawn := dr }) ho' S' (.inl (by omega)) fun o2 l2 bb h2 S2 hl2 hlen2 ho2 hsb2 => ?_))
          have hob2 : h2.get? b = some ob := by
            rw [hsb2.2 b (fun q => hne q.symm), hsb.2 b (fun q => hne q.symm)]; exact hob
          unfold Builtin.Frozenset.unchanged setEpoch
          refine wpAny_bind (wpAny_bind (wpAny_bind (state_any hob2 Sb fun e1 ep1 t1 hd1 => wpAny_pure ?_)))
          rw [hd0] at hd1
          cases hd1
          simp only [bne_self_eq_false, Bool.false_eq_true, if_false]
          refine wpAny_pure ?_
          refine wpAny_bind (state_any hob2 Sb fun e1 ep1 t1 hd1 => ?_)
          rw [hd0] at hd1
          cases hd1
          simp only [bne_self_eq_false, Bool.false_eq_true, if_false]
          refine wpAny_pure ⟨h2, o2, l2, rl, rfl, hsb.trans hsb2, ho2, S2, hr, fun y => ?_, by omega⟩
          rw [← hm y, hl2 y, List.mem_cons]
          constructor
          · rintro ((q | q) | q)
            · exact .inr (.inl q)
            · exact .inl q
            · exact .inr (.inr q)
          · rintro (q | q | q)
            · exact .inl (.inr q)
            · exact .inl (.inl q)
            · exact .inr q
      · rintro u s' ⟨h', o', l', rl, rfl, hsb, ho', S', hr, hm, hlen⟩
        cases hr
        exact wpAny_pure (h h' dr o' l' hsb ho' S' (fun y => by rw [← hm y]; simp) (by simpa using hlen))
end
end Mine
end

section
open PySem PySem.W PySem.Calls PySem.Spec PyProof.Rows
set_option maxRecDepth 100000
set_option maxHeartbeats 4000000
namespace Mine
theorem sub_fro_self : isSubtype (.type "frozenset") (.type "frozenset") = pure true := by rw [isSubtype_type]; kernel_rfl
theorem sub_fro_set : isSubtype (.type "frozenset") (.type "set") = pure false := by rw [isSubtype_type]; kernel_rfl
theorem sub_set_fro : isSubtype (.type "set") (.type "frozenset") = pure false := by rw [isSubtype_type]; kernel_rfl
theorem slot_fro_init : Slot "frozenset" "__init__" "object.__init__" :=
  .of (owner := "object") (n := "__init__") (by rw [typeLookup_type, builtinLookup_eq_fast]; kernel_rfl) (by decide +kernel) (by decide +kernel) (by decide +kernel)
    (by first | exact .inl (by decide +kernel) | exact .inr (by decide +kernel)) (by rw [isSubtype_type]; kernel_rfl)
theorem mro_fro : mroOf (.type "frozenset") = pure [.type "frozenset", .type "object"] := by rw [mroOf_type]; kernel_rfl
theorem lookup_fro_new : typeLookup (.type "frozenset") "__new__" = pure (some (.builtin "frozenset.__new__")) := by rw [typeLookup_type, builtinLookup_eq_fast]; kernel_rfl
theorem called_fro : TypeCalled "frozenset" "frozenset.__new__" "object.__init__" :=
  ⟨by decide +kernel, by decide +kernel, ⟨_, _, mro_fro⟩, madeBy_type mro_fro lookup_fro_new (by decide +kernel), by decide +kernel, by rw [isSubtype_type]; kernel_rfl, slot_fro_init⟩
theorem typeCall_fro_1 (a : Value) : checkTypeCall "frozenset" ⟨[a], []⟩ = pure () := by kernel_rfl
theorem newCall_fro_1 (a : Value) : checkBuiltinCall "frozenset.__new__" ⟨[.type "frozenset", a], []⟩ = pure () := by kernel_rfl
theorem typeCall_fro_0 : checkTypeCall "frozenset" ⟨[], []⟩ = pure () := by kernel_rfl
theorem newCall_fro_0 : checkBuiltinCall "frozenset.__new__" ⟨[.type "frozenset"], []⟩ = pure () := by kernel_rfl
theorem entry_fro_new : entryFor table "frozenset.__new__" = some Builtin.«frozenset.__new__» := entryFor_of_tree (by kernel_rfl)
theorem plain_fro_new : plainId "frozenset.__new__" = true := by decide +kernel
section
variable {prog : Program} {w : World} {A : Around} {E : Value → Shared → Prop} {s : Shared}

theorem SSet.live {cls : String} {o : Obj} {l : List Str} (S : SSet w cls o l) : o.isFreed = false := by
  obtain ⟨_, _, _, es, ep, t, hd, _⟩ := S
  obtain ⟨c, d, dt, sl⟩ := o
  simp only at hd
  subst hd
  rfl
theorem isany_set {a : Addr} {cls : String} {Q : Bool → Shared → Prop} (hT : s.TypeIs (.ref a) cls) (hc : cls = "set" ∨ cls = "frozenset") (h : Q true s) : wpAny (model prog w) A (Builtin.Frozenset.isAnySet (.ref a)) Q E s := by
  have h1 := sub_set_self
  have h2 := sub_fro_self
  have h3 := sub_fro_set
  have h4 := sub_set_fro
  unfold Builtin.Frozenset.isAnySet
  rcases hc with rfl | rfl
  · wp_walk
    exact h
  · wp_walk
    exact h
theorem update_set {cls cls2 : String} {fid : String} {a b : Addr} {o ob : Obj} {l0 lb : List Str} {Q : Unit → Shared → Prop} (ho : s.heap.get? a = some o) (S : SSet w cls o l0) (hob : s.heap.get? b = some ob) (Sb : SSet w cls2 ob lb) (hc2 : cls2 = "set" ∨ cls2 = "frozenset") (hne : a ≠ b) (h4 : l0.length + lb.length ≤ 4)
    (h : ∀ h' dr o' l', Heap.SameBut a s.heap h' → h'.get? a = some o' → SSet w cls o' l' → (∀ y, y ∈ l' ↔ y ∈ l0 ∨ y ∈ lb) → l'.length ≤ l0.length + lb.length → Q () { s with heap := h', drawn := dr }) :
    wpAny (model prog w) A (Builtin.Frozenset.updateFrom fid a (.ref b)) Q E s := by
  have hT : s.TypeIs (.ref b) cls2 := ⟨ob, hob, Sb.1⟩
  unfold Builtin.Frozenset.updateFrom
  refine wpAny_bind (isany_set hT hc2 ?_)
  simp only [if_true]
  unfold Builtin.Frozenset.addrOf
  refine wpAny_bind (wpAny_pure ?_)
  exact merge_any ho S hob Sb hne h4 h

theorem update_tup0 {cls fid : String} {a l : Addr} {o : Obj} {l0 : List Str} {Q : Unit → Shared → Prop} (hh : A.handled = none) (hl : s.heap.IsTuple l #[]) (ho : s.heap.get? a = some o) (S : SSet w cls o l0) (h4 : l0.length ≤ 4) (hne : l ≠ a)
    (h : ∀ h' tk o' l', (∀ b ob, b ≠ a → s.heap.get? b = some ob → h'.get? b = some ob) → h'.get? a = some o' → SSet w cls o' l' → (∀ y, y ∈ l' ↔ y ∈ l0) → l'.length ≤ l0.length → Q () { s with heap := h', toks := tk }) :
    wpAny (model prog w) A (Builtin.Frozenset.updateFrom fid a (.ref l)) Q E s := by
  have hlt : l < s.heap.objs.size := by obtain ⟨ol, hol, _⟩ := hl; exact Heap.lt_size hol
  have hat : a < s.heap.objs.size := Heap.lt_size ho
  have hl0 := hl
  obtain ⟨⟨olc, old, olt, osl⟩, hol, hc, n, hdd⟩ := hl0
  simp only at hc hdd
  subst hc; subst hdd
  have hT : s.TypeIs (.ref l) "tuple" := ⟨_, hol, rfl⟩
  have hsls := sub_tuple_set
  have hslf := sub_tuple_frozenset
  have hnd : (Value.type "tuple" == Value.type "dict") = false := by decide
  unfold Builtin.Frozenset.updateFrom Builtin.Frozenset.isAnySet
  generalize hPI : pyIter = PI
  wp_walk
  subst hPI
  refine wpAny_pyIter_tuple hl ?_
  refine wpAny_bind (wpAny_runValue ?_)
  have hneI : l ≠ s.heap.objs.size := Nat.ne_of_lt hlt
  have W := Walks.tuple (prog := prog) (w := w) (A := A.in1) (by simp [hh]) s.heap.objs.size l hneI #[]
  have hfp : a ∉ [s.heap.objs.size, l] := by
    simp only [List.mem_cons, List.not_mem_nil, or_false, not_or]
    exact ⟨Nat.ne_of_lt hat, fun e => hne e.symm⟩
  refine upd_loop (cls := cls) W a hfp [] rfl (fun i v hP => by simp at hP) l0 h4 _ 0 _ o l0 rfl (Nat.zero_le _)
    ⟨⟨_, Heap.get?_push_size _ rfl, rfl, rfl⟩, hl.push _⟩ (Heap.get?_push_of_some _ ho) S (fun y => by simp) (by omega) fun h' tk o' l' hk ho' S' hm hlen => ?_
  refine wpAny_pure ?_
  refine h h' tk o' l' (fun b ob hb e => hk b ob ?_ (Heap.get?_push_of_some _ e)) ho' S' (fun y => by rw [hm y]; simp) hlen
  intro hm
  rcases List.mem_cons.mp hm with q | q
  · exact hb q
  · rw [List.mem_singleton.mp q] at e
    exact absurd (Heap.lt_size e) (Nat.lt_irrefl _)

/-- frozenset(iterable): by whatever fills it -/
theorem fro_call {P : List Str → Prop} {v : Value} {T : String} {Q : Value → Shared → Prop} (hTv : s.TypeIs v T) (hTn : (Value.type T == Value.type "frozenset") = false)
    (hfill : ∀ o h1 (Q' : Unit → Shared → Prop), SSet w "frozenset" o [] → h1 = s.heap.push o → (∀ h' tk dr o' l', (∀ b ob, s.heap.get? b = some ob → h'.get? b = some ob) → h'.get? s.heap.objs.size = some o' → SSet w "frozenset" o' l' → P l' → Q' () { s with heap := h', toks := tk, drawn := dr }) → wpAny (model prog w) A.in1.in1 (Builtin.Frozenset.updateFrom "frozenset.__new__" s.heap.objs.size v) Q' E { s with heap := h1 })
    (h : ∀ h' tk dr o' l', (∀ b ob, s.heap.get? b = some ob → h'.get? b = some ob) → h'.get? s.heap.objs.size = some o' → SSet w "frozenset" o' l' → P l' → Q (.ref s.heap.objs.size) { s with heap := h', toks := tk, drawn := dr }) :
    wpAny (model prog w) A (call (.type "frozenset") [v]) Q E s := by
  refine callType_codes (Q₁ := fun obj s₁ => s₁.TypeIs obj "frozenset" ∧ Q obj s₁) called_fro (typeCall_fro_1 _) F.entry_object_init ?_ fun obj s₁ h₁ => ?_
  · refine codeAny_of_tree ?_
    show wpAny _ A.in1.in1 (do checkBuiltinCall "frozenset.__new__" ⟨[.type "frozenset", v], []⟩; again (.builtin "frozenset.__new__" ⟨[.type "frozenset", v], []⟩)) _ _ s
    refine wpAny_bind (wpAny_of_eq (newCall_fro_1 v) (wpAny_pure ⟨plainId_quiet plain_fro_new _, codeAny_builtin entry_fro_new ?_⟩))
    rw [Around.under_plainId plain_fro_new _]
    unfold Builtin.«frozenset.__new__» Builtin.Frozenset.newClass
    have h1 := sub_fro_self
    have h2 := slot_fro_init.lookup
    generalize hNF : Builtin.Frozenset.newFrom = NF
    wp_walk
    subst hNF
    unfold Builtin.Frozenset.newFrom
    refine wpAny_bind (new_sset (w := w) fun o S => ?_)
    refine wpAny_bind (wpAny_pure ?_)
    refine wpAny_bind (wpAny_holding ?_)
    refine hfill o _ _ S rfl fun h' tk dr o' l' hk ho' S' hp => ?_
    refine wpAny_pure ?_
    exact wpAny_pure ⟨⟨o', ho', S'.1⟩, h h' tk dr o' l' hk ho' S' hp⟩
  · exact ⟨h₁.1, F.args_object_init_2 obj _, object_init_meets called_fro.init.lookup called_fro.made (by decide) prog w A.in1 _ s₁ ⟨h₁.1, rfl, h₁.2⟩⟩

theorem fro_list {l : Addr} {vs : List Value} {ss : List Str} {Q : Value → Shared → Prop} (hh : A.handled = none) (hl : s.heap.IsList l vs.toArray) (hv : StrsAre vs ss) (h4 : ss.length ≤ 4)
    (h : ∀ h' tk o' l', (∀ b ob, s.heap.get? b = some ob → h'.get? b = some ob) → h'.get? s.heap.objs.size = some o' → SSet w "frozenset" o' l' → (∀ y, y ∈ l' ↔ y ∈ ss) → l'.length ≤ ss.length → ∀ dr, Q (.ref s.heap.objs.size) { s with heap := h', toks := tk, drawn := dr }) :
    wpAny (model prog w) A (call (.type "frozenset") [.ref l]) Q E s := by
  have hlt : l < s.heap.objs.size := by obtain ⟨ol, hol, _⟩ := hl; exact Heap.lt_size hol
  refine fro_call (P := fun l' => (∀ y, y ∈ l' ↔ y ∈ ss) ∧ l'.length ≤ ss.length) hl.typeIs (by decide) (fun o h1 Q' S e hq => ?_) fun h' tk dr o' l' hk ho' S' hp => h h' tk o' l' hk ho' S' hp.1 hp.2 dr
  subst e
  refine update_list (s := { s with heap := s.heap.push o }) (by simp [hh]) (hl.push o) hv (Heap.get?_push_size _ S.live) S (by simpa using h4) (Nat.ne_of_lt hlt) fun h' tk o' l' hk ho' S' hm hlen => ?_
  exact hq h' tk s.drawn o' l' (fun b ob e => hk b ob (Nat.ne_of_lt (Heap.lt_size e)) (Heap.get?_push_of_some _ e)) ho' S' ⟨fun y => by rw [hm y]; simp, by simpa using hlen⟩
theorem fro_tup0 {l : Addr} {Q : Value → Shared → Prop} (hh : A.handled = none) (hl : s.heap.IsTuple l #[])
    (h : ∀ h' tk o' l', (∀ b ob, s.heap.get? b = some ob → h'.get? b = some ob) → h'.get? s.heap.objs.size = some o' → SSet w "frozenset" o' l' → l' = [] → ∀ dr, Q (.ref s.heap.objs.size) { s with heap := h', toks := tk, drawn := dr }) :
    wpAny (model prog w) A (call (.type "frozenset") [.ref l]) Q E s := by
  have hlt : l < s.heap.objs.size := by obtain ⟨ol, hol, _⟩ := hl; exact Heap.lt_size hol
  have hT : s.TypeIs (.ref l) "tuple" := by obtain ⟨ol, hol, hc, _⟩ := hl; exact ⟨ol, hol, hc⟩
  refine fro_call (P := fun l' => l' = []) hT (by decide) (fun o h1 Q' S e hq => ?_) fun h' tk dr o' l' hk ho' S' hp => h h' tk o' l' hk ho' S' hp dr
  subst e
  refine update_tup0 (s := { s with heap := s.heap.push o }) (by simp [hh]) (by obtain ⟨ol, hol, r⟩ := hl; exact ⟨ol, Heap.get?_push_of_some _ hol, r⟩) (Heap.get?_push_size _ S.live) S (by simp) (Nat.ne_of_lt hlt) fun h' tk o' l' hk ho' S' hm hlen => ?_
  exact hq h' tk s.drawn o' l' (fun b ob e => hk b ob (Nat.ne_of_lt (Heap.lt_size e)) (Heap.get?_push_of_some _ e)) ho' S' (List.length_eq_zero_iff.mp (by simpa using hlen))
theorem fro_none {Q : Value → Shared → Prop}
    (h : ∀ o, SSet w "frozenset" o [] → Q (.ref s.heap.objs.size) { s with heap := s.heap.push o }) :
    wpAny (model prog w) A (call (.type "frozenset") []) Q E s := by
  refine callType_codes (Q₁ := fun obj s₁ => s₁.TypeIs obj "frozenset" ∧ Q obj s₁) called_fro typeCall_fro_0 F.entry_object_init ?_ fun obj s₁ h₁ => ?_
  · refine codeAny_of_tree ?_
    show wpAny _ A.in1.in1 (do checkBuiltinCall "frozenset.__new__" ⟨[.type "frozenset"], []⟩; again (.builtin "frozenset.__new__" ⟨[.type "frozenset"], []⟩)) _ _ s
    refine wpAny_bind (wpAny_of_eq newCall_fro_0 (wpAny_pure ⟨plainId_quiet plain_fro_new _, codeAny_builtin entry_fro_new ?_⟩))
    rw [Around.under_plainId plain_fro_new _]
    unfold Builtin.«frozenset.__new__» Builtin.Frozenset.newClass
    have h1 := sub_fro_self
    have h2 := slot_fro_init.lookup
    generalize hNS : newSet = NS
    wp_walk
    subst hNS
    refine new_sset (w := w) fun o S => ?_
    exact wpAny_pure ⟨⟨o, Heap.get?_push_size _ S.live, S.1⟩, h o S⟩
  · exact ⟨h₁.1, F.args_object_init_1 obj, object_init_meets called_fro.init.lookup called_fro.made (by decide) prog w A.in1 _ s₁ ⟨h₁.1, rfl, h₁.2⟩⟩
end
end Mine
end

section
open PySem PySem.W PySem.Calls PySem.Spec PyProof.Rows
set_option maxRecDepth 100000
set_option maxHeartbeats 4000000
namespace Mine
section
variable {prog : Program} {w : World} {A : Around} {E : Value → Shared → Prop} {s : Shared}

theorem used_any {cls : String} {a : Addr} {o : Obj} {l : List Str} {Q : Bool → Shared → Prop} (ho : s.heap.get? a = some o) (S : SSet w cls o l) (h : Q (l.length != 0) s) : wpAny (model prog w) A (setUsed a) Q E s := by
  unfold setUsed
  refine wpAny_bind (state_any ho S fun es ep t hd => ?_)
  obtain ⟨he, hnd, sm, hz, hf, hled, hpl⟩ := ssize hd S
  have e : (t.fill != 0) = (l.length != 0) := by
    unfold SetTable.fill
    rw [sm.size, sm.dum]; rfl
  exact wpAny_pure (by show Q (t.fill != 0) s; rw [e]; exact h)

theorem code_set_new (a : Value) {Q₁ : Value → Shared → Prop} (h : ∀ o, SSet w "set" o [] → Q₁ (.ref s.heap.objs.size) { s with heap := s.heap.push o }) :
    codeAny (model prog w) A (.call (.builtin "set.__new__") ⟨[.type "set", a], []⟩) (wants Q₁ E) s := by
  refine codeAny_of_tree ?_
  show wpAny _ A.in1 (do checkBuiltinCall "set.__new__" ⟨[.type "set", a], []⟩; again (.builtin "set.__new__" ⟨[.type "set", a], []⟩)) _ _ s
  refine wpAny_bind (wpAny_of_eq (F.newCall_set_1 a) (wpAny_pure ⟨plainId_quiet F.plain_set_new _, codeAny_builtin F.entry_set_new ?_⟩))
  rw [Around.under_plainId F.plain_set_new _]
  unfold Builtin.«set.__new__» Builtin.Frozenset.newClass
  have hsub := sub_set_self
  generalize hNS : newSet = NS
  wp_walk
  subst hNS
  exact new_sset (w := w) fun o S => wpAny_pure (h o S)

/-- set(iterable): by whatever fills it -/
theorem set_call {P : List Str → Prop} {v : Value} {Q : Value → Shared → Prop}
    (hfill : ∀ o h1 (Q' : Unit → Shared → Prop), SSet w "set" o [] → h1 = s.heap.push o → (∀ h' tk dr o' l', (∀ b ob, s.heap.get? b = some ob → h'.get? b = some ob) → h'.get? s.heap.objs.size = some o' → SSet w "set" o' l' → P l' → Q' () { s with heap := h', toks := tk, drawn := dr }) → wpAny (model prog w) A.in1.in1 (Builtin.Frozenset.updateFrom "set.__init__" s.heap.objs.size v) Q' E { s with heap := h1 })
    (h : ∀ h' tk dr o' l', (∀ b ob, s.heap.get? b = some ob → h'.get? b = some ob) → h'.get? s.heap.objs.size = some o' → SSet w "set" o' l' → P l' → Q (.ref s.heap.objs.size) { s with heap := h', toks := tk, drawn := dr }) :
    wpAny (model prog w) A (call (.type "set") [v]) Q E s := by
  obtain ⟨c, tl, hmro⟩ := F.called_set.mro
  have hmade := F.called_set.made
  have hsub := F.called_set.sub
  refine wpAny_call (codeAny_of_tree ?_)
  show wpAny _ _ (callAny (.type "set") _) _ _ _
  refine wpAny_pure ⟨Code.quiet_builtin _ (by decide +kernel), codeAny_builtin F.entry_type_call ?_⟩
  rw [Around.under_plain (weight_type_call_type "set" [v] []) rfl]
  have h1 := F.called_set.notType
  have h2 := F.called_set.canCreate
  have hct := F.typeCall_set_1 v
  repeat (any_goals (first | assumption | wp_step))
  refine codeAny_mono (code_set_new v (E := E) (Q₁ := fun obj s₁ => ∃ o, SSet w "set" o [] ∧ obj = .ref s.heap.objs.size ∧ s₁ = { s with heap := s.heap.push o }) fun o S => ⟨o, S, rfl, rfl⟩) fun r s₁ hr => ?_
  cases r with
  | error e => exact hr
  | ok fl =>
    cases fl with
    | ret obj =>
      obtain ⟨o, S, rfl, rfl⟩ := hr
      have hS : (s.heap.push o).get? s.heap.objs.size = some o := Heap.get?_push_size _ S.live
      have hT : Shared.TypeIs { s with heap := s.heap.push o } (.ref s.heap.objs.size) "set" := ⟨_, hS, S.1⟩
      have hli := F.called_set.init.lookup
      have hbi := F.called_set.init.bind (.ref s.heap.objs.size)
      repeat (any_goals (first | assumption | wp_step))
      refine codeAny_mono (codeAny_call_builtin (R := wants (fun r s₂ => r = .none ∧ ∃ h' tk dr o' l', s₂ = { s with heap := h', toks := tk, drawn := dr } ∧ (∀ b ob, s.heap.get? b = some ob → h'.get? b = some ob) ∧ h'.get? s.heap.objs.size = some o' ∧ SSet w "set" o' l' ∧ P l') E) F.called_set.init.plain F.entry_set_init (check_set_init_1 hT ?_)) fun r₂ s₂ hr₂ => ?_
      · unfold Builtin.«set.__init__» noKeywords
        generalize hUF : Builtin.Frozenset.updateFrom = UF
        generalize hSU : setUsed = SU
        wp_walk
        subst hUF
        subst hSU
        refine used_any (s := { s with heap := s.heap.push o }) hS S ?_
        simp only [List.length_nil, bne_self_eq_false, Bool.false_eq_true, if_false]
        refine wpAny_bind ?_
        refine hfill o _ _ S rfl fun h' tk dr o' l' hk ho' S' hp => ?_
        exact wpAny_pure ⟨rfl, h', tk, dr, o', l', rfl, hk, ho', S', hp⟩
      · cases r₂ with
        | error e => exact hr₂
        | ok fl₂ =>
          cases fl₂ with
          | ret r =>
            obtain ⟨rfl, h', tk, dr, o', l', rfl, hk, ho', S', hp⟩ := hr₂
            repeat (any_goals (first | assumption | wp_step))
            exact h h' tk dr o' l' hk ho' S' hp
          | _ => exact hr₂.elim
    | _ => exact hr.elim
end
end Mine
end

section
open PySem PySem.W PySem.Calls PySem.Spec PyProof.Rows
set_option maxRecDepth 100000
set_option maxHeartbeats 4000000
namespace Mine
theorem slot_fro_iter : Slot "frozenset" "__iter__" "frozenset.__iter__" :=
  .of (owner := "frozenset") (n := "__iter__") (by rw [typeLookup_type, builtinLookup_eq_fast]; kernel_rfl) (by decide +kernel) (by decide +kernel) (by decide +kernel)
    (by first | exact .inl (by decide +kernel) | exact .inr (by decide +kernel)) (by rw [isSubtype_type]; kernel_rfl)
theorem args_fro_iter_1 (a : Value) : argsOk "frozenset.__iter__" ⟨[a], []⟩ := by unfold argsOk; kernel_rfl
theorem entry_fro_iter : entryFor table "frozenset.__iter__" = some Builtin.«frozenset.__iter__» := entryFor_of_tree (by kernel_rfl)
theorem entry_set_iter : entryFor table "set.__iter__" = some Builtin.«frozenset.__iter__» := entryFor_alias (id' := "frozenset.__iter__") (by kernel_rfl) rfl (by decide +kernel) (by kernel_rfl)
theorem slot_siter_next : Slot "set_iterator" "__next__" "set_iterator.__next__" :=
  .of (owner := "set_iterator") (n := "__next__") (by rw [typeLookup_type, builtinLookup_eq_fast]; kernel_rfl) (by decide +kernel) (by decide +kernel) (by decide +kernel)
    (by first | exact .inl (by decide +kernel) | exact .inr (by decide +kernel)) (by rw [isSubtype_type]; kernel_rfl)
theorem args_siter_next_1 (a : Value) : argsOk "set_iterator.__next__" ⟨[a], []⟩ := by unfold argsOk; kernel_rfl
theorem entry_siter_next : entryFor table "set_iterator.__next__" = some Builtin.«set_iterator.__next__» := entryFor_of_tree (by kernel_rfl)

def itObj (first : Value) (i n ep : Nat) (a : Addr) : Obj := { cls := .type "set_iterator", data := .fields #[first, .int i 0, .ref a, .int n 0, .int ep 0] }

section
variable {prog : Program} {w : World} {A : Around} {E : Value → Shared → Prop} {s : Shared}

/-- the iterator I over the set o at a: it will hand on l' from i on; tp: the drawn places, if any -/
def SIter (w : World) (I a tp : Addr) (o : Obj) (l' : List Str) (i : Nat) (h : Heap) : Prop :=
  h.get? a = some o ∧ ∃ es ep t, o.data = .set es ep t ∧ t.fits es.size = true ∧ es.size = l'.length ∧
    ((∃ pl : List Nat, h.get? tp = some { cls := .type "tuple", data := .seq (pl.map fun (j : Nat) => rawInt j).toArray } ∧ h.get? I = some (itObj (.ref tp) i l'.length ep a) ∧ pl.length = l'.length ∧ ∀ (j : Nat) (x : Str), l'[j]? = some x → ∃ (q : Nat) (t : Tok), pl[j]? = some q ∧ es[q]? = some (hashStr w x, Value.str x t)) ∨
     (byText w = true ∧ h.get? I = some (itObj (.int 0 0) i l'.length ep a) ∧ Ents w (pickOrder (w.params.setOrder a ep) es).toList l') ∨
     (byText w = false ∧ l'.length ≤ 1 ∧ t.led = true ∧ t.place.size = l'.length ∧ Ents w es.toList l' ∧ ∃ sl : Nat, h.get? I = some (itObj (.int sl 0) i l'.length ep a) ∧ SetTable.below t.place sl = i))

theorem below_one (p : Nat) : SetTable.below #[p] 0 = 0 ∧ SetTable.below #[p] (p + 1) = 1 := by
  constructor
  · unfold SetTable.below
    simp [SetTable.below.go]
  · unfold SetTable.below
    simp [SetTable.below.go]
theorem below_nil (p : Nat) : SetTable.below #[] p = 0 := by
  unfold SetTable.below
  simp [SetTable.below.go]
theorem perm_range_get {n : Nat} {ys : List Nat} (p : List.Perm (List.range n) ys) : ∀ y ∈ ys, y < n := fun y hy => List.mem_range.mp (p.mem_iff.mpr hy)
theorem map_getD_perm {α : Type} (d : α) (l : List α) {ys : List Nat} (p : List.Perm (List.range l.length) ys) : List.Perm l (ys.map fun i => l.getD i d) := by
  have h1 : (List.range l.length).map (fun i => l.getD i d) = l := by
    apply List.ext_getElem (by simp)
    intro i h1 h2
    simp at h1
    simp [h1]
  have := p.map (fun i => l.getD i d)
  rw [h1] at this
  exact this

theorem siter_start {cls : String} {a : Addr} {o : Obj} {l : List Str} {Q : Value → Shared → Prop} (hc : cls = "set" ∨ cls = "frozenset") (ho : s.heap.get? a = some o) (S : SSet w cls o l)
    (h : ∀ I tp l' h' dr, SIter w I a tp o l' 0 h' → List.Perm l l' → (∀ b ob, s.heap.get? b = some ob → h'.get? b = some ob) → s.heap.objs.size ≤ I → (tp = a ∨ s.heap.objs.size ≤ tp) → tp ≠ I → I < h'.objs.size → tp < h'.objs.size → Q (.ref I) { s with heap := h', drawn := dr }) :
    wpAny (model prog w) A (pyIter (.ref a)) Q E s := by
  have hT : s.TypeIs (.ref a) cls := ⟨o, ho, S.1⟩
  have hat : a < s.heap.objs.size := Heap.lt_size ho
  have body : wpAny (model prog w) A.in1 (Builtin.«frozenset.__iter__» ⟨[.ref a], []⟩) (fun fin s' => ∃ v, fin = .done (.ret v) ∧ ∃ T' r, s'.TypeIs v T' ∧ typeLookup (.type T') "__next__" = pure (some r) ∧ Q v s') E s := by
    have S0 := S
    obtain ⟨_, _, _, es, ep, t, hd, _⟩ := S0
    obtain ⟨he, hnd, sm, hz, hf, hled, hpl⟩ := ssize hd S
    have nx : typeLookup (.type "set_iterator") "__next__" = pure (some (.builtin "set_iterator.__next__")) := slot_siter_next.lookup
    unfold Builtin.«frozenset.__iter__» Builtin.Frozenset.slot0 slotArgs
    simp only [List.isEmpty_nil, Bool.not_true, Bool.false_eq_true, ↓reduceIte, bind_assoc, List.length_nil, bne_self_eq_false]
    unfold Builtin.Frozenset.addrOf Builtin.Frozenset.sizeOf setEntries
    refine wpAny_bind (wpAny_pure ?_)
    try dsimp only
    refine wpAny_bind (wpAny_pure ?_)
    refine wpAny_bind (wpAny_bind (wpAny_bind (wpAny_setState_of ho hd hf (wpAny_pure (wpAny_pure ?_)))))
    dsimp only
    unfold setDrawn setsByText
    refine wpAny_bind (wpAny_bind (wpAny_setState_of ho hd hf ?_))
    dsimp only
    refine wpAny_bind (wpAny_bind (wpAny_askSetting (wpAny_pure (wpAny_pure ?_))))
    show wpAny _ _ (if (!byText w && (!t.plain && decide (es.size > 1))) = true then _ else _) _ _ _
    have fin : ∀ (first : Value) (s1 : Shared), s1.heap.get? a = some o → s1.gens = s.gens → s1.toks = s.toks → s1.os = s.os → (∀ b ob, s.heap.get? b = some ob → s1.heap.get? b = some ob) → s.heap.objs.size ≤ s1.heap.objs.size →
        (∀ h', (∀ b ob, s1.heap.get? b = some ob → h'.get? b = some ob) → h'.get? s1.heap.objs.size = some (itObj first 0 es.size ep a) → h'.objs.size = s1.heap.objs.size + 1 → Q (.ref s1.heap.objs.size) { s1 with heap := h' }) →
        wpAny (model prog w) A.in1 (do
          let ep ← setEpoch a
          let v ← newFields "set_iterator" [first, rawInt 0, .ref a, rawInt es.size, rawInt ep]
          ret v) (fun fin s' => ∃ v, fin = .done (.ret v) ∧ ∃ T' r, s'.TypeIs v T' ∧ typeLookup (.type T') "__next__" = pure (some r) ∧ Q v s') E s1 := by
      intro first s1 ho1 _ _ _ hk1 hs1 hq
      unfold setEpoch
      refine wpAny_bind (wpAny_bind (wpAny_setState_of ho1 hd hf (wpAny_pure ?_)))
      unfold newFields newObj
      dsimp only
      have hzz : ¬ ((#[first, rawInt 0, .ref a, rawInt es.size, rawInt ep] : Array Value).size > sizeLine + 2) := by rw [sizeLine_eq]; simp
      refine wpAny_bind (wpAny_ite ?_)
      rw [if_neg hzz]
      refine wpAny_bind (wpAny_alloc (wpAny_pure ?_))
      refine wpAny_pure ⟨_, rfl, "set_iterator", _, ⟨_, Heap.get?_push_size _ rfl, rfl⟩, nx, ?_⟩
      exact hq _ (fun b ob e => Heap.get?_push_of_some _ e) (Heap.get?_push_size _ rfl) (Heap.size_push ..)
    split
    · rename_i hc
      refine wpAny_bind (draw_any es.size (List.range es.size) s _ (by simp) fun ys dr p => ?_)
      have hyl : ys.length = l.length := by rw [← p.length_eq]; simp [hz]
      refine wpAny_bind (wpAny_newTuple ?_ (by rw [List.length_map, hyl]; rw [sizeLine_eq]; have := sm.le; omega))
      refine fin _ _ (Heap.get?_push_of_some _ ho) rfl rfl rfl (fun b ob e => Heap.get?_push_of_some _ e) (by show s.heap.objs.size ≤ _; rw [Heap.size_push]; exact Nat.le_succ _) fun h' hk hI hs => ?_
      have hsz : (s.heap.push { cls := .type "tuple", data := .seq (ys.map fun (i : Nat) => rawInt i).toArray }).objs.size = s.heap.objs.size + 1 := Heap.size_push ..
      rw [hz] at p
      have pm : List.Perm l (ys.map fun i => l.getD i default) := map_getD_perm _ l p
      refine h _ s.heap.objs.size (ys.map fun i => l.getD i default) h' dr ?_ pm (fun b ob e => hk b ob (Heap.get?_push_of_some _ e)) ?_ (.inr (Nat.le_refl _)) ?_ ?_ ?_
      · refine ⟨hk _ _ (Heap.get?_push_of_some _ ho), es, ep, t, hd, hf, by simp [hz, hyl], .inl ⟨ys, hk _ _ (Heap.get?_push_size _ rfl), ?_, by simp, ?_⟩⟩
        · have hI' := hI
          simp only [hz] at hI'
          simpa [hyl] using hI'
        · intro j x hx
          rw [List.getElem?_map] at hx
          cases hq : ys[j]? with
          | none => rw [hq] at hx; cases hx
          | some q =>
            rw [hq] at hx
            have hql : q < l.length := perm_range_get p q (List.mem_of_getElem? hq)
            obtain ⟨tk, htk⟩ := (he.get q).2 l[q] (List.getElem?_eq_getElem hql)
            refine ⟨q, tk, rfl, ?_⟩
            simp [List.getD_eq_getElem?_getD, List.getElem?_eq_getElem hql] at hx
            subst hx
            simpa using htk
      · show s.heap.objs.size ≤ Array.size _; rw [hsz]; exact Nat.le_succ _
      · show s.heap.objs.size ≠ Array.size _; rw [hsz]; exact Nat.ne_of_lt (Nat.lt_succ_self _)
      · rw [hs]; exact Nat.lt_succ_self _
      · rw [hs]; show s.heap.objs.size < Array.size _ + 1; rw [hsz]; exact Nat.lt_succ_of_lt (Nat.lt_succ_self _)
    · rename_i hc
      refine wpAny_bind (wpAny_pure ?_)
      refine fin _ _ ho rfl rfl rfl (fun b ob e => e) (Nat.le_refl _) fun h' hk hI hs => ?_
      cases hb : byText w with
      | true =>
        obtain ⟨l', e', p⟩ := Ents.perm (pickOrder_perm (w.params.setOrder a ep) es).symm he
        refine h _ a l' h' s.drawn ⟨hk _ _ ho, es, ep, t, hd, hf, by rw [hz, p.length_eq], .inr (.inl ⟨hb, ?_, e'⟩)⟩ p hk (Nat.le_refl _) (.inl rfl) (Nat.ne_of_lt hat) (by rw [hs]; exact Nat.lt_succ_self _) (by rw [hs]; exact Nat.lt_succ_of_lt hat)
        rw [hz, p.length_eq] at hI
        exact hI
      | false =>
        have hle : l.length ≤ 1 := by
          rw [hb] at hc
          cases hl : l with
          | nil => simp
          | cons x r =>
            rw [hpl (by rw [hl]; simp)] at hc
            simp at hc
            rw [hz, hl] at hc
            exact hc
        refine h _ a l h' s.drawn ⟨hk _ _ ho, es, ep, t, hd, hf, hz, .inr (.inr ⟨hb, hle, hled hb, sm.size, he, 0, ?_, ?_⟩)⟩ .rfl hk (Nat.le_refl _) (.inl rfl) (Nat.ne_of_lt hat) (by rw [hs]; exact Nat.lt_succ_self _) (by rw [hs]; exact Nat.lt_succ_of_lt hat)
        · rw [hz] at hI
          exact hI
        · rcases hpz : t.place with ⟨_ | ⟨p0, _ | ⟨p1, r⟩⟩⟩
          · exact below_nil 0
          · exact (below_one p0).1
          · have := sm.size
            rw [hpz] at this
            simp at this
            omega
  rcases hc with rfl | rfl
  · exact wpAny_pyIter_slot hT F.slot_set_iter (wpAny_call_entry F.slot_set_iter hT entry_set_iter body (F.args_set_iter_1 _))
  · exact wpAny_pyIter_slot hT slot_fro_iter (wpAny_call_entry slot_fro_iter hT entry_fro_iter body (args_fro_iter_1 _))
end
end Mine
end

section
open PySem PySem.W PySem.Calls PySem.Spec PyProof.Rows
set_option maxRecDepth 100000
set_option maxHeartbeats 4000000
namespace Mine
section
variable {prog : Program} {w : World} {A : Around} {E : Value → Shared → Prop} {s : Shared}

theorem slot_siter_iter : Slot "set_iterator" "__iter__" "set_iterator.__iter__" :=
  .of (owner := "set_iterator") (n := "__iter__") (by rw [typeLookup_type, builtinLookup_eq_fast]; kernel_rfl) (by decide +kernel) (by decide +kernel) (by decide +kernel)
    (by first | exact .inl (by decide +kernel) | exact .inr (by decide +kernel)) (by rw [isSubtype_type]; kernel_rfl)
theorem args_siter_iter_1 (a : Value) : argsOk "set_iterator.__iter__" ⟨[a], []⟩ := by unfold argsOk; kernel_rfl
theorem entry_siter_iter : entryFor table "set_iterator.__iter__" = some Builtin.«dict_keyiterator.__iter__» :=
  entryFor_alias (id' := "dict_keyiterator.__iter__") (by kernel_rfl) rfl (by decide +kernel) (by kernel_rfl)
theorem SIter.obj {I a tp : Addr} {o : Obj} {l' : List Str} {i : Nat} {h : Heap} (st : SIter w I a tp o l' i h) : ∃ first ep, h.get? I = some (itObj first i l'.length ep a) := by
  obtain ⟨ho, es, ep, t, hd, hf, hz, ⟨pl, htp, hI, _⟩ | ⟨_, hI, _⟩ | ⟨_, _, _, _, _, sl, hI, _⟩⟩ := st
  · exact ⟨_, _, hI⟩
  · exact ⟨_, _, hI⟩
  · exact ⟨_, _, hI⟩
theorem SIter.frame {I a tp : Addr} {o : Obj} {l' : List Str} {i : Nat} {h h' : Heap} (st : SIter w I a tp o l' i h) (hk : ∀ b ∈ [I, a, tp], ∀ ob, h.get? b = some ob → h'.get? b = some ob) : SIter w I a tp o l' i h' := by
  have kI := hk I (by simp)
  have ka := hk a (by simp)
  have kt := hk tp (by simp)
  obtain ⟨ho, es, ep, t, hd, hf, hz, ⟨pl, htp, hI, x⟩ | ⟨hb, hI, x⟩ | ⟨hb, h1, h2, h3, h4, sl, hI, h5⟩⟩ := st
  · exact ⟨ka _ ho, es, ep, t, hd, hf, hz, .inl ⟨pl, kt _ htp, kI _ hI, x⟩⟩
  · exact ⟨ka _ ho, es, ep, t, hd, hf, hz, .inr (.inl ⟨hb, kI _ hI, x⟩)⟩
  · exact ⟨ka _ ho, es, ep, t, hd, hf, hz, .inr (.inr ⟨hb, h1, h2, h3, h4, sl, kI _ hI, h5⟩)⟩
theorem SIter.typeIs {I a tp : Addr} {o : Obj} {l' : List Str} {i : Nat} (st : SIter w I a tp o l' i s.heap) : s.TypeIs (.ref I) "set_iterator" := by
  obtain ⟨f, ep, hI⟩ := st.obj
  exact ⟨_, hI, rfl⟩

theorem setEnts {a : Addr} {o : Obj} {es : Array (Int × Value)} {ep : Nat} {t : SetTable} {Q : Array (Int × Value) → Shared → Prop} (ho : s.heap.get? a = some o) (hd : o.data = .set es ep t) (hf : t.fits es.size = true) (h : Q es s) : wpAny (model prog w) A (setEntries a) Q E s := by
  unfold setEntries
  exact wpAny_bind (wpAny_setState_of ho hd hf (wpAny_pure h))

theorem next_head {I a : Addr} {o : Obj} {es : Array (Int × Value)} {ep i n : Nat} {t : SetTable} {first : Value} {Q : Fin → Shared → Prop} (hI : s.heap.get? I = some (itObj first i n ep a)) (ho : s.heap.get? a = some o) (hd : o.data = .set es ep t) (hf : t.fits es.size = true) (hz : es.size = n)
    (h : wpAny (model prog w) A (match first with
              | Value.int slot _ => do
                let __do_lift ← setNext a slot.toNat i ep
                match __do_lift with
                  | some (x, next) => do
                    setField (.ref I) 0 (rawInt ↑next)
                    setField (.ref I) 1 (rawInt ((i : Int) + 1))
                    ret x
                  | none => do
                    setField (.ref I) 2 Value.none
                    let __do_lift ← newExc (Value.type "StopIteration") []
                    raiseNew __do_lift
              | _ => do
                let __x ← seqItems? first
                match __x with
                  | some places =>
                    match places[i]? with
                    | some (Value.int place _) => do
                      let x ← setNextDrawn a place.toNat ep
                      setField (.ref I) 1 (rawInt ((i : Int) + 1))
                      ret x
                    | some _ => unsupported "internal:set_iterator"
                    | none => do
                      setField (.ref I) 0 (rawInt 0)
                      setField (.ref I) 2 Value.none
                      let __do_lift ← newExc (Value.type "StopIteration") []
                      raiseNew __do_lift
                  | _ => unsupported "internal:set_iterator") Q E s) :
    wpAny (model prog w) A (Builtin.«set_iterator.__next__» ⟨[.ref I], []⟩) Q E s := by
  unfold Builtin.«set_iterator.__next__» slotArgs
  simp only [List.isEmpty_nil, Bool.not_true, Bool.false_eq_true, ↓reduceIte, List.length_nil, bne_self_eq_false]
  refine wpAny_bind (wpAny_bind (wpAny_pure (wpAny_pure ?_)))
  dsimp only
  refine wpAny_bind (wpAny_fieldsOf hI rfl ?_)
  dsimp only [rawInt]
  refine wpAny_bind (setEnts ho hd hf ?_)
  rw [if_neg (by simp [hz])]
  exact h

theorem next_item {I a tp : Addr} {o : Obj} {l' : List Str} {i : Nat} {Q : Option Value → Shared → Prop} (st : SIter w I a tp o l' i s.heap) (haI : a ≠ I) (htI : tp ≠ I) (hi : i < l'.length)
    (h : ∀ t h', SIter w I a tp o l' (i + 1) h' → Heap.SameBut I s.heap h' → Q (some (.str l'[i] t)) { s with heap := h' }) : wpAny (model prog w) A (pyNext (.ref I)) Q E s := by
  have hT := st.typeIs
  unfold pyNext
  refine wpAny_bind (wpAny_attempt (wpAny_callSpecial?_slot (name := Str.ofString "__next__") hT slot_siter_next
    (wpAny_call_entry slot_siter_next hT entry_siter_next ?_ (args_siter_next_1 _))))
  obtain ⟨ho, es, ep, t, hd, hf, hz, ⟨pl, htp, hI, hpl, hplx⟩ | ⟨hb, hI, hE⟩ | ⟨hb, h1, h2, h3, h4, sl, hI, h5⟩⟩ := st
  · refine next_head hI ho hd hf hz ?_
    dsimp only
    refine wpAny_bind (wpAny_seqItems htp rfl ?_)
    dsimp only
    obtain ⟨q, tk, hq, hes⟩ := hplx i l'[i] (List.getElem?_eq_getElem hi)
    have e : ((pl.map fun (j : Nat) => rawInt j).toArray)[i]? = some (.int q 0) := by simp [hq, rawInt]
    rw [e]
    dsimp only
    unfold setNextDrawn
    refine wpAny_bind (wpAny_bind (wpAny_setState_of ho hd hf ?_))
    dsimp only
    rw [if_neg (by simp), Int.toNat_natCast, hes]
    refine wpAny_pure ?_
    refine wpAny_bind (wpAny_setField hI rfl (by simp) (wpAny_pure ⟨_, rfl, wpAny_pure ?_⟩))
    refine h tk _ ?_ (Heap.SameBut.update ..)
    refine ⟨(Heap.SameBut.update ..).extBut _ _ haI ho, es, ep, t, hd, hf, hz, .inl ⟨pl, (Heap.SameBut.update ..).extBut _ _ htI htp, ?_, hpl, hplx⟩⟩
    exact Heap.get?_update_self _ hI rfl
  · refine next_head hI ho hd hf hz ?_
    dsimp only
    obtain ⟨tk, hes⟩ := (hE.get i).2 l'[i] (List.getElem?_eq_getElem hi)
    unfold setNext setsByText
    refine wpAny_bind (wpAny_bind (wpAny_setState_of ho hd hf ?_))
    dsimp only
    refine wpAny_bind (wpAny_bind (wpAny_askSetting (wpAny_pure ?_)))
    show wpAny _ _ (if byText w = true then _ else _) _ _ _
    rw [if_pos hb, if_neg (by simp)]
    refine wpAny_bind ?_
    unfold setWalk
    refine wpAny_bind (wpAny_setState_of ho hd hf ?_)
    dsimp only
    unfold setsByText
    refine wpAny_bind (wpAny_bind (wpAny_askSetting (wpAny_pure ?_)))
    show wpAny _ _ (if byText w = true then _ else _) _ _ _
    rw [if_pos hb]
    refine wpAny_bind (wpAny_askSetting (wpAny_pure ?_))
    rw [Array.getElem?_toList] at hes
    show wpAny _ _ (pure (Option.map (fun e => (e.2, Int.toNat 0)) (pickOrder (w.params.setOrder a ep) es)[i]?)) _ _ _
    rw [hes]
    refine wpAny_pure ?_
    dsimp only [Option.map]
    refine wpAny_bind (wpAny_setField hI rfl (by simp) ?_)
    refine wpAny_bind (wpAny_setField (Heap.get?_update_self _ hI rfl) rfl (by simp) (wpAny_pure ⟨_, rfl, wpAny_pure ?_⟩))
    have sb := fun x y => (Heap.SameBut.update s.heap I (Obj.mapFields (·.setIfInBounds 0 x))).trans (Heap.SameBut.update _ I (Obj.mapFields (·.setIfInBounds 1 y)))
    refine h tk _ ?_ (sb _ _)
    refine ⟨(sb _ _).extBut _ _ haI ho, es, ep, t, hd, hf, hz, .inr (.inl ⟨hb, ?_, hE⟩)⟩
    exact Heap.get?_update_self _ (Heap.get?_update_self _ hI rfl) rfl
  · refine next_head hI ho hd hf hz ?_
    dsimp only
    obtain ⟨tk, hes⟩ := (h4.get i).2 l'[i] (List.getElem?_eq_getElem hi)
    rw [Array.getElem?_toList] at hes
    have hl1 : l'.length = 1 := by omega
    have hi0 : i = 0 := by omega
    obtain ⟨p0, hp0⟩ : ∃ p0, t.place = #[p0] := by
      rcases hpz : t.place with ⟨_ | ⟨p0, _ | ⟨p1, r⟩⟩⟩
      · rw [hpz] at h3; simp at h3; omega
      · exact ⟨p0, rfl⟩
      · rw [hpz] at h3; simp at h3; omega
    unfold setNext setsByText
    refine wpAny_bind (wpAny_bind (wpAny_setState_of ho hd hf ?_))
    dsimp only
    refine wpAny_bind (wpAny_bind (wpAny_askSetting (wpAny_pure ?_)))
    show wpAny _ _ (if byText w = true then _ else if (!t.plain && decide (es.size > 1)) = true then _ else _) _ _ _
    rw [if_neg (by rw [hb]; simp), if_neg (by rw [hz, hl1]; simp)]
    show wpAny _ _ (do (if (!t.led && !es.isEmpty) = true then unsupported "set:maker-not-led" else pure ()); _) _ _ _
    rw [h2]
    simp only [Bool.not_true, Bool.false_and, Bool.false_eq_true, if_false]
    refine wpAny_bind (wpAny_pure ?_)
    have e5 : SetTable.below t.place (Int.toNat sl) = i := by rw [Int.toNat_natCast]; exact h5
    subst hi0
    rw [e5, hes, hp0]
    refine wpAny_pure ?_
    refine wpAny_bind (wpAny_setField hI rfl (by simp) ?_)
    refine wpAny_bind (wpAny_setField (Heap.get?_update_self _ hI rfl) rfl (by simp) (wpAny_pure ⟨_, rfl, wpAny_pure ?_⟩))
    have sb := fun x y => (Heap.SameBut.update s.heap I (Obj.mapFields (·.setIfInBounds 0 x))).trans (Heap.SameBut.update _ I (Obj.mapFields (·.setIfInBounds 1 y)))
    refine h tk _ ?_ (sb _ _)
    refine ⟨(sb _ _).extBut _ _ haI ho, es, ep, t, hd, hf, hz, .inr (.inr ⟨hb, h1, h2, h3, h4, p0 + 1, ?_, ?_⟩)⟩
    · exact Heap.get?_update_self _ (Heap.get?_update_self _ hI rfl) rfl
    · rw [hp0]; exact (below_one p0).2

theorem stop_tail {s1 : Shared} {Q : Option Value → Shared → Prop} (hh : A.handled = none) (h : ∀ h', (∀ b o, s1.heap.get? b = some o → h'.get? b = some o) → Q none { s1 with heap := h' }) :
    wpAny (model prog w) A.in1 (do
                      let __do_lift ← newExc (Value.type "StopIteration") []
                      raiseNew __do_lift : Sem Fin) (fun fin s' => ∃ v, fin = Fin.done (Flow.ret v) ∧ wpAny (model prog w) A (pure (some v)) Q E s')
        (fun e s' =>
          wpAny (model prog w) A
            (do
              let __do_lift ← isInstance e (Value.type "StopIteration")
              if __do_lift = true then pure none else throw e)
            Q E s') s1 := by
  refine wpAny_bind ?_
  simp only [newExc, newTuple]
  refine wpAny_bind (wpAny_newObj_type ?_ (by size_fits))
  refine wpAny_bind (m := firstArgMember _ _) (wpAny_of_eq (a := Value.none) (by first | rfl | (simp only [firstArgMember]; rfl)) ?_)
  refine wpAny_newObj_type ?_ (by size_fits)
  simp only [raiseNew]
  refine wpAny_bind (wpAny_handled ?_)
  rw [show A.in1.handled = none from hh]
  refine wpAny_bind (wpAny_pure (wpAny_throw ?_))
  refine wpAny_bind (wpAny_isInstance (T := "StopIteration") (b := true) ⟨_, Heap.get?_push_size _ rfl, rfl⟩ isSubtype_stop ?_)
  exact wpAny_pure (h _ fun b o e => Heap.get?_push_of_some _ (Heap.get?_push_of_some _ e))

theorem next_end {I a tp : Addr} {o : Obj} {l' : List Str} {Q : Option Value → Shared → Prop} (hh : A.handled = none) (st : SIter w I a tp o l' l'.length s.heap) (haI : a ≠ I) (htI : tp ≠ I)
    (h : ∀ h', (∀ b o, b ≠ I → s.heap.get? b = some o → h'.get? b = some o) → Q none { s with heap := h' }) : wpAny (model prog w) A (pyNext (.ref I)) Q E s := by
  have hT := st.typeIs
  unfold pyNext
  refine wpAny_bind (wpAny_attempt (wpAny_callSpecial?_slot (name := Str.ofString "__next__") hT slot_siter_next
    (wpAny_call_entry slot_siter_next hT entry_siter_next ?_ (args_siter_next_1 _))))
  obtain ⟨ho, es, ep, t, hd, hf, hz, ⟨pl, htp, hI, hpl, hplx⟩ | ⟨hb, hI, hE⟩ | ⟨hb, h1, h2, h3, h4, sl, hI, h5⟩⟩ := st
  · refine next_head hI ho hd hf hz ?_
    dsimp only
    refine wpAny_bind (wpAny_seqItems htp rfl ?_)
    dsimp only
    have e : ((pl.map fun (j : Nat) => rawInt j).toArray)[l'.length]? = none := by simp [hpl]
    rw [e]
    dsimp only
    refine wpAny_bind (wpAny_setField hI rfl (by simp) ?_)
    refine wpAny_bind (wpAny_setField (Heap.get?_update_self _ hI rfl) rfl (by simp) (stop_tail hh fun h' hk => ?_))
    have sb := fun x y => (Heap.SameBut.update s.heap I (Obj.mapFields (·.setIfInBounds 0 x))).trans (Heap.SameBut.update _ I (Obj.mapFields (·.setIfInBounds 2 y)))
    exact h h' fun b o hb e => hk b o ((sb _ _).extBut b o hb e)
  · refine next_head hI ho hd hf hz ?_
    dsimp only
    have hes : (pickOrder (w.params.setOrder a ep) es)[l'.length]? = none := by
      rw [← Array.getElem?_toList, List.getElem?_eq_none]
      rw [hE.len]; exact Nat.le_refl _
    unfold setNext setsByText
    refine wpAny_bind (wpAny_bind (wpAny_setState_of ho hd hf ?_))
    dsimp only
    refine wpAny_bind (wpAny_bind (wpAny_askSetting (wpAny_pure ?_)))
    show wpAny _ _ (if byText w = true then _ else _) _ _ _
    rw [if_pos hb, if_neg (by simp)]
    refine wpAny_bind ?_
    unfold setWalk
    refine wpAny_bind (wpAny_setState_of ho hd hf ?_)
    dsimp only
    unfold setsByText
    refine wpAny_bind (wpAny_bind (wpAny_askSetting (wpAny_pure ?_)))
    show wpAny _ _ (if byText w = true then _ else _) _ _ _
    rw [if_pos hb]
    refine wpAny_bind (wpAny_askSetting (wpAny_pure ?_))
    show wpAny _ _ (pure (Option.map (fun e => (e.2, Int.toNat 0)) (pickOrder (w.params.setOrder a ep) es)[l'.length]?)) _ _ _
    rw [hes]
    refine wpAny_pure ?_
    dsimp only [Option.map]
    refine wpAny_bind (wpAny_setField hI rfl (by simp) (stop_tail hh fun h' hk => ?_))
    exact h h' fun b o hb e => hk b o ((Heap.SameBut.update s.heap I _).extBut b o hb e)
  · refine next_head hI ho hd hf hz ?_
    dsimp only
    have hes : es[l'.length]? = none := by
      rw [Array.getElem?_eq_none]
      rw [hz]; exact Nat.le_refl _
    unfold setNext setsByText
    refine wpAny_bind (wpAny_bind (wpAny_setState_of ho hd hf ?_))
    dsimp only
    refine wpAny_bind (wpAny_bind (wpAny_askSetting (wpAny_pure ?_)))
    show wpAny _ _ (if byText w = true then _ else if (!t.plain && decide (es.size > 1)) = true then _ else _) _ _ _
    have : ¬ (es.size > 1) := by omega
    rw [if_neg (by rw [hb]; simp), if_neg (by simp [this])]
    show wpAny _ _ (do (if (!t.led && !es.isEmpty) = true then unsupported "set:maker-not-led" else pure ()); _) _ _ _
    rw [h2]
    simp only [Bool.not_true, Bool.false_and, Bool.false_eq_true, if_false]
    refine wpAny_bind (wpAny_pure ?_)
    have e5 : SetTable.below t.place (Int.toNat sl) = l'.length := by rw [Int.toNat_natCast]; exact h5
    rw [e5, hes]
    refine wpAny_pure ?_
    dsimp only
    refine wpAny_bind (wpAny_setField hI rfl (by simp) (stop_tail hh fun h' hk => ?_))
    exact h h' fun b o hb e => hk b o ((Heap.SameBut.update s.heap I _).extBut b o hb e)

theorem walks_sset (hh : A.handled = none) {I a tp : Addr} (o : Obj) (l' : List Str) (haI : a ≠ I) (htI : tp ≠ I) :
    Walks prog w A I [I, a, tp] [I] l'.length (fun i v => ∃ x t, l'[i]? = some x ∧ v = .str x t) (fun i h => SIter w I a tp o l' i h) where
  sub := fun b hb => by simp at hb; simp [hb]
  frame := fun _ _ _ st hk => st.frame hk
  item := fun i s Q E hi st hQ => next_item st haI htI hi fun t h' st' sb => hQ _ h' s.toks ⟨_, t, List.getElem?_eq_getElem hi, rfl⟩ st' fun b o hb e => sb.extBut b o (fun h => hb (by simp [h])) e
  done := fun s Q E st hQ => next_end hh st haI htI fun h' hk => hQ h' s.toks fun b o hb e => hk b o (fun h => hb (by simp [h])) e
  self := fun _ s Q _ st hQ => by
    refine wpAny_pyIter_slot st.typeIs slot_siter_iter (wpAny_call_entry slot_siter_iter st.typeIs entry_siter_iter ?_ (args_siter_iter_1 _))
    show wpAny _ _ (ret (.ref I)) _ _ s
    exact wpAny_pure ⟨_, rfl, "set_iterator", _, st.typeIs, slot_siter_next.lookup, hQ⟩
end
end Mine
end

section
open PySem PySem.W PySem.Calls PySem.Spec PyProof.Rows
set_option maxRecDepth 100000
set_option maxHeartbeats 4000000
namespace Mine
section
variable {prog : Program} {w : World} {A : Around} {E : Value → Shared → Prop} {s : Shared}

theorem strs_of_items {l' : List Str} {acc : Array Value} (h : ItemsOf (fun i v => ∃ x t, l'[i]? = some x ∧ v = Value.str x t) acc l'.length) : StrsAre acc.toList l' := by
  obtain ⟨hz, hi⟩ := h
  have key : ∀ (vs : List Value) (l : List Str), vs.length = l.length → (∀ (j : Nat) (v : Value), vs[j]? = some v → ∃ (x : Str) (t : Tok), l[j]? = some x ∧ v = Value.str x t) → StrsAre vs l := by
    intro vs
    induction vs with
    | nil => intro l hl _; have : l = [] := List.length_eq_zero_iff.mp hl.symm; subst this; exact .nil
    | cons v vs ih =>
      intro l hl hx
      cases l with
      | nil => cases hl
      | cons y l =>
        obtain ⟨x, t, e1, rfl⟩ := hx 0 v rfl
        simp only [List.getElem?_cons_zero, Option.some.injEq] at e1
        subst e1
        exact .cons y t (ih l (Nat.succ.inj hl) fun j v hj => by simpa using hx (j + 1) v (by simpa using hj))
  exact key _ _ (by simpa using hz) fun j v hj => hi j v (by simpa using hj)

theorem collect_set {a : Addr} {o : Obj} {l : List Str} {Q : List Value → Shared → Prop} (hh : A.handled = none) (ho : s.heap.get? a = some o) (S : SSet w "set" o l)
    (hQ : ∀ s' vs l', StrsAre vs l' → List.Perm l l' → Ext s.heap s'.heap → s.heap.objs.size < s'.heap.objs.size → s'.gens = s.gens → s'.os = s.os → Q vs s') :
    wpAny (model prog w) A (collect (.ref a)) Q E s := by
  have hz4 : l.length ≤ 4 := by
    have S0 := S
    obtain ⟨_, _, _, es, ep, t, hd, _⟩ := S0
    exact (ssize hd S).2.2.1.le
  have hat : a < s.heap.objs.size := Heap.lt_size ho
  have hT : s.TypeIs (.ref a) "set" := ⟨o, ho, S.1⟩
  unfold collect
  refine wpAny_bind (wpAny_runValue (codeAny_builtin F.entry_proto_collect ?_))
  rw [Around.under_plainId F.plain_proto_collect _]
  show wpAny _ A.in1 (newList [] >>= fun l => again (.builtin "list.__iadd__" ⟨[l, .ref a], []⟩)) _ _ s
  refine wpAny_bind (wpAny_newObj_type ?_)
  refine wpAny_pure ⟨plainId_quiet F.plain_list_iadd _, codeAny_builtin F.entry_list_iadd ?_⟩
  rw [Around.under_plainId F.plain_list_iadd _]
  show wpAny _ A.in1 (Builtin.List.listExtendWith (.ref s.heap.objs.size) (.ref a) (.ref s.heap.objs.size)) _ _ _
  unfold Builtin.List.listExtendWith
  generalize hH : s.heap.push { cls := .type "list", data := .seq ([] : List Value).toArray } = H
  have hHs : H.objs.size = s.heap.objs.size + 1 := by rw [← hH, Heap.size_push]
  have hHk : ∀ b ob, s.heap.get? b = some ob → H.get? b = some ob := fun b ob e => hH ▸ Heap.get?_push_of_some _ e
  have hHl : H.get? s.heap.objs.size = some { cls := .type "list", data := .seq ([] : List Value).toArray } := hH ▸ Heap.get?_push_size _ rfl
  have hoH : H.get? a = some o := hHk _ _ ho
  have hTH : Shared.TypeIs { s with heap := H } (.ref a) "set" := ⟨o, hoH, S.1⟩
  refine wpAny_bind (wpAny_typeOf hTH ?_)
  have h1 : Builtin.List.listSameRef (.ref s.heap.objs.size) (.ref a) = false := by simp [Builtin.List.listSameRef]; exact fun e => absurd (e ▸ hat) (Nat.lt_irrefl _)
  have h2 : (Value.type "set" == Value.type "list") = false := by decide
  have h3 : (Value.type "set" == Value.type "tuple") = false := by decide
  simp only [h1, h2, h3, Bool.or_false, Bool.false_eq_true, if_false]
  refine wpAny_bind (siter_start (s := { s with heap := H }) (.inl rfl) hoH S fun I tp l' h' dr st p hk hI htp htI hIs htps => ?_)
  refine wpAny_bind (wpAny_holding ?_)
  have hoH' : h'.get? a = some o := hk _ _ hoH
  have hTH' : Shared.TypeIs { s with heap := h', drawn := dr } (.ref a) "set" := ⟨o, hoH', S.1⟩
  have hl' : h'.get? s.heap.objs.size = some { cls := .type "list", data := .seq ([] : List Value).toArray } := hk _ _ hHl
  unfold Builtin.List.listLengthHint
  refine wpAny_bind (wpAny_specialOf hTH' F.slot_set_len.lookup ?_)
  generalize hid : ("set.__len__" : String) = id0
  (fail_if_success (clear hid id0))
  wp_delta
  rw [show splitId id0 = some ("set", "__len__") from by subst hid; decide +kernel]
  subst hid
  refine wpAny_bind (wpAny_isInstance (b := true) hTH' (by rw [isSubtype_type]; kernel_rfl) ?_)
  show wpAny _ A.in1 (typeOf (Value.ref a) >>= _) _ _ _
  refine wpAny_bind (wpAny_typeOf hTH' ?_)
  refine wpAny_pure ?_
  rw [if_pos (by rfl)]
  refine wpAny_bind (wpAny_rule ?_)
  unfold Builtin.List.listTouch Builtin.List.listUpdate
  refine wpAny_bind (wpAny_bind (wpAny_updateSeq hl' rfl ?_))
  have hl2 := Heap.get?_update_self (Obj.mapSeq (fun x : Array Value => x.push .none)) hl' rfl
  refine wpAny_updateSeq hl2 rfl ?_
  have hl3 := Heap.get?_update_self (Obj.mapSeq (fun x : Array Value => x.pop)) hl2 rfl
  have hLI : s.heap.objs.size < I := Nat.lt_of_lt_of_le (Nat.lt_succ_self _) (Nat.le_trans (Nat.le_of_eq hHs.symm) hI)
  have haI : a ≠ I := Nat.ne_of_lt (Nat.lt_trans hat hLI)
  have hLtp : s.heap.objs.size ≠ tp := by
    rcases htp with rfl | h
    · exact Nat.ne_of_gt hat
    · exact Nat.ne_of_lt (Nat.lt_of_lt_of_le (Nat.lt_succ_self _) (Nat.le_trans (Nat.le_of_eq hHs.symm) h))
  have hSf : s.heap.objs.size ∉ [I, a, tp] := by
    intro hm
    rcases List.mem_cons.mp hm with h | hm
    · exact absurd hLI (h ▸ Nat.lt_irrefl _)
    · rcases List.mem_cons.mp hm with h | hm
      · exact absurd hat (h ▸ Nat.lt_irrefl _)
      · exact hLtp (List.mem_singleton.mp hm)
  have hoth : ∀ b ob, b ≠ s.heap.objs.size → h'.get? b = some ob → ((h'.update s.heap.objs.size (Obj.mapSeq fun x => x.push .none)).update s.heap.objs.size (Obj.mapSeq fun x => x.pop)).get? b = some ob :=
    fun b ob hb e => (Heap.get?_update_other _ _ (Ne.symm hb)).trans ((Heap.get?_update_other _ _ (Ne.symm hb)).trans e)
  refine wpAny_pure ⟨plainId_quiet F.plain_extend_loop _, codeAny_extend_loopS (walks_sset (A := A.in1) hh o l' haI htI).toS (by rw [← p.length_eq, sizeLine_eq]; omega) _ hSf _ l'.length 0 _ _ _ rfl (Nat.zero_le _) ?_ hl3 (ItemsOf.nil _) fun s' acc' c' hm hS' hacc => ?_⟩
  · exact st.frame fun b hb ob e => hoth b ob (fun q => hSf (q ▸ hb)) e
  · show wpAny _ A (load s.heap.objs.size >>= _) _ _ s'
    refine wpAny_bind (wpAny_load hS' ?_)
    refine wpAny_pure (hQ s' acc'.toList l' (strs_of_items hacc) p (fun b ob e => ?_) (Heap.lt_size hS') hm.gens hm.os)
    have hlt := Heap.lt_size e
    refine hm.heap b ob (fun hb => ?_) (hoth b ob (Nat.ne_of_lt hlt) (hk _ _ (hHk _ _ e)))
    rcases List.mem_cons.mp hb with h | h
    · exact absurd hlt (h ▸ Nat.lt_irrefl _)
    · rw [List.mem_singleton.mp h] at hlt; exact absurd (Nat.lt_trans hlt hLI) (Nat.lt_irrefl _)

theorem sorted_set {a : Addr} {o : Obj} {l : List Str} {Q : Value → Shared → Prop} (hh : A.handled = none) (ho : s.heap.get? a = some o) (S : SSet w "set" o l)
    (h : ∀ s' b vs ss', s'.heap.IsList b vs → StrsAre vs.toList ss' → ss'.Perm l → sortedS ss' = true → s.heap.objs.size ≤ b → Ext s.heap s'.heap → s'.gens = s.gens → s'.os = s.os → Q (.ref b) s') :
    wpAny (model prog w) A (call (.builtin "sorted") [.ref a]) Q E s := by
  have hz4 : l.length ≤ 4 := by
    have S0 := S
    obtain ⟨_, _, _, es, ep, t, hd, _⟩ := S0
    exact (ssize hd S).2.2.1.le
  refine Calls.call_function_entry kind_sorted plain_sorted entry_sorted (args_sorted1 _) ?_
  unfold Builtin.«sorted»
  refine wpAny_bind (m := checkCount "sorted" 1 1 _) (wpAny_pure ?_)
  refine wpAny_bind (collect_set hh ho S fun s1 vs l' hS p hk hsz hg hos => ?_)
  have hlen : vs.length ≤ 4 := by
    have : vs.length = l'.length := StrsAre.len_eq hS
    rw [this, ← p.length_eq]; exact hz4
  refine wpAny_bind (wpAny_newList ?_ (by rw [sizeLine_eq]; omega))
  have hoL : (s1.heap.push (seqObj "list" vs.toArray 0)).get? s1.heap.objs.size = some (seqObj "list" vs.toArray 0) := Heap.get?_push_size _ rfl
  show wpAny _ _ _ _ _ { s1 with heap := s1.heap.push (seqObj "list" vs.toArray 0) }
  refine wpAny_bind (wpAny_holding (wpAny_call_entry slot_list_sort ⟨_, hoL, rfl⟩ entry_list_sort (list_sort_treeK (κ := strKind) strKind_oneLt hoL hS.keysOf (fun v₁ v₂ rest e => keyKind_strs (by rw [← e]; exact hS)) (by omega) fun st' hp hs => ⟨_, rfl, ?_⟩) (args_list_sort _)))
  obtain ⟨ss', h1, h2, h3⟩ := sorted_out_str hS hp hs
  refine wpAny_pure ⟨_, rfl, h _ s1.heap.objs.size _ ss' ?_ h1 (h2.trans p.symm) h3 ?_ ?_ hg hos⟩
  · obtain ⟨e, he⟩ := sortedHeap_at (out := (arrOf st').map (·.2)) hoL
    exact ⟨_, he, rfl, e, rfl⟩
  · exact Nat.le_of_lt hsz
  · intro b ob e
    have hlt : b < s1.heap.objs.size := Heap.lt_size (hk b ob e)
    show (sortedHeap _ _ _ _).get? b = some ob
    rw [sortedHeap_old (Nat.ne_of_lt hlt) (by rw [size_push']; exact Nat.lt_succ_of_lt hlt)]
    exact Heap.get?_push_of_some _ (hk b ob e)

theorem rising_pair : ∀ (l : List Str) (p : Str), risingS p l = true → (p :: l).Pairwise (fun a b => a.cps.toList ≤ b.cps.toList)
  | [], p, _ => List.pairwise_singleton _ _
  | x :: r, p, h => by
    have h' : (!ltCps x.cps.toList p.cps.toList && risingS x r) = true := h
    rw [Bool.and_eq_true, ltCps_eq] at h'
    obtain ⟨h1, h2⟩ := h'
    have hp : p.cps.toList ≤ x.cps.toList := by simpa using h1
    have ih := rising_pair r x h2
    refine List.pairwise_cons.mpr ⟨fun y hy => ?_, ih⟩
    rcases List.mem_cons.mp hy with rfl | hy
    · exact hp
    · exact List.le_trans hp (List.rel_of_pairwise_cons ih hy)
theorem sorted_pair : ∀ (l : List Str), sortedS l = true → l.Pairwise (fun a b => a.cps.toList ≤ b.cps.toList)
  | [], _ => .nil
  | x :: r, h => rising_pair r x h
theorem sorted_uniq {l m : List Str} (h : List.Perm l m) (hl : sortedS l = true) (hm : sortedS m = true) : l = m := by
  refine List.Perm.eq_of_pairwise (fun a b _ _ h1 h2 => ?_) (sorted_pair l hl) (sorted_pair m hm) h
  have := List.le_antisymm h1 h2
  obtain ⟨⟨a⟩⟩ := a
  obtain ⟨⟨b⟩⟩ := b
  simp at this
  rw [this]
theorem perm_of_same {l m : List Str} (hl : l.Nodup) (hm : m.Nodup) (h : ∀ y, y ∈ l ↔ y ∈ m) : List.Perm l m :=
  (List.perm_ext_iff_of_nodup hl hm).mpr h
end
end Mine
end

section
open PySem PySem.W PySem.Calls PySem.Spec PyProof.Rows
set_option maxRecDepth 100000
set_option maxHeartbeats 4000000
namespace Mine
theorem noBool_fro : typeLookup (.type "frozenset") "__bool__" = pure none := by rw [typeLookup_type, builtinLookup_eq_fast]; kernel_rfl
theorem slot_fro_len : Slot "frozenset" "__len__" "frozenset.__len__" :=
  .of (owner := "frozenset") (n := "__len__") (by rw [typeLookup_type, builtinLookup_eq_fast]; kernel_rfl) (by decide +kernel) (by decide +kernel) (by decide +kernel)
    (by first | exact .inl (by decide +kernel) | exact .inr (by decide +kernel)) (by rw [isSubtype_type]; kernel_rfl)
theorem args_fro_len_1 (a : Value) : argsOk "frozenset.__len__" ⟨[a], []⟩ := by unfold argsOk; kernel_rfl
theorem entry_fro_len : entryFor table "frozenset.__len__" = some Builtin.«frozenset.__len__» := entryFor_of_tree (by kernel_rfl)
theorem slot_set_ne : Slot "set" "__ne__" "set.__ne__" :=
  .of (owner := "set") (n := "__ne__") (by rw [typeLookup_type, builtinLookup_eq_fast]; kernel_rfl) (by decide +kernel) (by decide +kernel) (by decide +kernel)
    (by first | exact .inl (by decide +kernel) | exact .inr (by decide +kernel)) (by rw [isSubtype_type]; kernel_rfl)
theorem args_set_ne_2 (a b : Value) : argsOk "set.__ne__" ⟨[a, b], []⟩ := by unfold argsOk; kernel_rfl
theorem entry_set_ne : entryFor table "set.__ne__" = some Builtin.«frozenset.__ne__» := entryFor_alias (id' := "frozenset.__ne__") (by kernel_rfl) rfl (by decide +kernel) (by kernel_rfl)
section
variable {prog : Program} {w : World} {A : Around} {E : Value → Shared → Prop} {s : Shared}

theorem Ents.mem {es : List (Int × Value)} {l : List Str} (h : Ents w es l) (x : Str) : decide (x ∈ l) = true ↔ ∃ e ∈ es, (strKind prog w).is x e.2 = true := by
  induction h with
  | nil => simp
  | cons y t r ih =>
    rw [decide_eq_true_eq] at ih ⊢
    rw [List.mem_cons, ih]
    constructor
    · rintro (rfl | ⟨e, he, hx⟩)
      · exact ⟨_, .head _, by show (x == x) = true; simp⟩
      · exact ⟨e, .tail _ he, hx⟩
    · rintro ⟨e, he, hx⟩
      rcases List.mem_cons.mp he with rfl | he
      · left
        have : (x == y) = true ∨ (y == x) = true := .inr hx
        rcases this with q | q
        · simpa using q
        · have : y = x := by simpa using q
          exact this.symm
      · exact .inr ⟨e, he, hx⟩

theorem find_sset {cls : String} {a : Addr} {o : Obj} {l : List Str} {x : Str} {tk : Tok} {Q : Option Nat → Shared → Prop} (ho : s.heap.get? a = some o) (S : SSet w cls o l)
    (h : ∀ r : Option Nat, r.isSome = decide (x ∈ l) → Q r s) : wpAny (model prog w) A (setFind a (.str x tk) (hashStr w x)) Q E s := by
  have S0 := S
  obtain ⟨hc, hdc, hsl, es, ep, t, hd, _⟩ := S0
  obtain ⟨he, hnd, sm, hz, hf, hled, hpl⟩ := ssize hd S
  have hkey : (strKind prog w).is x (.str x tk) = true := by show (x == x) = true; simp
  exact setFind_any (knd := strKind prog w) (S := fun y => decide (y ∈ l)) hkey rfl ho hd he.elems (fun k => he.mem k) (by rw [hz]; have := sm.le; unfold scanBound; omega) hf h

theorem in_fro {f : Addr} {o : Obj} {l : List Str} {x : Str} {tk : Tok} {Q : Value → Shared → Prop} (ho : s.heap.get? f = some o) (S : SSet w "frozenset" o l)
    (h : ∀ tk', Q (.bool (decide (x ∈ l))) { s with toks := tk' }) : wpAny (model prog w) A (compareOp .In (.str x tk) (.ref f)) Q E s := by
  have hT : s.TypeIs (.ref f) "frozenset" := ⟨_, ho, S.1⟩
  have hkey : (strKind prog w).is x (.str x tk) = true := by show (x == x) = true; simp
  show wpAny _ _ (do return .bool (← contains (.ref f) (.str x tk))) Q E s
  refine wpAny_bind ?_
  unfold contains
  try with_reducible refine wpAny_holding ?_
  refine wpAny_bind (wpAny_specialOf hT FB.slot_frozenset_contains.lookup ?_)
  show wpAny _ _ (if (some (Value.builtin "frozenset.__contains__") == some Value.none) = true then _ else _) _ E s
  rw [if_neg (by rw [beq_builtin_none]; exact Bool.false_ne_true)]
  refine wpAny_bind (wpAny_callSpecialUnlessNone?_slot (name := Str.ofString "__contains__") hT FB.slot_frozenset_contains
    (wpAny_call_entry FB.slot_frozenset_contains hT FB.entry_frozenset_contains ?_ (FB.args_frozenset_contains_2 _ _)))
  unfold Builtin.«frozenset.__contains__» Builtin.Frozenset.oneOther
  simp only [List.isEmpty_nil, bind_assoc]
  unfold Builtin.Frozenset.addrOf Builtin.Frozenset.withSetAsKey setContains
  refine wpAny_bind (wpAny_pure ?_)
  try dsimp only
  refine wpAny_bind (wpAny_pure ?_)
  try dsimp only
  refine wpAny_bind (wpAny_tryCatch ?_)
  refine wpAny_holding ?_
  refine wpAny_bind ((strKind prog w).pyHash hkey ?_)
  refine wpAny_bind (find_sset (s := { s with toks := s.toks + 1 }) ho S fun r hr => ?_)
  refine wpAny_pure ?_
  show wpAny _ _ (ret (Value.bool r.isSome)) _ _ _
  rw [hr]
  exact wpAny_pure ⟨_, rfl, wpAny_truthy_bool (wpAny_pure (h _))⟩

theorem truthy_fro {f : Addr} {o : Obj} {l : List Str} {Q : Bool → Shared → Prop} (ho : s.heap.get? f = some o) (S : SSet w "frozenset" o l)
    (h : ∀ tk', Q (!l.isEmpty) { s with toks := tk' }) : wpAny (model prog w) A (truthy (.ref f)) Q E s := by
  have hT : s.TypeIs (.ref f) "frozenset" := ⟨_, ho, S.1⟩
  have S0 := S
  obtain ⟨hc, hdc, hsl, es, ep, t, hd, _⟩ := S0
  obtain ⟨he, hnd, sm, hz, hf, hled, hpl⟩ := ssize hd S
  have hle := sm.le
  have body : wpAny (model prog w) A.in1 (Builtin.«len» ⟨[.ref f], []⟩) (fun fin s' => ∃ r, fin = .done (.ret r) ∧ (r = .int es.size (s.toks + 1) ∧ Q (!l.isEmpty) s')) E s := by
    unfold Builtin.«len»
    refine wpAny_bind (m := oneArg "len" _) (wpAny_pure ?_)
    refine wpAny_bind (m := callSpecial? (.ref f) (Str.ofString "__len__")) (wpAny_callSpecial?_slot (name := Str.ofString "__len__") hT slot_fro_len
      (wpAny_call_entry slot_fro_len hT entry_fro_len ?_ (args_fro_len_1 _)))
    unfold Builtin.«frozenset.__len__» Builtin.Frozenset.slot0 slotArgs
    simp only [List.isEmpty_nil, Bool.not_true, Bool.false_eq_true, ↓reduceIte, bind_assoc, List.length_nil, bne_self_eq_false]
    unfold Builtin.Frozenset.addrOf Builtin.Frozenset.sizeOf
    refine wpAny_bind (wpAny_pure ?_)
    try dsimp only
    refine wpAny_bind (wpAny_pure ?_)
    refine wpAny_bind (wpAny_bind (setEnts ho hd hf (wpAny_pure ?_)))
    show wpAny _ _ (retInt _) _ _ _
    unfold retInt
    refine wpAny_bind (wpAny_mkInt (wpAny_pure ⟨_, rfl, ?_⟩))
    refine wpAny_bind (wpAny_holding (wpAny_pure ?_))
    refine wpAny_bind (wpAny_letGo ?_)
    show wpAny _ _ (if ((es.size : Nat) : Int) < 0 then _ else _) _ _ _
    rw [if_neg (by omega)]
    show wpAny _ _ (if ((es.size : Nat) : Int) ≥ 2 ^ 63 then _ else _) _ _ _
    rw [if_neg (by omega)]
    exact wpAny_bind (wpAny_mkInt (wpAny_pure ⟨_, rfl, rfl, h _⟩))
  have key : wpAny (model prog w) A (runValue (.builtin "len" ⟨[.ref f], []⟩)) (fun r s' => r = .int es.size (s.toks + 1) ∧ Q (!l.isEmpty) s') E s := by
    refine wpAny_runValue (codeAny_builtin entry_len ?_)
    rw [Around.under_plainId plain_len _]
    exact wpAny_mono body (fun fin s' h' => by obtain ⟨r, rfl, hq⟩ := h'; exact hq) fun _ _ e => e
  have hne : ((es.size : Int) != 0) = !l.isEmpty := by
    rw [hz]
    cases l <;> simp <;> omega
  unfold truthy
  first
    | refine wpAny_bind (wpAny_callSpecial?_none (name := Str.ofString "__bool__") hT noBool_fro ?_)
    | refine wpAny_bind (wpAny_pure (wpAny_bind (wpAny_callSpecial?_none (name := Str.ofString "__bool__") hT noBool_fro ?_)))
  first
    | refine wpAny_bind (wpAny_specialOf (name := Str.ofString "__len__") hT slot_fro_len.lookup ?_)
    | refine wpAny_bind (wpAny_pure (wpAny_bind (wpAny_specialOf (name := Str.ofString "__len__") hT slot_fro_len.lookup ?_)))
  first
    | exact wpAny_bind (wpAny_mono key (fun r s' h' => by obtain ⟨rfl, hq⟩ := h'; exact wpAny_pure (hne ▸ hq)) fun _ _ e => e)

theorem set_fro {f : Addr} {ob : Obj} {lb : List Str} {Q : Value → Shared → Prop} (hob : s.heap.get? f = some ob) (Sb : SSet w "frozenset" ob lb)
    (h : ∀ h' tk dr o' l', Ext s.heap h' → h'.get? s.heap.objs.size = some o' → SSet w "set" o' l' → (∀ y, y ∈ l' ↔ y ∈ lb) → l'.length ≤ lb.length → Q (.ref s.heap.objs.size) { s with heap := h', toks := tk, drawn := dr }) :
    wpAny (model prog w) A (call (.type "set") [.ref f]) Q E s := by
  have hlt : f < s.heap.objs.size := Heap.lt_size hob
  have h4 : lb.length ≤ 4 := by
    have S0 := Sb
    obtain ⟨_, _, _, es, ep, t, hd, _⟩ := S0
    exact (ssize hd Sb).2.2.1.le
  refine set_call (P := fun l' => (∀ y, y ∈ l' ↔ y ∈ lb) ∧ l'.length ≤ lb.length) (fun o h1 Q' S e hq => ?_) fun h' tk dr o' l' hk ho' S' hp => h h' tk dr o' l' hk ho' S' hp.1 hp.2
  subst e
  refine update_set (s := { s with heap := s.heap.push o }) (Heap.get?_push_size _ S.live) S (Heap.get?_push_of_some _ hob) Sb (.inr rfl) (Nat.ne_of_gt hlt) (by simpa using h4) fun h' dr o' l' sb ho' S' hm hlen => ?_
  exact hq h' s.toks dr o' l' (fun b ob e => (sb.2 b (Nat.ne_of_lt (Heap.lt_size e))).trans (Heap.get?_push_of_some _ e)) ho' S' ⟨fun y => by rw [hm y]; simp, by simpa using hlen⟩
theorem set_list {l : Addr} {vs : List Value} {ss : List Str} {Q : Value → Shared → Prop} (hh : A.handled = none) (hl : s.heap.IsList l vs.toArray) (hv : StrsAre vs ss) (h4 : ss.length ≤ 4)
    (h : ∀ h' tk dr o' l', Ext s.heap h' → h'.get? s.heap.objs.size = some o' → SSet w "set" o' l' → (∀ y, y ∈ l' ↔ y ∈ ss) → l'.length ≤ ss.length → Q (.ref s.heap.objs.size) { s with heap := h', toks := tk, drawn := dr }) :
    wpAny (model prog w) A (call (.type "set") [.ref l]) Q E s := by
  have hlt : l < s.heap.objs.size := by obtain ⟨ol, hol, _⟩ := hl; exact Heap.lt_size hol
  refine set_call (P := fun l' => (∀ y, y ∈ l' ↔ y ∈ ss) ∧ l'.length ≤ ss.length) (fun o h1 Q' S e hq => ?_) fun h' tk dr o' l' hk ho' S' hp => h h' tk dr o' l' hk ho' S' hp.1 hp.2
  subst e
  refine update_list (s := { s with heap := s.heap.push o }) (by simp [hh]) (hl.push o) hv (Heap.get?_push_size _ S.live) S (by simpa using h4) (Nat.ne_of_lt hlt) fun h' tk o' l' hk ho' S' hm hlen => ?_
  exact hq h' tk s.drawn o' l' (fun b ob e => hk b ob (Nat.ne_of_lt (Heap.lt_size e)) (Heap.get?_push_of_some _ e)) ho' S' ⟨fun y => by rw [hm y]; simp, by simpa using hlen⟩

theorem set_update {cls2 : String} {a b : Addr} {o ob : Obj} {l0 lb : List Str} {Q : Value → Shared → Prop} (ho : s.heap.get? a = some o) (S : SSet w "set" o l0) (hob : s.heap.get? b = some ob) (Sb : SSet w cls2 ob lb) (hc2 : cls2 = "set" ∨ cls2 = "frozenset") (hne : a ≠ b) (h4 : l0.length + lb.length ≤ 4)
    (h : ∀ h' dr o' l', Heap.SameBut a s.heap h' → h'.get? a = some o' → SSet w "set" o' l' → (∀ y, y ∈ l' ↔ y ∈ l0 ∨ y ∈ lb) → l'.length ≤ l0.length + lb.length → Q .none { s with heap := h', drawn := dr }) :
    wpAny (model prog w) A (call (.builtin "set.update") [.ref a, .ref b]) Q E s := by
  have hT : s.TypeIs (.ref a) "set" := ⟨_, ho, S.1⟩
  refine wpAny_call_entry F.slot_set_update hT F.entry_set_update ?_ (F.args_set_update_2 _ _)
  unfold Builtin.«set.update» Builtin.Frozenset.manyOthers
  simp only [List.isEmpty_nil, Bool.not_true, Bool.false_eq_true, if_false, bind_assoc]
  unfold Builtin.Frozenset.addrOf
  refine wpAny_bind (wpAny_pure ?_)
  refine wpAny_bind (wpAny_pure ?_)
  dsimp only
  rw [List.forIn_cons, bind_assoc]
  refine wpAny_bind ?_
  refine wpAny_bind (update_set ho S hob Sb hc2 hne h4 fun h' dr o' l' sb ho' S' hm hlen => ?_)
  refine wpAny_pure ?_
  dsimp only
  rw [List.forIn_nil]
  refine wpAny_pure ?_
  exact ⟨_, rfl, h h' dr o' l' sb ho' S' hm hlen⟩

theorem unseen_q {cls cls2 : String} {a b : Addr} {o ob : Obj} {l lb : List Str} {Q : List (Int × Value) → Shared → Prop} (ho : s.heap.get? a = some o) (S : SSet w cls o l) (hob : s.heap.get? b = some ob) (Sb : SSet w cls2 ob lb)
    (h : ∀ es : List (Int × Value), Ents w es l → Q es s) : wpAny (model prog w) A (Builtin.Frozenset.walkUnseen a b) Q E s := by
  have S0 := S
  obtain ⟨_, _, _, es, ep, t, hd, _⟩ := S0
  obtain ⟨he, hnd, sm, hz, hf, hled, hpl⟩ := ssize hd S
  have T0 := Sb
  obtain ⟨_, _, _, eb, epb, tb, hdb, _⟩ := T0
  obtain ⟨heb, _, _, _, hfb, _, _⟩ := ssize hdb Sb
  unfold Builtin.Frozenset.walkUnseen
  refine wpAny_bind (setEnts ho hd hf ?_)
  refine wpAny_bind (setEnts hob hdb hfb ?_)
  refine wpAny_bind (wpAny_forIn_list _ (fun rest r s' => (∀ e ∈ rest, ∃ (x : Str) (t : Tok), e.2 = Value.str x t) ∧ r.1 = none ∧ s' = s) _ ?_ ?_ _ _ ⟨?_, rfl, rfl⟩)
  · rintro e rest r s' ⟨h1, h2, rfl⟩
    obtain ⟨x, t, e1⟩ := h1 e (.head _)
    obtain ⟨hsh, v⟩ := e
    simp only at e1
    subst e1
    exact wpAny_pure ⟨fun e hm => h1 e (.tail _ hm), rfl, rfl⟩
  · rintro r s' ⟨_, h2, rfl⟩
    obtain ⟨r1, r2⟩ := r
    simp only at h2
    subst h2
    exact wpAny_pure (h _ he)
  · intro e hm
    rcases List.mem_append.mp hm with hm | hm
    · obtain ⟨x, t, e1, _⟩ := he.noRef e hm; exact ⟨x, t, e1⟩
    · obtain ⟨x, t, e1, _⟩ := heb.noRef e hm; exact ⟨x, t, e1⟩

theorem subset_q {cls cls2 id : String} {a b : Addr} {o ob : Obj} {l lb : List Str} {Q : Bool → Shared → Prop} (ho : s.heap.get? a = some o) (S : SSet w cls o l) (hob : s.heap.get? b = some ob) (Sb : SSet w cls2 ob lb) (hsub : ∀ y ∈ l, y ∈ lb) (hle : l.length ≤ lb.length)
    (h : Q true s) : wpAny (model prog w) A (Builtin.Frozenset.subsetOf id a b) Q E s := by
  have S0 := S
  obtain ⟨_, _, _, es, ep, t, hd, _⟩ := S0
  obtain ⟨he, hnd, sm, hz, hf, hled, hpl⟩ := ssize hd S
  have T0 := Sb
  obtain ⟨_, _, _, eb, epb, tb, hdb, _⟩ := T0
  obtain ⟨heb, _, _, hzb, hfb, _, _⟩ := ssize hdb Sb
  unfold Builtin.Frozenset.subsetOf Builtin.Frozenset.sizeOf
  refine wpAny_bind (wpAny_bind (setEnts ho hd hf (wpAny_pure ?_)))
  refine wpAny_bind (wpAny_bind (setEnts hob hdb hfb (wpAny_pure ?_)))
  rw [if_neg (by omega)]
  unfold setEpoch
  refine wpAny_bind (wpAny_bind (wpAny_setState_of ho hd hf (wpAny_pure ?_)))
  refine wpAny_bind (unseen_q ho S hob Sb fun es' he' => ?_)
  refine wpAny_bind (wpAny_forIn_list _ (fun rest r s' => (∃ lr, Ents w rest lr ∧ ∀ y ∈ lr, y ∈ lb) ∧ r.1 = none ∧ s' = s) _ ?_ ?_ _ _ ⟨⟨l, he', hsub⟩, rfl, rfl⟩)
  · rintro e rest r s' ⟨⟨lr, h1, hm⟩, h2, rfl⟩
    cases h1 with
    | cons x t r1 =>
      refine wpAny_bind (wpAny_holding (find_sset hob Sb fun r' hr' => ?_))
      rw [decide_eq_true (hm x (.head _))] at hr'
      cases r' with
      | none => cases hr'
      | some i =>
        simp only [Option.isNone_some, Bool.false_eq_true, if_false]
        unfold Builtin.Frozenset.unchanged setEpoch
        refine wpAny_bind (wpAny_bind (wpAny_bind (wpAny_setState_of ho hd hf (wpAny_pure ?_))))
        rw [if_neg (by simp)]
        refine wpAny_pure ?_
        exact wpAny_pure ⟨⟨_, r1, fun y hy => hm y (.tail _ hy)⟩, rfl, rfl⟩
  · rintro r s' ⟨_, h2, rfl⟩
    obtain ⟨r1, r2⟩ := r
    simp only at h2
    subst h2
    exact wpAny_pure h

theorem ne_sets {a b : Addr} {o ob : Obj} {l lb : List Str} {Q : Value → Shared → Prop} (hu : A.units < cLine) (ho : s.heap.get? a = some o) (S : SSet w "set" o l) (hob : s.heap.get? b = some ob) (Sb : SSet w "set" ob lb) (hsame : ∀ y, y ∈ l ↔ y ∈ lb)
    (h : Q (.bool false) s) : wpAny (model prog w) A (compareOp .NotEq (.ref a) (.ref b)) Q E s := by
  have S0 := S
  obtain ⟨_, _, _, es, ep, t, hd, _⟩ := S0
  obtain ⟨he, hnd, sm, hz, hf, hled, hpl⟩ := ssize hd S
  have T0 := Sb
  obtain ⟨_, _, _, eb, epb, tb, hdb, _⟩ := T0
  obtain ⟨heb, hndb, _, hzb, hfb, _, _⟩ := ssize hdb Sb
  have hlen : l.length = lb.length := (perm_of_same hnd hndb hsame).length_eq
  have hT : s.TypeIs (.ref a) "set" := ⟨_, ho, S.1⟩
  have hTb : s.TypeIs (.ref b) "set" := ⟨_, hob, Sb.1⟩
  show wpAny _ _ (richCompare .NotEq (.ref a) (.ref b)) _ _ _
  refine wpAny_richCompare_same_room hT hTb slot_set_ne ?_ hu
  refine wpAny_call_entry slot_set_ne hT entry_set_ne ?_ (args_set_ne_2 _ _)
  have h1 := sub_set_fro
  show wpAny _ _ (do
    let (self, other) ← Builtin.Frozenset.slot1 "__ne__" ⟨[.ref a, .ref b], []⟩
    _) _ _ _
  unfold Builtin.Frozenset.slot1 slotArgs
  simp only [List.isEmpty_nil, Bool.not_true, Bool.false_eq_true, ↓reduceIte, bind_assoc]
  rw [if_neg (by simp)]
  refine wpAny_bind (wpAny_pure ?_)
  refine wpAny_bind (wpAny_pure ?_)
  dsimp only
  refine wpAny_bind (isany_set hTb (.inl rfl) ?_)
  simp only [Bool.not_true, Bool.false_eq_true, if_false]
  unfold Builtin.Frozenset.addrOf Builtin.Frozenset.sizeOf
  refine wpAny_bind (wpAny_pure ?_)
  refine wpAny_bind (wpAny_pure ?_)
  refine wpAny_bind (wpAny_bind (setEnts ho hd hf (wpAny_pure ?_)))
  refine wpAny_bind (wpAny_bind (setEnts hob hdb hfb (wpAny_pure ?_)))
  rw [if_neg (by simp [hz, hzb, hlen])]
  generalize hX : Builtin.Frozenset.subsetOf = F
  wp_walk
  subst hX
  refine subset_q ho S hob Sb (fun y hy => (hsame y).mp hy) (Nat.le_of_eq hlen) ?_
  exact wpAny_pure ⟨_, rfl, by simp, h⟩
end
end Mine
end

section
open PySem PySem.W PySem.Calls PySem.Spec PyProof.Rows
set_option maxRecDepth 100000
set_option maxHeartbeats 4000000
namespace Mine
section
variable {prog : Program} {w : World} {A : Around} {E : Value → Shared → Prop} {s : Shared}
theorem bool_fro {f : Addr} {o : Obj} {l : List Str} {Q : Value → Shared → Prop} (ho : s.heap.get? f = some o) (S : SSet w "frozenset" o l)
    (h : ∀ tk', Q (.bool (!l.isEmpty)) { s with toks := tk' }) : wpAny (model prog w) A (call (.type "bool") [.ref f]) Q E s := by
  refine callType_newIn (S := fun A R s' => s'.heap.get? f = some o ∧ ∀ tk, R (.ok (.ret (.bool (!l.isEmpty)))) { s' with toks := tk }) F.called_bool F.newNe_bool (F.typeCall_bool_1 _) (F.newCall_bool_1 _) (fun obj => F.args_object_init_2 obj _) F.entry_bool_new ?_ ⟨ho, fun tk => ⟨rfl, h tk⟩⟩
  refine MeetsIn.of_wp fun A R s hs => ?_
  obtain ⟨hp, g, d, tk, os⟩ := s
  have f1 := F.conv_sub_bool
  repeat (any_goals (first | assumption | (with_reducible refine truthy_fro hs.1 S fun tk => ?_) | wp_step))
  all_goals first | exact ⟨_, rfl, hs.2 _⟩ | exact hs.2 _ | skip
end
end Mine
end

section
open PySem PySem.W PySem.Calls PySem.Spec PyProof.Rows
set_option maxRecDepth 100000
set_option maxHeartbeats 8000000
namespace Mine
theorem Fr.ext {h₀ h h' : Heap} {L : Addr} {m : Str → Option Value} (F : Fr h₀ L h m) (k : Ext h h') : Fr h₀ L h' m := Fr.kept F k
theorem News.ext {h₀ h h' : Heap} {L : Addr} {news : List (Addr × Obj)} (N : News h₀ L h news) (k : Ext h h') : News h₀ L h' news := fun p hp => ⟨k _ _ (N p hp).1, (N p hp).2⟩
theorem News.add {h₀ h h' : Heap} {L : Addr} {m : Str → Option Value} {news : List (Addr × Obj)} (F : Fr h₀ L h m) (N : News h₀ L h' news) {a : Addr} {o : Obj} (ha : h.get? a = none) (hoa : h'.get? a = some o) : News h₀ L h' ((a, o) :: news) := by
  obtain ⟨oL, _, _, hL, _⟩ := F.ns
  intro p hp
  rcases List.mem_cons.mp hp with rfl | hp
  · refine ⟨hoa, fun e => ?_, ?_⟩
    · have e' : a = L := e
      rw [e', hL] at ha; cases ha
    · cases hq : h₀.get? a with
      | none => rfl
      | some o' => rw [F.keep _ _ hq] at ha; cases ha
  · exact N p hp
theorem News.sub {h₀ h : Heap} {L : Addr} {news news' : List (Addr × Obj)} (N : News h₀ L h news) (k : ∀ p ∈ news', p ∈ news) : News h₀ L h news' := fun p hp => N p (k p hp)

def Held (hs g : Heap) (own : List (Addr × Obj)) : Prop := ∀ b o, hs.get? b = some o → b ∉ own.map (·.1) → g.get? b = some o
def Owns (h₀ h : Heap) (own : List (Addr × Obj)) : Prop := ∀ p ∈ own, h.get? p.1 = some p.2 ∧ h₀.get? p.1 = none
theorem Owns.of {h₀ h : Heap} {L : Addr} {own : List (Addr × Obj)} (N : News h₀ L h own) : Owns h₀ h own := fun p hp => ⟨(N p hp).1, (N p hp).2.2⟩
theorem Held.ext {hs g h' : Heap} {L' : Addr} {m' : Str → Option Value} {own fin : List (Addr × Obj)} (H : Held hs g own) (O : ∀ p ∈ own, hs.get? p.1 = some p.2) (F : Fr g L' h' m') (N : News g L' h' fin) (sub : ∀ p ∈ own, p ∈ fin) : Ext hs h' := by
  intro b o e
  by_cases hb : b ∈ own.map (·.1)
  · obtain ⟨p, hp, rfl⟩ := List.mem_map.mp hb
    rw [O p hp] at e
    cases e
    exact (N p (sub p hp)).1
  · exact F.keep _ _ (H _ _ e hb)

theorem enterG {prog : Program} {w : World} {A : Around} {s : Shared} {h₀ : Heap} {own : List (Addr × Obj)} {K : Frag} {p : Program} {loose : List Str} {mean : ExcName → Option Value} {mg mb : Str → Option Value} {R : Result → Shared → Prop} {name qual : Str} {params : Arguments} {body : List Stmt} {scope : Scope} {dV kV doc pm cdv ct oc : Value} {an od : Option Addr} {osl : Array (Option Value)} {f : Addr} {args : Args} {binds : List (Str × Value)}
    (X : K.In h₀) (T : Top p loose mean mg mb h₀) (k : Ext h₀ s.heap) (O : Owns h₀ s.heap own)
    (ho : K.lookup f = some ⟨oc, od, .func (fnOf name qual params body scope dV kV doc pm an cdv ct), osl⟩) (hcd : codeIn K cdv qual = true) (hroom : A.depth < recursionLimit)
    (hbind : BindsTo s (fnOf name qual params body scope dV kV doc pm an cdv ct) args binds) (hloc : ∀ y ∈ binds, scope.names.lookup y.1 = some .local)
    (h : ∀ g L' h₁, K.In g → Top p loose mean mg mb g → Ext h₀ g → Held s.heap g own → Fr g L' h₁ (fun y => binds.reverse.lookup y) → News g L' h₁ own →
      wpAny (model prog w) (A.deeper (envOf qual scope L' f cdv)) (execs body (envOf qual scope L' f cdv))
        (fun fl s' => R (.ok (.ret (match fl with | .ret v => v | _ => .none))) s') (fun _ _ => False)
        { s with heap := h₁, toks := s.toks + binds.length })
    (hco : scope.isCoroutine = false) (hgen : scope.isGenerator = false) (hk : scope.kind = .function)
    (hcell : ∀ x ∈ scope.names, x.2 ≠ .cell) : codeAny (model prog w) A (.call (.ref f) args) R s := by
  have nm : ∀ b o, h₀.get? b = some o → b ∉ own.map (·.1) := fun b o e q => by
    obtain ⟨p, hp, rfl⟩ := List.mem_map.mp q
    rw [(O p hp).2] at e; cases e
  have st : Ext h₀ (hideAll s.heap (own.map (·.1))) := fun b o e => hideAll_get _ (k b o e) (nm b o e)
  have X' := X.keeps k
  have T' := T.keeps k
  refine codeAny_call_def (fd := fnOf name qual params body scope dV kV doc pm an cdv ct) (body := body) (binds := binds) hroom (X' _ _ ho) rfl T'.nolimit (codeRec_of X' hcd) rfl hbind hcell hloc (fun h₁ hns hk₁ => ?_) hco hgen hk
  have Xg : K.In (hideAll s.heap (own.map (·.1))) := Frag.In.keeps X st
  have Tg : Top p loose mean mg mb (hideAll s.heap (own.map (·.1))) := Top.keeps T st
  refine wpAny_mono (h (hideAll s.heap (own.map (·.1))) s.heap.objs.size h₁ Xg Tg st (fun b o e n => hideAll_get _ e n) ⟨hns, fun b o e => hk₁ b o (of_hideAll _ e), Nat.le_of_eq (hideAll_size _ _)⟩ (fun p hp => ⟨hk₁ _ _ (O p hp).1, Nat.ne_of_lt (Heap.lt_size (O p hp).1), hideAll_none _ (List.mem_map_of_mem hp)⟩)) (fun _ _ x => x) (fun _ _ x => x.elim)

section
variable {prog : Program} {w : World} {A : Around} {E : Value → Shared → Prop} {s : Shared} {h₀ : Heap} {L : Addr} {m : Str → Option Value} {news : List (Addr × Obj)}
theorem fro_list_K {l : Addr} {vs : List Value} {ss : List Str} {Q : Value → Shared → Prop} (F : Fr h₀ L s.heap m) (N : News h₀ L s.heap news) (hh : A.handled = none) (hl : s.heap.IsList l vs.toArray) (hv : StrsAre vs ss) (h4 : ss.length ≤ 4)
    (h : ∀ f h' tk dr o' l', Fr h₀ L h' m → News h₀ L h' ((f, o') :: news) → (∀ p ∈ news, p.1 < f) → SSet w "frozenset" o' l' → (∀ y, y ∈ l' ↔ y ∈ ss) → l'.length ≤ ss.length → Q (.ref f) { s with heap := h', toks := tk, drawn := dr }) :
    wpAny (model prog w) A (call (.type "frozenset") [.ref l]) Q E s :=
  fro_list hh hl hv h4 fun h' tk o' l' hk ho' S' hm hle dr => h _ h' tk dr o' l' (Fr.kept F hk) (News.kept_cons F N hk (Nat.le_refl _) ho') (fun p hp => Heap.lt_size (N p hp).1) S' hm hle
theorem fro_tup0_K {l : Addr} {Q : Value → Shared → Prop} (F : Fr h₀ L s.heap m) (N : News h₀ L s.heap news) (hh : A.handled = none) (hl : IsTup s.heap l #[])
    (h : ∀ f h' tk dr o', Fr h₀ L h' m → News h₀ L h' ((f, o') :: news) → (∀ p ∈ news, p.1 < f) → SSet w "frozenset" o' [] → Q (.ref f) { s with heap := h', toks := tk, drawn := dr }) :
    wpAny (model prog w) A (call (.type "frozenset") [.ref l]) Q E s :=
  fro_tup0 hh (by obtain ⟨o, ho, hc, n, hd⟩ := hl; exact ⟨o, ho, hc, n, hd⟩) fun h' tk o' l' hk ho' S' hm dr => by
    subst hm
    exact h _ h' tk dr o' (Fr.kept F hk) (News.kept_cons F N hk (Nat.le_refl _) ho') (fun p hp => Heap.lt_size (N p hp).1) S'
theorem fro_none_K {Q : Value → Shared → Prop} (F : Fr h₀ L s.heap m) (N : News h₀ L s.heap news)
    (h : ∀ f h' o', Fr h₀ L h' m → News h₀ L h' ((f, o') :: news) → (∀ p ∈ news, p.1 < f) → SSet w "frozenset" o' [] → Q (.ref f) { s with heap := h' }) :
    wpAny (model prog w) A (call (.type "frozenset") []) Q E s :=
  fro_none fun o S => h _ _ o (Fr.kept F fun b ob e => Heap.get?_push_of_some _ e) (News.kept_cons F N (fun b ob e => Heap.get?_push_of_some _ e) (Nat.le_refl _) (Heap.get?_push_size _ S.live)) (fun p hp => Heap.lt_size (N p hp).1) S

theorem lst_via {hs g h : Heap} {L l : Addr} {m : Str → Option Value} {items : Array Value} (hl : hs.IsList l items) (k : Ext hs g) (F : Fr g L h m) : h.IsList l items := Fr.lst F (let ⟨o, ho, r⟩ := hl; ⟨o, k _ _ ho, r⟩)
theorem truthy_lst {l : Addr} {vs : List Value} {b : Bool} {Q : Bool → Shared → Prop} (hl : s.heap.IsList l vs.toArray) (hb : (!vs.isEmpty) = b) (hz : vs.length ≤ 100) (h : ∀ tk, Q b { s with toks := tk }) : wpAny (model prog w) A (truthy (.ref l)) Q E s := by
  refine wpAny_truthy_list hl (by simp; omega) ?_
  subst hb
  cases vs <;> exact h _

theorem strs_case {vs : List Value} {ss : List Str} (h : StrsAre vs ss) : (vs = [] ∧ ss = []) ∨ ∃ v r, vs = v :: r := by
  cases h with
  | nil => exact .inl ⟨rfl, rfl⟩
  | cons x t r => exact .inr ⟨_, _, rfl⟩

theorem make_own {K : Frag} {C fI : Addr} {pos : List Value} {kw : List (Str × Value)} {Q : Value → Shared → Prop} (X : K.In s.heap) (hm : makesIn K C = true) (hi : findIn K (.ref C) "__init__" = some (some (.ref fI))) (hf : isFn K (.ref fI) = true)
    (h : ∀ x d hx, Ext s.heap hx → Owns s.heap hx [(x, instObj C d), (d, dictOf [] 0)] → d < x →
      codeAny (model prog w) (A.under (.builtin "type.__call__" ⟨.ref C :: pos, kw⟩)) (.call (.ref fI) ⟨.ref x :: pos, kw⟩) (InitBack x fun r s' => match r with | .ok (.ret v) => Q v s' | .ok _ => False | .error e => E e s') { s with heap := hx }) :
    wpAny (model prog w) A (call (.ref C) pos kw) Q E s := by
  refine wpAny_call ?_
  obtain ⟨hh, g, d, t, os⟩ := s
  refine make_core (makes_of X hm) (looks_findIn X hi) (fun self => bind_fn X self (beq_iff_eq.mp hf)) (.inl rfl) (h (hh.objs.size + 1) hh.objs.size _ (fun b o e => Heap.get?_push_of_some _ (Heap.get?_push_of_some _ e)) ?_ (Nat.lt_succ_self _))
  have e1 : hh.get? hh.objs.size = none := by
    cases q : hh.get? hh.objs.size with
    | none => rfl
    | some o => exact absurd (Heap.lt_size q) (Nat.lt_irrefl _)
  have e2 : hh.get? (hh.objs.size + 1) = none := by
    cases q : hh.get? (hh.objs.size + 1) with
    | none => rfl
    | some o => exact absurd (Heap.lt_size q) (Nat.not_lt.mpr (Nat.le_succ _))
  intro p hp
  rcases List.mem_cons.mp hp with rfl | hp
  · refine ⟨?_, e2⟩
    have := Heap.get?_push_size (h := hh.push emptyDict) (o := instObj C hh.objs.size) rfl
    rwa [Heap.size_push] at this
  · rw [List.mem_singleton.mp hp]
    exact ⟨Heap.get?_push_of_some _ (Heap.get?_push_size _ rfl), e1⟩

abbrev etDict (w : World) (t1 t2 t3 : Tok) (fs fw : Addr) (star : Bool) : Obj := dictOf [⟨PyData.keyHash w.params (Str.ofString "_strong"), .str (Str.ofString "_strong") t1, .ref fs⟩, ⟨PyData.keyHash w.params (Str.ofString "_weak"), .str (Str.ofString "_weak") t2, .ref fw⟩, ⟨PyData.keyHash w.params (Str.ofString "star_tag"), .str (Str.ofString "star_tag") t3, .bool star⟩] 3

/-- an ETags at x, of h, new to h0: the strong tags S, the weak ones W -/
def ETs (w : World) (h0 h : Heap) (x : Addr) (S W : List Str) (star : Bool) : Prop :=
  ∃ d fs fw o1 o2 t1 t2 t3, Owns h0 h [(x, instObj 140 d), (d, etDict w t1 t2 t3 fs fw star), (fs, o1), (fw, o2)] ∧ SSet w "frozenset" o1 S ∧ SSet w "frozenset" o2 W

theorem ETs.of_news {h0 g h : Heap} {L x d fs fw : Addr} {o1 o2 : Obj} {t1 t2 t3 : Tok} {S W : List Str} {star : Bool} {news : List (Addr × Obj)} (N : News g L h news) (k : Ext h0 g) (m1 : (x, instObj 140 d) ∈ news) (m2 : (d, etDict w t1 t2 t3 fs fw star) ∈ news) (m3 : (fs, o1) ∈ news) (m4 : (fw, o2) ∈ news) (S1 : SSet w "frozenset" o1 S) (S2 : SSet w "frozenset" o2 W) : ETs w h0 h x S W star := by
  have key : ∀ p ∈ news, h.get? p.1 = some p.2 ∧ h0.get? p.1 = none := fun p hp => ⟨(N p hp).1, by
    cases q : h0.get? p.1 with
    | none => rfl
    | some o => have := (N p hp).2.2; rw [k _ _ q] at this; cases this⟩
  refine ⟨d, fs, fw, o1, o2, t1, t2, t3, fun p hp => ?_, S1, S2⟩
  rcases List.mem_cons.mp hp with rfl | hp
  · exact key _ m1
  rcases List.mem_cons.mp hp with rfl | hp
  · exact key _ m2
  rcases List.mem_cons.mp hp with rfl | hp
  · exact key _ m3
  rw [List.mem_singleton.mp hp]; exact key _ m4
/-- what a maker of an ETags hands back -/
def EPost (w : World) (h0 : Heap) (ss ws : List Str) (star : Bool) (h' : Heap) (v : Value) : Prop :=
  ∃ x S W, v = .ref x ∧ ETs w h0 h' x S W star ∧ (∀ y, y ∈ S ↔ y ∈ ss) ∧ (∀ y, y ∈ W ↔ y ∈ ws) ∧ S.length ≤ ss.length ∧ W.length ≤ ws.length
theorem EPost.mk {h0 g h : Heap} {L x d fs fw : Addr} {o1 o2 : Obj} {t1 t2 t3 : Tok} {S W ss ws : List Str} {star : Bool} {news : List (Addr × Obj)} (N : News g L h news) (k : Ext h0 g) (m1 : (x, instObj 140 d) ∈ news) (m2 : (d, etDict w t1 t2 t3 fs fw star) ∈ news) (m3 : (fs, o1) ∈ news) (m4 : (fw, o2) ∈ news) (S1 : SSet w "frozenset" o1 S) (S2 : SSet w "frozenset" o2 W)
    (e1 : ∀ y, y ∈ S ↔ y ∈ ss) (e2 : ∀ y, y ∈ W ↔ y ∈ ws) (l1 : S.length ≤ ss.length) (l2 : W.length ≤ ws.length) : EPost w h0 ss ws star h (.ref x) :=
  ⟨x, S, W, rfl, ETs.of_news N k m1 m2 m3 m4 S1 S2, e1, e2, l1, l2⟩
end
end Mine
end

section
open PySem PySem.W PySem.Calls PySem.Spec PyProof.Rows
set_option maxRecDepth 100000
set_option maxHeartbeats 8000000
namespace Mine
local macro_rules | `(tactic| k_enter) => `(tactic| (refine' enterG ?k1 ?k2 ?k3 ?k4 ?k6 ?k7 ?k8 ?k9 ?kB ?_ ?c2 ?c3 ?c4 ?c5; (case k1 => assumption); (case k2 => assumption); (case k3 => with_unfolding_all assumption); (case k4 => with_unfolding_all assumption); (case k6 => k_is); (case k7 => k_is); (case k8 => (have := (by assumption : Room _).hd; (try simp only [depth_under_make, depth_under_kw, depth_in1, depth_deeper, depth_caller]); omega)); (case k9 => first | exact BindsTo.of_eq rfl | exact binds_K (by first | k_in | exact Frag.In.keeps (by assumption) (by assumption)) rfl (by k_is) rfl rfl rfl | fail "k_enter: no rule for these arguments"); (case c5 => decide); (case kB => exact locs rfl); (case c2 => exact rfl); (case c3 => exact rfl); (case c4 => exact rfl); k_whole; intro g' L' h' X' T' kg' H' F' N'; (try dsimp only); (try k_fold)))
local macro_rules | `(tactic| walk_at "call type:frozenset") => `(tactic| (k_here; k_dflt (first
  | (refine' fro_none_K ?k1 ?k2 ?_; (case k1 => k_asm); (case k2 => k_asm); k_whole; intro f' h' o' F' N' l1 S'; (try k_lt l1))
  | (refine' fro_list_K ?k1 ?k2 ?k3 ?k4 ?k5 ?k6 ?_; (case k1 => k_asm); (case k2 => k_asm); (case k3 => (have q := (by assumption : Room _).hh; exact q)); (case k4 => first | k_asm | exact lst_via (by assumption) (by assumption) (by assumption)); (case k5 => assumption); (case k6 => assumption); k_whole; intro f' h' tk' dr' o' l' F' N' l1 S' hm' hn'; (try k_lt l1))
  | (refine' fro_tup0_K ?k1 ?k2 ?k3 ?k4 ?_; (case k1 => k_asm); (case k2 => k_asm); (case k3 => (have q := (by assumption : Room _).hh; exact q)); (case k4 => exact tup_news (by k_asm) (by k_mem)); k_whole; intro f' h' tk' dr' o' F' N' l1 S'; (try k_lt l1)))))
local macro_rules | `(tactic| walk_at "truthy ref") => `(tactic| (k_here; (with_reducible show wpAny _ _ (truthy (Value.ref _)) _ _ _); k_dflt (first
  | (refine' truthy_lst (b := true) ?k1 ?k2 ?k3 ?_; (case k1 => exact lst_via (by assumption) (by assumption) (by assumption)); (case k2 => rfl); (case k3 => assumption); k_whole; intro tk')
  | (refine' truthy_lst (b := false) ?k1 ?k2 ?k3 ?_; (case k1 => exact lst_via (by assumption) (by assumption) (by assumption)); (case k2 => rfl); (case k3 => assumption); k_whole; intro tk'))))
local macro_rules | `(tactic| walk_at "m:edone") => `(tactic| (refine' Out.done ?zh ?zk1 ?zk2 ?zg ?zo; (case zh => assumption); (case zg => rfl); (case zo => rfl); (case zk1 => exact (Ext.trans (by assumption) (Fr.keep (by assumption)))); (case zk2 => refine' EPost.mk ?zN ?zk ?zm1 ?zm2 ?zm3 ?zm4 ?zS1 ?zS2 ?ze1 ?ze2 ?zl1 ?zl2; (case zN => assumption); (case zk => assumption); (case zm1 => k_mem); (case zm2 => k_mem); (case zm3 => k_mem); (case zm4 => k_mem); (case zS1 => assumption); (case zS2 => assumption); all_goals (first | assumption | (simp; done) | (simp; assumption)))))
section
variable {p : Program} {loose : List Str} {w : World} {A : Around} {s : Shared} {mean : ExcName → Option Value} {mg mb : Str → Option Value} {Q E : Value → Shared → Prop} {h₀ : Heap} {L : Addr} {m : Str → Option Value}

theorem etags0 (RM : Room A) (X : (hd.heap_39 w.params).In s.heap) (T : Top p loose mean mg mb s.heap) 
   (h : Out s (EPost w s.heap [] [] false) Q) :
   wpAny (model PySem.Challenge.rw_ez0425_01.row.prog w) A (call (.ref 140) []) Q E s := by
  revert X T
  k_fill
  intro X T
  refine' make_own ?k1 ?k4 ?k5 ?k6 ?_
  case k1 => exact X
  case k4 => k_is
  case k5 => k_is
  case k6 => k_is
  k_whole
  intro x' d' h' kx O l2
  k_lt2 l2
  k_dflt k_enter
  k_steps
  refine ⟨rfl, ?_⟩
  walk_at "m:edone"
theorem etags_star (RM : Room A) (X : (hd.heap_39 w.params).In s.heap) (T : Top p loose mean mg mb s.heap) 
   (h : Out s (EPost w s.heap [] [] true) Q) :
   wpAny (model PySem.Challenge.rw_ez0425_01.row.prog w) A (call (.ref 140) [] [(Str.ofString "star_tag", .bool true)]) Q E s := by
  refine' make_own ?k1 ?k4 ?k5 ?k6 ?_
  case k1 => exact X
  case k4 => k_is
  case k5 => k_is
  case k6 => k_is
  k_whole
  intro x' d' h' kx O l2
  k_lt2 l2
  k_dflt k_enter
  k_steps
  refine ⟨rfl, ?_⟩
  walk_at "m:edone"
theorem etags_lists {ls lw : Addr} {vs1 vs2 : List Value} {ss ws : List Str} (hl1 : s.heap.IsList ls vs1.toArray) (hv1 : StrsAre vs1 ss) (hl2 : s.heap.IsList lw vs2.toArray) (hv2 : StrsAre vs2 ws) (h41 : ss.length ≤ 4) (h42 : ws.length ≤ 4)
   (RM : Room A) (X : (hd.heap_39 w.params).In s.heap) (T : Top p loose mean mg mb s.heap) 
   (h : Out s (EPost w s.heap ss ws false) Q) :
   wpAny (model PySem.Challenge.rw_ez0425_01.row.prog w) A (call (.ref 140) [.ref ls, .ref lw]) Q E s := by
  have z1 : vs1.length ≤ 100 := by rw [StrsAre.len_eq hv1]; omega
  have z2 : vs2.length ≤ 100 := by rw [StrsAre.len_eq hv2]; omega
  refine' make_own ?k1 ?k4 ?k5 ?k6 ?_
  case k1 => exact X
  case k4 => k_is
  case k5 => k_is
  case k6 => k_is
  k_whole
  intro x' d' h' kx O l2
  k_lt2 l2
  k_dflt k_enter
  rcases strs_case hv1 with ⟨rfl, rfl⟩ | ⟨v1, r1, rfl⟩ <;> rcases strs_case hv2 with ⟨rfl, rfl⟩ | ⟨v2, r2, rfl⟩
  all_goals k_steps
  all_goals refine ⟨rfl, ?_⟩
  all_goals walk_at "m:edone"
end
end Mine
end

section
open PySem PySem.W PySem.Calls PySem.Spec PyProof.Rows
set_option maxRecDepth 100000
set_option maxHeartbeats 8000000
namespace Mine
theorem Held.fresh {hs g : Heap} {own : List (Addr × Obj)} {a : Addr} (H : Held hs g own) (hg : g.get? a = none) (hn : ∀ p ∈ own, p.1 ≠ a) : hs.get? a = none := by
  cases q : hs.get? a with
  | none => rfl
  | some o =>
    rw [H a o q fun hm => by obtain ⟨p, hp, e⟩ := List.mem_map.mp hm; exact hn p hp e] at hg
    cases hg
section
variable {prog : Program} {w : World} {A : Around} {E : Value → Shared → Prop} {s : Shared} {h₀ : Heap} {L : Addr} {m : Str → Option Value} {news : List (Addr × Obj)}
theorem set_fro_K {f : Addr} {ob : Obj} {lb : List Str} {Q : Value → Shared → Prop} (F : Fr h₀ L s.heap m) (N : News h₀ L s.heap news) (hm : (f, ob) ∈ news) (Sb : SSet w "frozenset" ob lb)
    (h : ∀ a h' tk dr o' l', Fr h₀ L h' m → News h₀ L h' ((a, o') :: news) → (∀ p ∈ news, p.1 < a) → SSet w "set" o' l' → (∀ y, y ∈ l' ↔ y ∈ lb) → l'.length ≤ lb.length → Q (.ref a) { s with heap := h', toks := tk, drawn := dr }) :
    wpAny (model prog w) A (call (.type "set") [.ref f]) Q E s :=
  set_fro (N _ hm).1 Sb fun h' tk dr o' l' hk ho' S' hm' hle => h _ h' tk dr o' l' (Fr.kept F hk) (News.kept_cons F N hk (Nat.le_refl _) ho') (fun p hp => Heap.lt_size (N p hp).1) S' hm' hle
theorem set_list_K {l : Addr} {vs : List Value} {ss : List Str} {Q : Value → Shared → Prop} (F : Fr h₀ L s.heap m) (N : News h₀ L s.heap news) (hh : A.handled = none) (hl : s.heap.IsList l vs.toArray) (hv : StrsAre vs ss) (h4 : ss.length ≤ 4)
    (h : ∀ a h' tk dr o' l', Fr h₀ L h' m → News h₀ L h' ((a, o') :: news) → (∀ p ∈ news, p.1 < a) → SSet w "set" o' l' → (∀ y, y ∈ l' ↔ y ∈ ss) → l'.length ≤ ss.length → Q (.ref a) { s with heap := h', toks := tk, drawn := dr }) :
    wpAny (model prog w) A (call (.type "set") [.ref l]) Q E s :=
  set_list hh hl hv h4 fun h' tk dr o' l' hk ho' S' hm hle => h _ h' tk dr o' l' (Fr.kept F hk) (News.kept_cons F N hk (Nat.le_refl _) ho') (fun p hp => Heap.lt_size (N p hp).1) S' hm hle
theorem getMethod_update_K {a : Addr} {o : Obj} {l : List Str} {pl : Sem Bool} {Q : Value × List Value → Shared → Prop} (N : News h₀ L s.heap news) (hm : (a, o) ∈ news) (S : SSet w "set" o l) (h : Q (.builtin "set.update", [.ref a]) s) :
    wpAny (model prog w) A (getMethod (.ref a) "update" pl) Q E s :=
  getMethod_builtin (T := "set") ⟨_, (N _ hm).1, S.1⟩ F.plainAttrs_set F.slot_set_update F.type_set_update (fun b e => by injection e with e; subst e; exact ⟨_, (N _ hm).1, S.2.1⟩) h
theorem set_update_K {a b : Addr} {o ob : Obj} {l0 lb : List Str} {news' : Obj → List (Addr × Obj)} {Q : Value → Shared → Prop} (F : Fr h₀ L s.heap m) (N : News h₀ L s.heap news) (hma : (a, o) ∈ news) (S : SSet w "set" o l0) (hmb : (b, ob) ∈ news) (Sb : SSet w "frozenset" ob lb) (hne : b ≠ a) (h4 : l0.length + lb.length ≤ 4) (U : ∀ o', Upd a o o' news (news' o'))
    (h : ∀ h' dr o' l', Fr h₀ L h' m → News h₀ L h' (news' o') → SSet w "set" o' l' → (∀ y, y ∈ l' ↔ y ∈ l0 ∨ y ∈ lb) → Q .none { s with heap := h', drawn := dr }) :
    wpAny (model prog w) A (call (.builtin "set.update") [.ref a, .ref b]) Q E s := by
  have z := N _ hma
  refine set_update z.1 S (N _ hmb).1 Sb (.inr rfl) (Ne.symm hne) h4 fun h' dr o' l' hs ho' S' hm hle => ?_
  obtain ⟨pre, post, e1, e2, a1, b1⟩ := (U o').split
  subst e1
  refine h h' dr o' l' (F.change hs z.2.1 z.2.2) ?_ S' hm
  rw [e2]
  exact news_set N a1 b1 hs ho'
theorem in_fro_K {f : Addr} {o : Obj} {l : List Str} {x : Str} {tk : Tok} {Q : Value → Shared → Prop} (N : News h₀ L s.heap news) (hm : (f, o) ∈ news) (S : SSet w "frozenset" o l)
    (h : ∀ tk', Q (.bool (decide (x ∈ l))) { s with toks := tk' }) : wpAny (model prog w) A (compareOp .In (.str x tk) (.ref f)) Q E s := in_fro (N _ hm).1 S h
theorem truthy_fro_K {f : Addr} {o : Obj} {l : List Str} {b : Bool} {Q : Bool → Shared → Prop} (N : News h₀ L s.heap news) (hm : (f, o) ∈ news) (S : SSet w "frozenset" o l) (hb : (!l.isEmpty) = b)
    (h : ∀ tk', Q b { s with toks := tk' }) : wpAny (model prog w) A (truthy (.ref f)) Q E s := truthy_fro (N _ hm).1 S (by rw [hb]; exact h)
end
local macro_rules | `(tactic| k_enter) => `(tactic| (refine' enterG ?k1 ?k2 ?k3 ?k4 ?k6 ?k7 ?k8 ?k9 ?kB ?_ ?c2 ?c3 ?c4 ?c5; (case k1 => assumption); (case k2 => assumption); (case k3 => with_unfolding_all assumption); (case k4 => with_unfolding_all assumption); (case k6 => k_is); (case k7 => k_is); (case k8 => (have := (by assumption : Room _).hd; (try simp only [depth_under_make, depth_under_kw, depth_in1, depth_deeper, depth_caller]); omega)); (case k9 => first | exact BindsTo.of_eq rfl | exact binds_K (by first | k_in | exact Frag.In.keeps (by assumption) (by assumption)) rfl (by k_is) rfl rfl rfl | fail "k_enter: no rule for these arguments"); (case c5 => decide); (case kB => exact locs rfl); (case c2 => exact rfl); (case c3 => exact rfl); (case c4 => exact rfl); k_whole; intro g' L' h' X' T' kg' H' F' N'; (try dsimp only); (try k_fold)))
local macro_rules | `(tactic| walk_at "call type:set") => `(tactic| (k_here; k_dflt (refine' set_fro_K ?k1 ?k2 ?k3 ?k4 ?_; (case k1 => k_asm); (case k2 => k_asm); (case k3 => k_mem); (case k4 => assumption); k_whole; intro f' h' tk' dr' o' l' F' N' l1 S' hm' hn'; (try k_lt l1))))
local macro_rules | `(tactic| walk_at "getMethod ref") => `(tactic| (k_here; (with_reducible show wpAny _ _ (getMethod (Value.ref _) (Str.ofString "update") _) _ _ _); k_dflt (refine' getMethod_update_K ?k1 ?k2 ?k3 ?_; (case k1 => k_asm); (case k2 => k_mem); (case k3 => assumption); k_whole)))
local macro_rules | `(tactic| walk_at "call builtin:set.update") => `(tactic| (k_here; k_dflt (refine' set_update_K ?k1 ?k2 ?k3 ?k4 ?k5 ?k6 ?k7 ?k8 ?k9 ?_; (case k1 => k_asm); (case k2 => k_asm); (case k3 => k_mem); (case k4 => assumption); (case k5 => k_mem); (case k6 => assumption); (case k7 => k_ne); (case k8 => omega); (case k9 => (intro o'; k_upd)); k_whole; intro h' dr' o' l' F' N' S' hm')))
local macro_rules | `(tactic| walk_at "m:sub") => `(tactic| ((repeat (refine' List.forall_mem_cons.mpr ⟨?_, ?_⟩; rotate_left; (try exact List.forall_mem_nil _))); all_goals k_mem))
local macro_rules | `(tactic| walk_at "m:ext") => `(tactic| (refine' Held.ext ?zH ?zO ?zF ?zN ?zS; (case zH => assumption); (case zF => assumption); (case zN => assumption); (case zO => (intro p hp; exact (((by assumption : Owns _ _ _) p hp).1))); (case zS => walk_at "m:sub")))
local macro_rules | `(tactic| walk_at "m:spost") => `(tactic| (refine' ⟨_, _, _, rfl, Held.fresh ?zH ?zg ?zn, ?zm, ?zS, ?zM⟩; (case zH => assumption); (case zg => (refine' ((by assumption : News _ _ _ _) (_, _) ?zz).2.2; (case zz => k_mem))); (case zn => k_all); (case zm => (refine' ((by assumption : News _ _ _ _) (_, _) ?zz2).1; (case zz2 => k_mem))); (case zS => assumption); (case zM => first | assumption | (intro y; simp only [*]))))
section
variable {p : Program} {loose : List Str} {w : World} {A : Around} {s : Shared} {mean : ExcName → Option Value} {mg mb : Str → Option Value} {Q E : Value → Shared → Prop} {h₀ : Heap}

def SPost (w : World) (h0 : Heap) (P : Str → Prop) (h' : Heap) (v : Value) : Prop := ∃ a o l, v = .ref a ∧ h0.get? a = none ∧ h'.get? a = some o ∧ SSet w "set" o l ∧ ∀ y, y ∈ l ↔ P y
theorem as_set_spec {x : Addr} {S W : List Str} {star : Bool} (RM : Room A) (X : (hd.heap_39 w.params).In h₀) (T : Top p loose mean mg mb h₀) (k : Ext h₀ s.heap) (O : ETs w h₀ s.heap x S W star)
   (h : Out s (SPost w s.heap (fun y => y ∈ S)) Q) :
   wpAny (model PySem.Challenge.rw_ez0425_01.row.prog w) A (call (.ref 54) [.ref x]) Q E s := by
  revert X T
  k_fill
  intro X T
  obtain ⟨d, fs, fw, o1, o2, t1, t2, t3, O, S1, S2⟩ := O
  refine wpAny_call ?_
  k_dflt k_enter
  k_steps
  refine' Out.done h ?zk1 ?zk2 rfl rfl
  case zk1 => walk_at "m:ext"
  case zk2 => walk_at "m:spost"
theorem as_set_specw {x : Addr} {S W : List Str} {star : Bool} (h4 : S.length + W.length ≤ 4) (RM : Room A) (X : (hd.heap_39 w.params).In h₀) (T : Top p loose mean mg mb h₀) (k : Ext h₀ s.heap) (O : ETs w h₀ s.heap x S W star)
   (h : Out s (SPost w s.heap (fun y => y ∈ S ∨ y ∈ W)) Q) :
   wpAny (model PySem.Challenge.rw_ez0425_01.row.prog w) A (call (.ref 54) [.ref x] [(Str.ofString "include_weak", .bool true)]) Q E s := by
  obtain ⟨d, fs, fw, o1, o2, t1, t2, t3, O, S1, S2⟩ := O
  refine wpAny_call ?_
  k_dflt k_enter
  k_steps
  refine' Out.done h ?zk1 ?zk2 rfl rfl
  case zk1 => walk_at "m:ext"
  case zk2 => walk_at "m:spost"
end
end Mine
end

section
open PySem PySem.W PySem.Calls PySem.Spec PyProof.Rows
set_option maxRecDepth 100000
set_option maxHeartbeats 8000000
namespace Mine
theorem out_K {s : Shared} {h₀ : Heap} {L : Addr} {m : Str → Option Value} {news : List (Addr × Obj)} {Post : Heap → Value → Prop} {Q : Value → Shared → Prop} (F : Fr h₀ L s.heap m) (N : News h₀ L s.heap news)
    (h : ∀ h' tk dr v, Fr h₀ L h' m → News h₀ L h' news → Ext s.heap h' → Post h' v → Q v { s with heap := h', toks := tk, drawn := dr }) : Out s Post Q :=
  fun h' tk dr v k p => h h' tk dr v (Fr.ext F k) (News.ext N k) k p
theorem bool_fro_K {prog : Program} {w : World} {A : Around} {E : Value → Shared → Prop} {s : Shared} {h₀ : Heap} {L : Addr} {news : List (Addr × Obj)} {f : Addr} {o : Obj} {l : List Str} {b : Bool} {Q : Value → Shared → Prop} (N : News h₀ L s.heap news) (hm : (f, o) ∈ news) (S : SSet w "frozenset" o l) (hb : (!l.isEmpty) = b)
    (h : ∀ tk', Q (.bool b) { s with toks := tk' }) : wpAny (model prog w) A (call (.type "bool") [.ref f]) Q E s := bool_fro (N _ hm).1 S (by rw [hb]; exact h)
local macro_rules | `(tactic| k_enter) => `(tactic| (refine' enterG ?k1 ?k2 ?k3 ?k4 ?k6 ?k7 ?k8 ?k9 ?kB ?_ ?c2 ?c3 ?c4 ?c5; (case k1 => assumption); (case k2 => assumption); (case k3 => with_unfolding_all assumption); (case k4 => with_unfolding_all assumption); (case k6 => k_is); (case k7 => k_is); (case k8 => (have := (by assumption : Room1 _).hd; (try simp only [depth_under_make, depth_under_kw, depth_in1, depth_deeper, depth_caller]); omega)); (case k9 => first | exact BindsTo.of_eq rfl | exact binds_K (by first | k_in | exact Frag.In.keeps (by assumption) (by assumption)) rfl (by k_is) rfl rfl rfl | fail "k_enter: no rule for these arguments"); (case c5 => decide); (case kB => exact locs rfl); (case c2 => exact rfl); (case c3 => exact rfl); (case c4 => exact rfl); k_whole; intro g' L' h' X' T' kg' H' F' N'; (try dsimp only); (try k_fold)))
local macro_rules | `(tactic| walk_at "compareOp In") => `(tactic| (k_here; (with_reducible show wpAny _ _ (compareOp CmpOp.In (Value.str _ _) (Value.ref _)) _ _ _); k_dflt (refine' in_fro_K ?k1 ?k2 ?k3 ?_; (case k1 => k_asm); (case k2 => k_mem); (case k3 => assumption); k_whole; intro tk')))
local macro_rules | `(tactic| walk_at "truthy ref") => `(tactic| (k_here; (with_reducible show wpAny _ _ (truthy (Value.ref _)) _ _ _); k_dflt (refine' truthy_fro_K ?k1 ?k2 ?k3 ?k4 ?_; (case k1 => k_asm); (case k2 => k_mem); (case k3 => assumption); (case k4 => assumption); k_whole; intro tk')))
local macro_rules | `(tactic| walk_at "call type:bool") => `(tactic| (k_here; (with_reducible show wpAny _ _ (call (Value.type "bool") [Value.ref _]) _ _ _); k_dflt (refine' bool_fro_K ?k1 ?k2 ?k3 ?k4 ?_; (case k1 => k_asm); (case k2 => k_mem); (case k3 => assumption); (case k4 => assumption); k_whole; intro tk')))
local macro_rules | `(tactic| walk_at "m:sub") => `(tactic| ((repeat (refine' List.forall_mem_cons.mpr ⟨?_, ?_⟩; rotate_left; (try exact List.forall_mem_nil _))); all_goals k_mem))
local macro_rules | `(tactic| walk_at "m:ext") => `(tactic| (refine' Held.ext ?zH ?zO ?zF ?zN ?zS; (case zH => assumption); (case zF => assumption); (case zN => assumption); (case zO => (intro p hp; exact (((by assumption : Owns _ _ _) p hp).1))); (case zS => walk_at "m:sub")))
section
variable {p : Program} {loose : List Str} {w : World} {A : Around} {s : Shared} {mean : ExcName → Option Value} {mg mb : Str → Option Value} {Q E : Value → Shared → Prop} {h₀ : Heap}

theorem is_strong_spec {x : Addr} {S W : List Str} {star : Bool} {y : Str} {t : Tok} (RM : Room1 A) (X : (hd.heap_39 w.params).In h₀) (T : Top p loose mean mg mb h₀) (k : Ext h₀ s.heap) (O : ETs w h₀ s.heap x S W star)
   (h : Out s (fun _ v => v = .bool (decide (y ∈ S))) Q) :
   wpAny (model PySem.Challenge.rw_ez0425_01.row.prog w) A (call (.ref 68) [.ref x, .str y t]) Q E s := by
  revert X T
  k_fill
  intro X T
  obtain ⟨d, fs, fw, o1, o2, t1, t2, t3, O, S1, S2⟩ := O
  refine wpAny_call ?_
  k_dflt k_enter
  k_steps
  refine Out.done h ?_ rfl rfl rfl
  walk_at "m:ext"
theorem is_weak_spec {x : Addr} {S W : List Str} {star : Bool} {y : Str} {t : Tok} (RM : Room1 A) (X : (hd.heap_39 w.params).In h₀) (T : Top p loose mean mg mb h₀) (k : Ext h₀ s.heap) (O : ETs w h₀ s.heap x S W star)
   (h : Out s (fun _ v => v = .bool (decide (y ∈ W))) Q) :
   wpAny (model PySem.Challenge.rw_ez0425_01.row.prog w) A (call (.ref 61) [.ref x, .str y t]) Q E s := by
  obtain ⟨d, fs, fw, o1, o2, t1, t2, t3, O, S1, S2⟩ := O
  refine wpAny_call ?_
  k_dflt k_enter
  k_steps
  refine Out.done h ?_ rfl rfl rfl
  walk_at "m:ext"
theorem et_bool_spec {x : Addr} {S W : List Str} {star : Bool} (RM : Room1 A) (X : (hd.heap_39 w.params).In h₀) (T : Top p loose mean mg mb h₀) (k : Ext h₀ s.heap) (O : ETs w h₀ s.heap x S W star)
   (h : Out s (fun _ v => v = .bool (star || (!S.isEmpty || !W.isEmpty))) Q) :
   wpAny (model PySem.Challenge.rw_ez0425_01.row.prog w) A (call (.ref 102) [.ref x]) Q E s := by
  obtain ⟨d, fs, fw, o1, o2, t1, t2, t3, O, S1, S2⟩ := O
  cases star
  · cases hs : (!S.isEmpty)
    · rw [hs] at h
      cases hw : (!W.isEmpty)
      · rw [hw] at h
        refine wpAny_call ?_
        k_dflt k_enter
        k_steps
        refine Out.done h ?_ rfl rfl rfl
        walk_at "m:ext"
      · rw [hw] at h
        refine wpAny_call ?_
        k_dflt k_enter
        k_steps
        refine Out.done h ?_ rfl rfl rfl
        walk_at "m:ext"
    · rw [hs] at h
      cases hw : (!W.isEmpty)
      all_goals rw [hw] at h
      all_goals (
        refine wpAny_call ?_
        k_dflt k_enter
        k_steps)
      all_goals (
        refine Out.done h ?_ rfl rfl rfl
        walk_at "m:ext")
  · refine wpAny_call ?_
    k_dflt k_enter
    k_steps
    refine Out.done h ?_ rfl rfl rfl
    walk_at "m:ext"
end
end Mine
end

section
open PySem PySem.W PySem.Calls PySem.Spec PyProof.Rows
set_option maxRecDepth 100000
set_option maxHeartbeats 8000000
namespace Mine
local macro_rules | `(tactic| k_enter) => `(tactic| (refine' enterG ?k1 ?k2 ?k3 ?k4 ?k6 ?k7 ?k8 ?k9 ?kB ?_ ?c2 ?c3 ?c4 ?c5; (case k1 => assumption); (case k2 => assumption); (case k3 => with_unfolding_all assumption); (case k4 => with_unfolding_all assumption); (case k6 => k_is); (case k7 => k_is); (case k8 => (have := (by assumption : Room _).hd; (try simp only [depth_under_make, depth_under_kw, depth_in1, depth_deeper, depth_caller]); omega)); (case k9 => first | exact BindsTo.of_eq rfl | exact binds_K (by first | k_in | exact Frag.In.keeps (by assumption) (by assumption)) rfl (by k_is) rfl rfl rfl | fail "k_enter: no rule for these arguments"); (case c5 => decide); (case kB => exact locs rfl); (case c2 => exact rfl); (case c3 => exact rfl); (case c4 => exact rfl); k_whole; intro g' L' h' X' T' kg' H' F' N'; (try dsimp only); (try k_fold)))
local macro_rules | `(tactic| walk_at "m:sub") => `(tactic| ((repeat (refine' List.forall_mem_cons.mpr ⟨?_, ?_⟩; rotate_left; (try exact List.forall_mem_nil _))); all_goals k_mem))
local macro_rules | `(tactic| walk_at "m:ext") => `(tactic| (refine' Held.ext ?zH ?zO ?zF ?zN ?zS; (case zH => assumption); (case zF => assumption); (case zN => assumption); (case zO => (intro p hp; exact (((by assumption : Owns _ _ _) p hp).1))); (case zS => walk_at "m:sub")))
theorem Room.one {A : Around} (R : Room A) : Room1 A := ⟨R.hh, by have := R.hd; omega, by have := R.hu; omega⟩
theorem Room1.deeper {A : Around} {env : Env} (R : Room A) : Room1 (A.deeper env) := ⟨R.hh, by have := R.hd; rw [depth_deeper]; omega, by have := R.hu; show A.units + _ + 200 < _; omega⟩
structure Room2 (A : Around) : Prop where
  hh : A.handled = none
  hd : A.depth + 60 < recursionLimit
  hu : A.units + 600 < cLine
structure Room3 (A : Around) : Prop where
  hh : A.handled = none
  hd : A.depth + 80 < recursionLimit
  hu : A.units + 800 < cLine
theorem Room.deeper {A : Around} {env : Env} (R : Room2 A) : Room (A.deeper env) := ⟨R.hh, by have := R.hd; rw [depth_deeper]; omega, by have := R.hu; show A.units + _ + 400 < _; omega⟩
theorem Room2.deeper {A : Around} {env : Env} (R : Room3 A) : Room2 (A.deeper env) := ⟨R.hh, by have := R.hd; rw [depth_deeper]; omega, by have := R.hu; show A.units + _ + 600 < _; omega⟩
theorem Room2.zero {A : Around} (R : Room2 A) : Room A := ⟨R.hh, by have := R.hd; omega, by have := R.hu; omega⟩
theorem Room3.two {A : Around} (R : Room3 A) : Room2 A := ⟨R.hh, by have := R.hd; omega, by have := R.hu; omega⟩
local macro_rules | `(tactic| walk_at "call ref") => `(tactic| (k_here; (with_reducible show wpAny _ _ (call (Value.ref 68) [Value.ref _, Value.str _ _]) _ _ _); k_dflt (refine' is_strong_spec ?k1 ?k2 ?k3 ?k4 ?k5 (out_K ?k6 ?k7 ?_); (case k1 => first | exact Room1.deeper (by assumption) | exact Room.one (Room.deeper (by assumption))); (case k2 => assumption); (case k3 => assumption); (case k6 => k_asm); (case k7 => k_asm); (case k4 => exact Fr.keep (by assumption)); (case k5 => (refine' ETs.of_news ?e1 (Ext.refl _) ?e2 ?e3 ?e4 ?e5 ?e6 ?e7; (case e1 => k_asm); (case e2 => k_mem); (case e3 => k_mem); (case e4 => k_mem); (case e5 => k_mem); (case e6 => assumption); (case e7 => assumption))); k_whole; intro h' tk' dr' v' F' N' k' e'; subst e')))
local macro_rules | `(tactic| walk_at "call ref") => `(tactic| (k_here; (with_reducible show wpAny _ _ (call (Value.ref 61) [Value.ref _, Value.str _ _]) _ _ _); k_dflt (refine' is_weak_spec ?k1 ?k2 ?k3 ?k4 ?k5 (out_K ?k6 ?k7 ?_); (case k1 => first | exact Room1.deeper (by assumption) | exact Room.one (Room.deeper (by assumption))); (case k2 => assumption); (case k3 => assumption); (case k6 => k_asm); (case k7 => k_asm); (case k4 => exact Fr.keep (by assumption)); (case k5 => (refine' ETs.of_news ?e1 (Ext.refl _) ?e2 ?e3 ?e4 ?e5 ?e6 ?e7; (case e1 => k_asm); (case e2 => k_mem); (case e3 => k_mem); (case e4 => k_mem); (case e5 => k_mem); (case e6 => assumption); (case e7 => assumption))); k_whole; intro h' tk' dr' v' F' N' k' e'; subst e')))
section
variable {p : Program} {loose : List Str} {w : World} {A : Around} {s : Shared} {mean : ExcName → Option Value} {mg mb : Str → Option Value} {Q E : Value → Shared → Prop} {h₀ : Heap}

theorem contains_spec {x : Addr} {S W : List Str} {star : Bool} {y : Str} {t : Tok} (RM : Room A) (X : (hd.heap_39 w.params).In h₀) (T : Top p loose mean mg mb h₀) (k : Ext h₀ s.heap) (O : ETs w h₀ s.heap x S W star)
   (h : Out s (fun _ v => v = .bool (star || decide (y ∈ S))) Q) :
   wpAny (model PySem.Challenge.rw_ez0425_01.row.prog w) A (call (.ref 82) [.ref x, .str y t]) Q E s := by
  revert X T
  k_fill
  intro X T
  obtain ⟨d, fs, fw, o1, o2, t1, t2, t3, O, S1, S2⟩ := O
  cases star
  · refine wpAny_call ?_
    k_dflt k_enter
    k_steps
    refine Out.done h ?_ rfl rfl rfl
    walk_at "m:ext"
  · refine wpAny_call ?_
    k_dflt k_enter
    k_steps
    refine Out.done h ?_ rfl rfl rfl
    walk_at "m:ext"

local macro_rules | `(tactic| walk_at "call ref") => `(tactic| (k_here; (with_reducible show wpAny _ _ (call (Value.ref 82) [Value.ref _, Value.str _ _]) _ _ _); k_dflt (refine' contains_spec ?k1 ?k2 ?k3 ?k4 ?k5 (out_K ?k6 ?k7 ?_); (case k1 => exact Room.deeper (by assumption)); (case k2 => assumption); (case k3 => assumption); (case k6 => k_asm); (case k7 => k_asm); (case k4 => exact Fr.keep (by assumption)); (case k5 => (refine' ETs.of_news ?e1 (Ext.refl _) ?e2 ?e3 ?e4 ?e5 ?e6 ?e7; (case e1 => k_asm); (case e2 => k_mem); (case e3 => k_mem); (case e4 => k_mem); (case e5 => k_mem); (case e6 => assumption); (case e7 => assumption))); k_whole; intro h' tk' dr' v' F' N' k' e'; subst e')))
local macro_rules | `(tactic| k_enter) => `(tactic| (refine' enterG ?k1 ?k2 ?k3 ?k4 ?k6 ?k7 ?k8 ?k9 ?kB ?_ ?c2 ?c3 ?c4 ?c5; (case k1 => assumption); (case k2 => assumption); (case k3 => with_unfolding_all assumption); (case k4 => with_unfolding_all assumption); (case k6 => k_is); (case k7 => k_is); (case k8 => (have := (by assumption : Room2 _).hd; (try simp only [depth_under_make, depth_under_kw, depth_in1, depth_deeper, depth_caller]); omega)); (case k9 => first | exact BindsTo.of_eq rfl | exact binds_K (by first | k_in | exact Frag.In.keeps (by assumption) (by assumption)) rfl (by k_is) rfl rfl rfl | fail "k_enter: no rule for these arguments"); (case c5 => decide); (case kB => exact locs rfl); (case c2 => exact rfl); (case c3 => exact rfl); (case c4 => exact rfl); k_whole; intro g' L' h' X' T' kg' H' F' N'; (try dsimp only); (try k_fold)))
theorem contains_weak_spec {x : Addr} {S W : List Str} {star : Bool} {y : Str} {t : Tok} (RM : Room2 A) (X : (hd.heap_39 w.params).In h₀) (T : Top p loose mean mg mb h₀) (k : Ext h₀ s.heap) (O : ETs w h₀ s.heap x S W star)
   (h : Out s (fun _ v => v = .bool (decide (y ∈ W) || (star || decide (y ∈ S)))) Q) :
   wpAny (model PySem.Challenge.rw_ez0425_01.row.prog w) A (call (.ref 75) [.ref x, .str y t]) Q E s := by
  obtain ⟨d, fs, fw, o1, o2, t1, t2, t3, O, S1, S2⟩ := O
  cases hb : decide (y ∈ W)
  · rw [hb] at h
    refine wpAny_call ?_
    k_dflt k_enter
    k_steps
    refine Out.done h ?_ (by simp [*]) rfl rfl
    walk_at "m:ext"
  · rw [hb] at h
    refine wpAny_call ?_
    k_dflt k_enter
    k_steps
    refine Out.done h ?_ (by simp [*]) rfl rfl
    walk_at "m:ext"
end
end Mine
end

section
open PySem PySem.W PySem.Calls PySem.Spec PyProof.Rows
set_option maxRecDepth 100000
set_option maxHeartbeats 8000000
namespace Mine
theorem Owns.cons_ne {h₀ h : Heap} {L : Addr} {news : List (Addr × Obj)} (N : News h₀ L h news) {a : Addr} (ha : h.get? a = none) : ∀ p ∈ news, p.1 ≠ a := fun p hp e => by
  have := (N p hp).1
  rw [e, ha] at this; cases this
theorem strs_map {l : List Str} {g : Str → Str} {b : List Value} (vs : List Value) (h1 : vs.length = l.length) (h2 : ∀ (j : Nat) (v : Value), vs[j]? = some v → ∃ (x : Str) (t : Tok), l[j]? = some x ∧ v = Value.str x t) (h3 : Paired (fun v y => ∃ (x : Str) (t t' : Tok), v = Value.str x t ∧ y = Value.str (g x) t') vs b) : StrsAre b (l.map g) := by
  induction h3 generalizing l with
  | nil =>
    have : l = [] := List.length_eq_zero_iff.mp h1.symm
    subst this; exact .nil
  | cons hF r ih =>
    cases l with
    | nil => cases h1
    | cons y l =>
      obtain ⟨x, t, t', e1, e2⟩ := hF
      obtain ⟨x2, t2, e3, e4⟩ := h2 0 _ rfl
      simp only [List.getElem?_cons_zero, Option.some.injEq] at e3
      rw [e1] at e4
      cases e4
      subst e3
      rw [e2, List.map_cons]
      exact .cons _ t' (ih (Nat.succ.inj h1) fun j v hj => by simpa using h2 (j + 1) v (by simpa using hj))
section
variable {prog : Program} {w : World} {A : Around} {E : Value → Shared → Prop} {s : Shared} {h₀ : Heap} {L : Addr} {m : Str → Option Value} {news : List (Addr × Obj)}
theorem iter_comp_K {f : Addr} {o : Obj} {l : List Str} {env : Env} {scope : Scope} {x : Str} {elt : Expr} {Q : Value → Shared → Prop} (g : Str → Str) (F : Fr h₀ L s.heap m) (N : News h₀ L s.heap news) (hm : (f, o) ∈ news) (S : SSet w "frozenset" o l) (hh : A.handled = none) (hT : ∀ y ∈ l, TagOk y)
    (helt : ∀ C s₃ m₃ y t E', TagOk y → s₃.heap.Ns C m₃ → m₃ x = some (.str y t) → wpAny (model prog w) A (eval elt (compEnv scope C env)) (fun v s₄ => (∃ t', v = .str (g y) t') ∧ Keeps s₃ s₄) E' s₃)
    (h : ∀ D h' tk dr ys l' n, Fr h₀ L h' m → News h₀ L h' ((D, listOf ys n) :: news) → (∀ p ∈ news, p.1 ≠ D) → l.Perm l' → l'.length ≤ 4 → StrsAre ys.toList (l'.map g) → Q (.ref D) { s with heap := h', toks := tk, drawn := dr }) :
    wpAny (model prog w) A (pyIter (.ref f)) (CompPost prog w A env scope x [] elt Q) E s := by
  have ho := (N _ hm).1
  refine siter_start (.inr rfl) ho S fun I tp l' h' dr st p hk hI htp htI hIs htps => ?_
  have haI : f ≠ I := Nat.ne_of_lt (Nat.lt_of_lt_of_le (Heap.lt_size ho) hI)
  have hl4 : l.length ≤ 4 := by
    have S0 := S
    obtain ⟨_, _, _, es, ep, t, hd, _⟩ := S0
    exact (ssize hd S).2.2.1.le
  have hz : l'.length ≤ sizeLine := by
    rw [← p.length_eq, sizeLine_eq]
    omega
  refine ⟨fun _ => true, fun v y => ∃ (z : Str) (t t' : Tok), v = Value.str z t ∧ y = Value.str (g z) t', I, [I, f, tp], [I], l'.length, _, _, rfl, walks_sset hh o l' haI htI, hz, st, ?_, ⟨?_, ?_⟩, ?_⟩
  · intro b hb
    rcases List.mem_cons.mp hb with rfl | hb
    · exact hIs
    · rcases List.mem_cons.mp hb with rfl | hb
      · exact Heap.lt_size (hk _ _ ho)
      · rw [List.mem_singleton.mp hb]; exact htps
  · intro C i v s₃ m₃ E' _ _ _ _ _
    exact wpAny_pure ⟨rfl, s₃.heap, s₃.toks, rfl, fun _ _ e => e⟩
  · rintro C i v s₃ m₃ E' ⟨z, t, hz1, rfl⟩ _ hn hx _ _
    have hy : TagOk z := hT z (p.mem_iff.mpr (List.mem_of_getElem? hz1))
    exact wpAny_mono (helt C s₃ m₃ z t E' hy hn hx) (fun v' s₄ hv => ⟨⟨z, t, hv.1.choose, rfl, hv.1.choose_spec⟩, hv.2⟩) fun _ _ e => e
  · intro D h'' tk ys vs hD hl hpl hlen hP hF hk2
    obtain ⟨n, hDn⟩ := hpl
    have hDs : s.heap.get? D = none := by
      cases q : s.heap.get? D with
      | none => rfl
      | some o' => rw [hk _ _ q] at hD; cases hD
    have kk : Ext s.heap h'' := fun b ob e => hk2 b ob (fun hb => by rw [List.mem_singleton.mp hb] at e; exact absurd (Heap.lt_size e) (Nat.not_lt.mpr hI)) (hk b ob e)
    refine h D h'' tk dr ys l' n (Fr.ext F kk) (News.add F (News.ext N kk) hDs hDn) (Owns.cons_ne N hDs) p (by rw [← p.length_eq]; exact hl4) ?_
    rw [show vs.filter (fun _ => true) = vs from List.filter_eq_self.mpr fun _ _ => rfl] at hF
    exact strs_map vs hlen hP hF
end
local macro_rules | `(tactic| k_enter) => `(tactic| (refine' enterG ?k1 ?k2 ?k3 ?k4 ?k6 ?k7 ?k8 ?k9 ?kB ?_ ?c2 ?c3 ?c4 ?c5; (case k1 => assumption); (case k2 => assumption); (case k3 => with_unfolding_all assumption); (case k4 => with_unfolding_all assumption); (case k6 => k_is); (case k7 => k_is); (case k8 => (have := (by assumption : Room _).hd; (try simp only [depth_under_make, depth_under_kw, depth_in1, depth_deeper, depth_caller]); omega)); (case k9 => first | exact BindsTo.of_eq rfl | exact binds_K (by first | k_in | exact Frag.In.keeps (by assumption) (by assumption)) rfl (by k_is) rfl rfl rfl | fail "k_enter: no rule for these arguments"); (case c5 => decide); (case kB => exact locs rfl); (case c2 => exact rfl); (case c3 => exact rfl); (case c4 => exact rfl); k_whole; intro g' L' h' X' T' kg' H' F' N'; (try dsimp only); (try k_fold)))
local macro_rules | `(tactic| walk_at "m:sub") => `(tactic| ((repeat (refine' List.forall_mem_cons.mpr ⟨?_, ?_⟩; rotate_left; (try exact List.forall_mem_nil _))); all_goals k_mem))
local macro_rules | `(tactic| walk_at "m:ext") => `(tactic| (refine' Held.ext ?zH ?zO ?zF ?zN ?zS; (case zH => assumption); (case zF => assumption); (case zN => assumption); (case zO => (intro p hp; exact (((by assumption : Owns _ _ _) p hp).1))); (case zS => walk_at "m:sub")))
theorem frC {h : Heap} {C : Addr} {m : Str → Option Value} {x : Str} {v : Value} (hn : h.Ns C m) (hx : m x = some v) : Fr (Heap.mk #[] {}) C h (fun z => if z = x then some v else m z) := by
  have e : (fun z => if z = x then some v else m z) = m := by
    funext z
    split
    · rename_i q; rw [q, hx]
    · rfl
  rw [e]
  exact ⟨hn, fun b o q => absurd (Heap.lt_size q) (Nat.not_lt_zero _), Nat.zero_le _⟩
section
variable {p : Program} {loose : List Str} {w : World} {A : Around} {s : Shared} {mean : ExcName → Option Value} {mg mb : Str → Option Value} {Q E : Value → Shared → Prop} {h₀ : Heap} {prog : Program} {env : Env}
theorem elt_strong {C : Addr} {s₃ : Shared} {m₃ : Str → Option Value} {y : Str} {t : Tok} {E' : Value → Shared → Prop} {p1 p2 p3 p4 p5 : Pos} (ty : TagOk y) (hn : s₃.heap.Ns C m₃) (hx : m₃ (Str.ofString "x") = some (.str y t)) :
    wpAny (model prog w) A (eval (Expr.JoinedStr [Expr.Constant (Const.str (Str.ofString "\"")) 0 p1, Expr.FormattedValue (Expr.Name (Str.ofString "x") p2) (-1) none p3, Expr.Constant (Const.str (Str.ofString "\"")) 0 p4] p5) (compEnv { kind := ScopeKind.function, names := [(Str.ofString ".0", NameKind.local), (Str.ofString "x", NameKind.local)], isGenerator := false, isCoroutine := false } C env)) (fun v s₄ => (∃ t', v = .str (quoteS false y) t') ∧ Keeps s₃ s₄) E' s₃ := by
  have F := frC hn hx
  have hl := ty.len
  k_steps
  all_goals first | exact ⟨_, _, rfl, fun _ _ e => e⟩ | (fail "open")
theorem elt_weak {C : Addr} {s₃ : Shared} {m₃ : Str → Option Value} {y : Str} {t : Tok} {E' : Value → Shared → Prop} {p1 p2 p3 p4 p5 : Pos} (ty : TagOk y) (hn : s₃.heap.Ns C m₃) (hx : m₃ (Str.ofString "x") = some (.str y t)) :
    wpAny (model prog w) A (eval (Expr.JoinedStr [Expr.Constant (Const.str (Str.ofString "W/\"")) 0 p1, Expr.FormattedValue (Expr.Name (Str.ofString "x") p2) (-1) none p3, Expr.Constant (Const.str (Str.ofString "\"")) 0 p4] p5) (compEnv { kind := ScopeKind.function, names := [(Str.ofString ".0", NameKind.local), (Str.ofString "x", NameKind.local)], isGenerator := false, isCoroutine := false } C env)) (fun v s₄ => (∃ t', v = .str (quoteS true y) t') ∧ Keeps s₃ s₄) E' s₃ := by
  have F := frC hn hx
  have hl := ty.len
  k_steps
  all_goals first | exact ⟨_, _, rfl, fun _ _ e => e⟩ | (fail "open")
end
local macro_rules | `(tactic| walk_at "pyIter ref") => `(tactic| (k_here; (with_reducible show wpAny _ _ (pyIter (Value.ref _)) (CompPost _ _ _ _ _ _ _ _ _) _ _); k_dflt (first
  | (refine' iter_comp_K (quoteS false) ?k1 ?k2 ?k3 ?k4 ?k5 ?k6 ?k7 ?_; (case k1 => k_asm); (case k2 => k_asm); (case k3 => k_mem); (case k4 => assumption); (case k5 => (have q := (by assumption : Room _).hh; exact q)); (case k6 => assumption); (case k7 => (intro C s₃ m₃ y t E' ty hn hx; exact elt_strong ty hn hx)); k_whole; intro D' h' tk' dr' ys' l' n' F' N' l1 p' z' S')
  | (refine' iter_comp_K (quoteS true) ?k1 ?k2 ?k3 ?k4 ?k5 ?k6 ?k7 ?_; (case k1 => k_asm); (case k2 => k_asm); (case k3 => k_mem); (case k4 => assumption); (case k5 => (have q := (by assumption : Room _).hh; exact q)); (case k6 => assumption); (case k7 => (intro C s₃ m₃ y t E' ty hn hx; exact elt_weak ty hn hx)); k_whole; intro D' h' tk' dr' ys' l' n' F' N' l1 p' z' S'))))
theorem SSet.le4 {w : World} {cls : String} {o : Obj} {l : List Str} (S : SSet w cls o l) : l.length ≤ 4 := by
  have S0 := S
  obtain ⟨_, _, _, es, ep, t, hd, _⟩ := S0
  exact (ssize hd S).2.2.1.le
section
variable {prog : Program} {w : World} {A : Around} {E : Value → Shared → Prop} {s : Shared} {h₀ : Heap} {L : Addr} {m : Str → Option Value} {news : List (Addr × Obj)}
theorem add_strs_K {a b : Addr} {xs ys : Array Value} {l k : List Str} {Q : Value → Shared → Prop} (F : Fr h₀ L s.heap m) (N : News h₀ L s.heap news) (ha : s.heap.IsList a xs) (hb : s.heap.IsList b ys) (hx : StrsAre xs.toList l) (hy : StrsAre ys.toList k) (hz : l.length + k.length ≤ 100)
    (h : ∀ D h' (zs : Array Value), Fr h₀ L h' m → News h₀ L h' ((D, listOf zs 0) :: news) → (∀ p ∈ news, p.1 < D) → StrsAre zs.toList (l ++ k) → Q (.ref D) { s with heap := h' }) :
    wpAny (model prog w) A (binaryOp .Add (.ref a) (.ref b)) Q E s := by
  have z1 := StrsAre.len_eq hx
  have z2 := StrsAre.len_eq hy
  have app : ∀ {v1 v2 : List Value} {l1 l2 : List Str}, StrsAre v1 l1 → StrsAre v2 l2 → StrsAre (v1 ++ v2) (l1 ++ l2) := by
    intro v1 v2 l1 l2 h1 h2
    induction h1 with
    | nil => exact h2
    | cons x t r ih => exact .cons x t ih
  refine add_lists (hsz := by rw [z1, z2, sizeLine_eq]; omega) F N (vs := xs.toList) (ws := ys.toList) (by rw [Array.toArray_toList]; exact ha) (by rw [Array.toArray_toList]; exact hb) fun h' F' N' => ?_
  exact h _ h' _ F' N' (fun p hp => Heap.lt_size (N p hp).1) (by simpa using app hx hy)
theorem news_list {a : Addr} {xs : Array Value} {n : Nat} (N : News h₀ L s.heap news) (hm : (a, listOf xs n) ∈ news) : s.heap.IsList a xs := ⟨_, (N _ hm).1, rfl, n, rfl⟩
end
theorem quote_len {b : Bool} {x : Str} (h : x.length ≤ 2) : (quoteS b x).length ≤ 6 := by
  have e1 : (Str.ofString "\"").length = 1 := by decide
  have e2 : (Str.ofString "W/\"").length = 3 := by decide
  have e3 : ∀ a c : Str, (a ++ c).length = a.length + c.length := fun a c => by
    show (a.cps ++ c.cps).size = _
    rw [Array.size_append]; rfl
  unfold quoteS
  have r1 : (Str.ofString "\"" ++ x ++ Str.ofString "\"").length ≤ 5 := by rw [e3, e3, e1]; exact Nat.le_trans (Nat.add_le_add_right (Nat.add_le_add_left h 1) 1) (by decide)
  have r2 : (Str.ofString "W/\"" ++ x ++ Str.ofString "\"").length ≤ 6 := by rw [e3, e3, e1, e2]; exact Nat.le_trans (Nat.add_le_add_right (Nat.add_le_add_left h 3) 1) (by decide)
  cases b
  · exact Nat.le_trans r1 (by decide)
  · exact r2
theorem quotes_weight {l1 l2 S W : List Str} (p1 : List.Perm S l1) (p2 : List.Perm W l2) (hS : ∀ y ∈ S, TagOk y) (hW : ∀ y ∈ W, TagOk y) (z1 : S.length ≤ 4) (z2 : W.length ≤ 4) :
    (((l1.map (quoteS false) ++ l2.map (quoteS true)).map (·.length)).sum + (l1.map (quoteS false) ++ l2.map (quoteS true)).length) ≤ 1048576 := by
  have key : ∀ (l : List Str) (b : Bool), (∀ y ∈ l, TagOk y) → ((l.map (quoteS b)).map (·.length)).sum ≤ 6 * l.length := by
    intro l b
    induction l with
    | nil => simp
    | cons y r ih =>
      intro h
      have := quote_len (b := b) (h y (.head _)).len
      have := ih fun z hz => h z (.tail _ hz)
      simp only [List.map_cons, List.sum_cons, List.length_cons]
      omega
  have k1 := key l1 false fun y hy => hS y (p1.mem_iff.mpr hy)
  have k2 := key l2 true fun y hy => hW y (p2.mem_iff.mpr hy)
  have e1 := p1.length_eq
  have e2 := p2.length_eq
  rw [List.map_append, List.sum_append]
  simp only [List.length_append, List.length_map]
  omega
local macro_rules | `(tactic| walk_at "binaryOp Add ref ref") => `(tactic| (k_here; (with_reducible show wpAny _ _ (binaryOp _ (Value.ref _) (Value.ref _)) _ _ _); k_dflt (refine' add_strs_K ?k1 ?k2 ?k3 ?k4 ?k5 ?k6 ?k7 ?_; (case k1 => k_asm); (case k2 => k_asm); (case k3 => exact news_list (by k_asm) (by k_mem)); (case k4 => exact news_list (by k_asm) (by k_mem)); (case k5 => assumption); (case k6 => assumption); (case k7 => (simp only [List.length_map]; omega)); k_whole; intro D' h' zs' F' N' l1 S')))
local macro_rules | `(tactic| walk_at "call builtin:str.join") => `(tactic| (k_here; (with_reducible show wpAny _ _ (call (Value.builtin "str.join") [Value.str _ _, Value.ref _]) _ _ _); k_dflt (refine' join_listW ?k1 ?k2 ?k3 ?k4 ?_; (case k1 => exact news_list (by k_asm) (by k_mem)); (case k2 => assumption); (case k3 => decide); (case k4 => exact quotes_weight (by assumption) (by assumption) (by assumption) (by assumption) (by assumption) (by assumption)); k_whole; intro t' tk')))
section
variable {p : Program} {loose : List Str} {w : World} {A : Around} {s : Shared} {mean : ExcName → Option Value} {mg mb : Str → Option Value} {Q E : Value → Shared → Prop} {h₀ : Heap}

theorem to_header_star {x : Addr} {S W : List Str} (RM : Room A) (X : (hd.heap_39 w.params).In h₀) (T : Top p loose mean mg mb h₀) (k : Ext h₀ s.heap) (O : ETs w h₀ s.heap x S W true)
   (h : Out s (fun _ v => ∃ t, v = .str (Str.ofString "*") t) Q) :
   wpAny (model PySem.Challenge.rw_ez0425_01.row.prog w) A (call (.ref 87) [.ref x]) Q E s := by
  revert X T
  k_fill
  intro X T
  obtain ⟨d, fs, fw, o1, o2, t1, t2, t3, O, S1, S2⟩ := O
  refine wpAny_call ?_
  k_dflt k_enter
  k_steps
  refine Out.done h ?_ ⟨_, rfl⟩ rfl rfl
  walk_at "m:ext"
theorem to_header_spec {x : Addr} {S W : List Str} (hS : ∀ y ∈ S, TagOk y) (hW : ∀ y ∈ W, TagOk y) (RM : Room A) (X : (hd.heap_39 w.params).In h₀) (T : Top p loose mean mg mb h₀) (k : Ext h₀ s.heap) (O : ETs w h₀ s.heap x S W false)
   (h : Out s (fun _ v => ∃ l1 l2 t, List.Perm S l1 ∧ List.Perm W l2 ∧ v = .str (Txt.join (Str.ofString ", ") (l1.map (quoteS false) ++ l2.map (quoteS true))) t) Q) :
   wpAny (model PySem.Challenge.rw_ez0425_01.row.prog w) A (call (.ref 87) [.ref x]) Q E s := by
  obtain ⟨d, fs, fw, o1, o2, t1, t2, t3, O, S1, S2⟩ := O
  have z1 := S1.le4
  have z2 := S2.le4
  refine wpAny_call ?_
  k_dflt k_enter
  k_steps
  refine Out.done h ?_ ⟨_, _, _, by assumption, by assumption, rfl⟩ rfl rfl
  walk_at "m:ext"
end
end Mine
end

section
open PySem PySem.W PySem.Calls PySem.Spec PyProof.Rows
set_option maxRecDepth 100000
set_option maxHeartbeats 8000000
namespace Mine
open PySem.Sre
theorem pat_at (w : World) (h : Heap) : (∃ pt fl, (hd.heap_39 w.params).lookup 214 = some (patObj pt fl 213)) ∧ (∃ n, (hd.heap_39 w.params).lookup 213 = some { cls := .type "tuple", data := .seq CODEV n }) := by
  have X : (hd.heap_39 w.params).In h → PySem.Challenge.rw_ez0425_01.row.prog = PySem.Challenge.rw_ez0425_01.row.prog := fun _ => rfl
  revert X
  k_fill
  intro X
  constructor
  · apply Exists.intro; apply Exists.intro; unfold patObj; k_is
  · have e3 : ∃ items n, (hd.heap_39 w.params).lookup 213 = some { cls := .type "tuple", data := .seq items n } ∧ items = CODEV := by
      apply Exists.intro
      apply Exists.intro
      constructor
      · k_is
      · decide +kernel
    obtain ⟨items, n, e, rfl⟩ := e3
    exact ⟨n, e⟩

theorem par_cases {rest : List Nat} {l : List (Bool × Str)} (h : ParL rest l) :
    (WsL rest ∧ l = []) ∨ (∃ ws r, WsL ws ∧ rest = ws ++ 44 :: r ∧ ParL r l) ∨
    (∃ b x ws ws2 tl l', l = (b, x) :: l' ∧ WsL ws ∧ TagOk x ∧ WsL ws2 ∧ (tl = [] ∨ ∃ r, tl = 44 :: r) ∧ rest = ws ++ (qt b x ++ (ws2 ++ tl)) ∧ ParL tl.tail l') := by
  cases h with
  | done h => exact .inl ⟨h, rfl⟩
  | skip h k => exact .inr (.inl ⟨_, _, h, rfl, k⟩)
  | tag b x h ok h2 k => exact .inr (.inr ⟨b, x, _, _, _, _, rfl, h, ok, h2, .inr ⟨_, rfl⟩, by simp, k⟩)
  | last b x h ok h2 => exact .inr (.inr ⟨b, x, _, _, [], _, rfl, h, ok, h2, .inl rfl, by simp, .done (fun c hc => nomatch hc)⟩)

abbrev sOf (l : List (Bool × Str)) : List Str := (l.filter fun y => !y.1).map (·.2)
abbrev wOf (l : List (Bool × Str)) : List Str := (l.filter fun y => y.1).map (·.2)
structure PSt where
  p : Nat
  tp : Tok
  xs : Array Value
  i : Nat
  ys : Array Value
  j : Nat
  st : List Str
  wk : List Str
  rest : List (Bool × Str)
structure PInv (x : Str) (l : List (Bool × Str)) (c : PSt) : Prop where
  le : c.p ≤ x.length
  par : ParL (x.cps.toList.drop c.p) c.rest
  hs : StrsAre c.xs.toList c.st
  hw : StrsAre c.ys.toList c.wk
  es : c.st ++ sOf c.rest = sOf l
  ew : c.wk ++ wOf c.rest = wOf l
abbrev pLed (S W : Addr) (c : PSt) : List (Addr × Obj) := [(W, listOf c.ys c.j), (S, listOf c.xs c.i)]
abbrev pPs (c : PSt) : List (Str × Value) := [(Str.ofString "pos", .int c.p c.tp)]
abbrev pSto : List Str := [Str.ofString "m", Str.ofString "is_weak", Str.ofString "tag", Str.ofString "invalid_unquoted"]
section
variable {prog : Program} {w : World} {A : Around} {E : Value → Shared → Prop} {s : Shared} {h₀ : Heap} {L : Addr} {m : Str → Option Value} {news : List (Addr × Obj)}
theorem pat_get (X : (hd.heap_39 w.params).In h₀) (F : Fr h₀ L s.heap m) : (∃ pt fl, s.heap.get? 214 = some (patObj pt fl 213)) ∧ ∃ n, s.heap.get? 213 = some { cls := .type "tuple", data := .seq CODEV n } := by
  obtain ⟨⟨pt, fl, e1⟩, n, e2⟩ := pat_at w s.heap
  exact ⟨⟨pt, fl, F.keep _ _ (X _ _ e1)⟩, n, F.keep _ _ (X _ _ e2)⟩
theorem pat_method_K {pl : Sem Bool} {Q : Value × List Value → Shared → Prop} (X : (hd.heap_39 w.params).In h₀) (F : Fr h₀ L s.heap m) (h : Q (.builtin "re.Pattern.match", [.ref 214]) s) :
    wpAny (model prog w) A (getMethod (.ref 214) "match" pl) Q E s := by
  obtain ⟨⟨pt, fl, e1⟩, _⟩ := pat_get X F
  exact getMethod_builtin (T := "re.Pattern") ⟨_, e1, rfl⟩ plainAttrs_pat slot_pat_match type_pat_match (fun b e => by injection e with e; subst e; exact ⟨_, e1, rfl⟩) h
theorem pat_no_K {x : Str} {t tp : Tok} {q j : Nat} {mm : M} {Q : Value → Shared → Prop} (X : (hd.heap_39 w.params).In h₀) (F : Fr h₀ L s.heap m) (hq : q ≤ x.length) (hx : x.length ≤ 100) (hj : j < 2 ^ 60) (e : M.runFor j (forMatch CODE x.cps 3 q x.cps.size false false) = mm) (hm : mm.outcome = some .failed) (h : Q .none s) :
    wpAny (model prog w) A (call (.builtin "re.Pattern.match") [.ref 214, .str x t, .int q tp]) Q E s := by
  obtain ⟨⟨pt, fl, e1⟩, n, e2⟩ := pat_get X F
  exact pat_no e1 e2 (by omega) (by simpa using hq) (by omega) (by simpa using e) hj hm h
theorem pat_yes_K {x y : Str} {t tp : Tok} {q j k a e fin : Nat} {b : Bool} {tl : List Nat} {mm : M} {Q : Value → Shared → Prop} (X : (hd.heap_39 w.params).In h₀) (F : Fr h₀ L s.heap m) (N : News h₀ L s.heap news) (hq : q ≤ x.length) (hx : x.length ≤ 100) (R : TagRun x.cps q b y tl j mm k a e fin)
    (h : ∀ D R h', Fr h₀ L h' m → News h₀ L h' ((R, matObj x t 214 q x.cps.size 2 D) :: (D, spanObj b q fin k a e) :: news) → (∀ p ∈ news, p.1 < D) → D < R → Q (.ref R) { s with heap := h' }) :
    wpAny (model prog w) A (call (.builtin "re.Pattern.match") [.ref 214, .str x t, .int q tp]) Q E s := by
  obtain ⟨⟨pt, fl, e1⟩, n, e2⟩ := pat_get X F
  have hqi : Int.toNat (q : Int) = q := Int.toNat_natCast q
  have := pat_yes (E := E) (A := A) (prog := prog) (w := w) (t := t) (tp := tp) (i := (q : Int)) (Q := Q) F N e1 e2 (by omega) (by rw [hqi]; exact hq) (by omega) (by rw [hqi]; exact R.run) R.hj R.out R.marks R.lm R.li R.hd (by rw [hqi]; exact R.st) R.ae
  rw [hqi] at this
  exact this h
theorem mat_method_K {T : Addr} {o : Obj} {nm id : String} {pl : Sem Bool} {Q : Value × List Value → Shared → Prop} (N : News h₀ L s.heap news) (hm : (T, o) ∈ news) (ho : o.cls = .type "re.Match") (hdn : o.dict = none) (hs : Slot "re.Match" nm id) (ht : typeOf (.builtin id) = pure (.type "method_descriptor")) (h : Q (.builtin id, [.ref T]) s) :
    wpAny (model prog w) A (getMethod (.ref T) nm pl) Q E s :=
  getMethod_builtin (T := "re.Match") ⟨_, (N _ hm).1, ho⟩ plainAttrs_mat hs ht (fun b e => by injection e with e; subst e; exact ⟨_, (N _ hm).1, hdn⟩) h
theorem groups_K0 {x y : Str} {t : Tok} {P R D : Addr} {q n j k a e fin : Nat} {li : Int} {tl : List Nat} {mm : M} {Q : Value → Shared → Prop} (F : Fr h₀ L s.heap m) (N : News h₀ L s.heap news) (mR : (R, matObj x t P q n li D) ∈ news) (mD : (D, spanObj false q fin k a e) ∈ news) (hx : x.length ≤ 100) (TR : TagRun x.cps q false y tl j mm k a e fin)
    (h : ∀ G h' tk t2, Fr h₀ L h' m → News h₀ L h' ((G, { cls := .type "tuple", data := .seq #[.none, .str y t2, .none] }) :: news) → (∀ p ∈ news, p.1 < G) → Q (.ref G) { s with heap := h', toks := tk }) :
    wpAny (model prog w) A (call (.builtin "re.Match.groups") [.ref R]) Q E s := by
  have hy : (⟨x.cps.extract a e⟩ : Str) = y := by rw [TR.tag]
  refine mat_groups F N (N _ mR).1 (N _ mD).1 (by omega) fun G h' tk t1 t2 F' N' l1 => ?_
  rw [hy] at N'
  exact h G h' tk t2 F' N' l1
theorem groups_K1 {x y : Str} {t : Tok} {P R D : Addr} {q n j k a e fin : Nat} {li : Int} {tl : List Nat} {mm : M} {Q : Value → Shared → Prop} (F : Fr h₀ L s.heap m) (N : News h₀ L s.heap news) (mR : (R, matObj x t P q n li D) ∈ news) (mD : (D, spanObj true q fin k a e) ∈ news) (hx : x.length ≤ 100) (TR : TagRun x.cps q true y tl j mm k a e fin)
    (h : ∀ G h' tk t1 t2 (wt : Str), wt.length = 2 → Fr h₀ L h' m → News h₀ L h' ((G, { cls := .type "tuple", data := .seq #[.str wt t1, .str y t2, .none] }) :: news) → (∀ p ∈ news, p.1 < G) → Q (.ref G) { s with heap := h', toks := tk }) :
    wpAny (model prog w) A (call (.builtin "re.Match.groups") [.ref R]) Q E s := by
  have hy : (⟨x.cps.extract a e⟩ : Str) = y := by rw [TR.tag]
  refine mat_groups F N (N _ mR).1 (N _ mD).1 (by omega) fun G h' tk t1 t2 F' N' l1 => ?_
  rw [hy] at N'
  exact h G h' tk t1 t2 ⟨x.cps.extract k (k + 2)⟩ (TR.wk rfl) F' N' l1
theorem end_K {x : Str} {t : Tok} {P R D : Addr} {b : Bool} {q n k a e fin : Nat} {li : Int} {Q : Value → Shared → Prop} (N : News h₀ L s.heap news) (mR : (R, matObj x t P q n li D) ∈ news) (mD : (D, spanObj b q fin k a e) ∈ news)
    (h : ∀ tk, Q (.int fin tk) { s with toks := s.toks + 1 }) : wpAny (model prog w) A (call (.builtin "re.Match.end") [.ref R]) Q E s := mat_end (N _ mR).1 (N _ mD).1 h

theorem parse_while {S W : Addr} {i j : Nat} {t0 : Tok} {test : Expr} {body : List Stmt} {pos : Pos} {env : Env} {x : Str} {l : List (Bool × Str)} {Q : Flow → Shared → Prop} (F : Fr h₀ L s.heap m) (N : News h₀ L s.heap [(W, listOf #[] j), (S, listOf #[] i)]) (hpos : m (Str.ofString "pos") = some (.int 0 t0)) (hl : ParL x.cps.toList l)
    (turn : ∀ (c : PSt) (u : Str → Option Value) h tk, PInv x l c → Fr h₀ L h (kstB (fun z => if pSto.contains z then u z else m z) (pPs c)) → News h₀ L h (pLed S W c) →
      wpAny (model prog w) A (isTrue test env (eval test env)) (fun b s₂ =>
        if b = true then wpAny (model prog w) A (execs body env) (KswPost h₀ L s (pLed S W) pPs (fun _ => True) pSto m (PInv x l) (fun c => x.length + 1 - c.p) Q c) E s₂ else Q .next s₂) E { s with heap := h, toks := tk })
    (hE : PassesOwn (model prog w) A env E) :
    wpAny (model prog w) A (exec (.While test body [] pos) env) Q E s := by
  refine ksw_while (pLed S W) pPs (fun _ => True) pSto (PInv x l) (fun c => x.length + 1 - c.p) ⟨0, t0, #[], i, #[], j, [], [], l⟩ F N True.intro ?_ ⟨Nat.zero_le _, by simpa using hl, .nil, .nil, rfl, rfl⟩ (fun c u h tk _ hp F' N' => turn c u h tk hp F' N') hE
  intro p hp
  rw [List.mem_singleton.mp hp]
  exact hpos
end
end Mine
end

section
open PySem PySem.W PySem.Calls PySem.Spec PyProof.Rows
set_option maxRecDepth 100000
set_option maxHeartbeats 8000000
namespace Mine
open PySem.Sre
theorem lit_comma : Str.ofString "," = ⟨#[44]⟩ := by decide +kernel
theorem find_done' {x : Str} {q : Nat} {rest : List Nat} (hp : q ≤ x.length) (h : WsL rest) (e : x.cps.toList.drop q = rest) : Txt.find3 x (Str.ofString ",") (q : Int) = -1 := by
  rw [lit_comma]; exact find_done hp h e
theorem find_skip' {x : Str} {q : Nat} {ws r : List Nat} (hp : q ≤ x.length) (h : WsL ws) (e : x.cps.toList.drop q = ws ++ 44 :: r) : Txt.find3 x (Str.ofString ",") (q : Int) = ((q + ws.length : Nat) : Int) := by
  rw [lit_comma]; exact find_skip hp h e
theorem strs_snoc {vs : Array Value} {l : List Str} {y : Str} {t : Tok} (h : StrsAre vs.toList l) : StrsAre (vs.push (.str y t)).toList (l ++ [y]) := by
  rw [Array.toList_push]
  generalize vs.toList = ws at h
  induction h with
  | nil => exact .cons y t .nil
  | cons z u r ih => exact .cons z u ih
theorem PInv.skip {x : Str} {l : List (Bool × Str)} {p i j i' j' : Nat} {tp tp' : Tok} {xs ys : Array Value} {st wk : List Str} {rest : List (Bool × Str)} {ws r : List Nat} (I : PInv x l ⟨p, tp, xs, i, ys, j, st, wk, rest⟩) (he : x.cps.toList.drop p = ws ++ 44 :: r) (hr : ParL r rest) :
    PInv x l ⟨p + ws.length + 1, tp', xs, i', ys, j', st, wk, rest⟩ := by
  have hl := drop_len he
  have d1 := drop_more he rfl
  have d2 : x.cps.toList.drop (p + ws.length + 1) = r := drop_more (a := [44]) (by rw [d1]; rfl) rfl
  simp at hl
  exact ⟨by show _ ≤ x.cps.size; simp only; omega, by show ParL (x.cps.toList.drop _) _; simp only; rw [d2]; exact hr, I.hs, I.hw, I.es, I.ew⟩
theorem PInv.strong {x y : Str} {l : List (Bool × Str)} {p i j i' j' jj k a e fin : Nat} {mm : M} {tp tp' t2 : Tok} {xs ys : Array Value} {st wk : List Str} {rest : List (Bool × Str)} {tl : List Nat} (I : PInv x l ⟨p, tp, xs, i, ys, j, st, wk, (false, y) :: rest⟩) (R : TagRun x.cps p false y tl jj mm k a e fin) (hr : ParL tl rest) :
    PInv x l ⟨fin, tp', xs.push (.str y t2), i', ys, j', st ++ [y], wk, rest⟩ :=
  ⟨R.fin2, by show ParL (x.cps.toList.drop fin) _; rw [R.next]; exact hr, strs_snoc I.hs, I.hw, by have := I.es; simpa [sOf] using this, by have := I.ew; simpa [wOf] using this⟩
theorem PInv.weak {x y : Str} {l : List (Bool × Str)} {p i j i' j' jj k a e fin : Nat} {mm : M} {tp tp' t2 : Tok} {xs ys : Array Value} {st wk : List Str} {rest : List (Bool × Str)} {tl : List Nat} (I : PInv x l ⟨p, tp, xs, i, ys, j, st, wk, (true, y) :: rest⟩) (R : TagRun x.cps p true y tl jj mm k a e fin) (hr : ParL tl rest) :
    PInv x l ⟨fin, tp', xs, i', ys.push (.str y t2), j', st, wk ++ [y], rest⟩ :=
  ⟨R.fin2, by show ParL (x.cps.toList.drop fin) _; rw [R.next]; exact hr, I.hs, strs_snoc I.hw, by have := I.es; simpa [sOf] using this, by have := I.ew; simpa [wOf] using this⟩
theorem PInv.fin {x : Str} {l : List (Bool × Str)} {p i j : Nat} {tp : Tok} {xs ys : Array Value} {st wk : List Str} (I : PInv x l ⟨p, tp, xs, i, ys, j, st, wk, []⟩) : st = sOf l ∧ wk = wOf l := by
  have h1 := I.es
  have h2 := I.ew
  simpa [sOf, wOf] using And.intro h1 h2
theorem find_K {prog : Program} {w : World} {A : Around} {E : Value → Shared → Prop} {s : Shared} {x y : Str} {t u v : Tok} {i r : Int} {Q : Value → Shared → Prop} (hf : Txt.find3 x y i = r) (h : ∀ t' k, Q (.int r t') { s with toks := k }) : wpAny (model prog w) A (call (.builtin "str.find") [.str x t, .str y u, .int i v]) Q E s := by
  subst hf
  exact SC.find3 (h _ _)
theorem PInv.len {x : Str} {l : List (Bool × Str)} {c : PSt} (I : PInv x l c) (h4 : l.length ≤ 4) : c.st.length ≤ 4 ∧ c.wk.length ≤ 4 := by
  have h1 := congrArg List.length I.es
  have h2 := congrArg List.length I.ew
  simp only [List.length_append, List.length_map] at h1 h2
  have h3 := List.length_filter_le (fun y : Bool × Str => !y.1) l
  have h5 := List.length_filter_le (fun y : Bool × Str => y.1) l
  omega
theorem EPost.weaken {w : World} {h0 h1 h' : Heap} {ss ws ss' ws' : List Str} {star : Bool} {v : Value} (e : EPost w h1 ss ws star h' v) (k : Ext h0 h1) (e1 : ss = ss') (e2 : ws = ws') : EPost w h0 ss' ws' star h' v := by
  subst e1; subst e2
  obtain ⟨x, S, W, rfl, ⟨d, fs, fw, o1, o2, t1, t2, t3, O, S1, S2⟩, r⟩ := e
  refine ⟨x, S, W, rfl, ⟨d, fs, fw, o1, o2, t1, t2, t3, fun p hp => ⟨(O p hp).1, ?_⟩, S1, S2⟩, r⟩
  cases q : h0.get? p.1 with
  | none => rfl
  | some o => have := (O p hp).2; rw [k _ _ q] at this; cases this
theorem news_list' {s : Shared} {h₀ : Heap} {L : Addr} {news : List (Addr × Obj)} {a : Addr} {xs : Array Value} {n : Nat} (N : News h₀ L s.heap news) (hm : (a, listOf xs n) ∈ news) : s.heap.IsList a xs.toList.toArray := by
  rw [Array.toArray_toList]; exact news_list N hm
local macro_rules | `(tactic| k_enter) => `(tactic| (refine' enter ?k1 ?k2 ?k6 ?k7 ?k8 ?k9 ?kB ?_ ?c2 ?c3 ?c4 ?c5; (case k1 => assumption); (case k2 => assumption); (case k6 => k_is); (case k7 => k_is); (case k8 => (have := (by assumption : Room2 _).hd; omega)); (case k9 => first | exact BindsTo.of_eq rfl | exact binds_K (by k_in) rfl (by k_is) rfl rfl rfl | fail "k_enter: no rule for these arguments"); (case c5 => decide); (case kB => exact locs rfl); (case c2 => exact rfl); (case c3 => exact rfl); (case c4 => exact rfl); k_whole; intro L' h' F' N'; (try dsimp only); (try k_fold)))
@[irreducible] def Hold (P : Prop) : Prop := P
theorem Hold.mk {P : Prop} (h : Hold P) : P := by unfold Hold at h; exact h
theorem Hold.of {P : Prop} (h : P) : Hold P := by unfold Hold; exact h
local macro_rules | `(tactic| walk_at "exec While") => `(tactic| (k_here; (with_reducible show wpAny _ _ (exec (Stmt.While _ _ _ _) _) _ _ _); refine Hold.mk ?_))
local macro_rules | `(tactic| walk_at "assign Tuple") => `(tactic| (k_here; (with_reducible show wpAny _ _ (assign (Expr.Tuple _ _ _) _ (Value.ref _)) _ _ _); k_dflt (refine' unpackN_ ?k1 ?k2 ?k3 ?k4 ?k5 ?k6 ?_; (case k1 => k_asm); (case k2 => k_asm); (case k3 => exact tup_news (by k_asm) (by k_mem)); (case k4 => (have q := (by assumption : Room2 _).hh; exact q)); (case k5 => exact rfl); (case k6 => exact rfl); k_whole); intro h' F' N'))
theorem sto_ne {z : Str} (h : pSto.contains z = false) : z ≠ Str.ofString "m" ∧ z ≠ Str.ofString "is_weak" ∧ z ≠ Str.ofString "tag" ∧ z ≠ Str.ofString "invalid_unquoted" := by
  simpa [pSto] using h
local macro_rules | `(tactic| walk_at "m:same") => `(tactic| (intro z h2 h3; (have h4 : z ≠ Str.ofString "pos" := h2 _ (List.mem_singleton_self _)); obtain ⟨n1, n2, n3, n4⟩ := sto_ne h3; simp [kstB, pPs, h4, n1, n2, n3, n4]))
local macro_rules | `(tactic| walk_at "KswEnd") => `(tactic| fail "here")
local macro_rules | `(tactic| walk_at "call ref") => `(tactic| (k_here; (with_reducible show wpAny _ _ (call (Value.ref 140) [Value.ref _, Value.ref _]) _ _ _); k_dflt (refine' etags_lists ?k1 ?k2 ?k3 ?k4 ?k5 ?k6 ?k7 ?k8 ?k9 (out_K ?kF ?kN ?_); (case k1 => exact news_list' (by k_asm) (by k_mem)); (case k2 => assumption); (case k3 => exact news_list' (by k_asm) (by k_mem)); (case k4 => assumption); (case k5 => omega); (case k6 => omega); (case k7 => exact Room.deeper (by assumption)); (case k8 => exact Frag.In.keeps (by assumption) (Fr.keep (by assumption))); (case k9 => exact Top.keeps (by assumption) (Fr.keep (by assumption))); (case kF => k_asm); (case kN => k_asm); k_whole; intro h' tk' dr' v' F' N' k' e')))
local macro_rules | `(tactic| walk_at "getMethod ref") => `(tactic| (k_here; (with_reducible show wpAny _ _ (getMethod (Value.ref 214) (Str.ofString "match") _) _ _ _); k_dflt (refine' pat_method_K ?k1 ?k2 ?_; (case k1 => assumption); (case k2 => k_asm); k_whole)))
local macro_rules | `(tactic| walk_at "call builtin:re.Pattern.match") => `(tactic| (k_here; k_dflt (first
  | (refine' pat_no_K ?k1 ?k2 ?k3 ?k4 ?k5 ?k6 ?k7 ?_; (case k1 => assumption); (case k2 => k_asm); (case k3 => assumption); (case k4 => assumption); (case k6 => assumption); (case k5 => assumption); (case k7 => assumption); k_whole)
  | (refine' pat_yes_K ?k1 ?k2 ?k3 ?k4 ?k5 ?k6 ?_; (case k1 => assumption); (case k2 => k_asm); (case k3 => k_asm); (case k4 => assumption); (case k5 => assumption); (case k6 => assumption); k_whole; intro D' R' h' F' N' l1 l2; (try k_lt l1); (try k_lt2 l2)))))
local macro_rules | `(tactic| walk_at "getMethod ref") => `(tactic| (k_here; k_dflt (first
  | ((with_reducible show wpAny _ _ (getMethod (Value.ref _) (Str.ofString "groups") _) _ _ _); refine' mat_method_K ?k1 ?k2 ?k3 ?k4 slot_mat_groups type_mat_groups ?_; (case k1 => k_asm); (case k2 => k_mem); (case k3 => rfl); (case k4 => rfl); k_whole)
  | ((with_reducible show wpAny _ _ (getMethod (Value.ref _) (Str.ofString "end") _) _ _ _); refine' mat_method_K ?k1 ?k2 ?k3 ?k4 slot_mat_end type_mat_end ?_; (case k1 => k_asm); (case k2 => k_mem); (case k3 => rfl); (case k4 => rfl); k_whole))))
local macro_rules | `(tactic| walk_at "call builtin:re.Match.groups") => `(tactic| (k_here; k_dflt (first
  | (refine' groups_K0 ?k1 ?k2 ?k3 ?k4 ?k5 ?k6 ?_; (case k1 => k_asm); (case k2 => k_asm); (case k3 => k_mem); (case k4 => k_mem); (case k5 => assumption); (case k6 => assumption); k_whole; intro G' h' tk' t2' F' N' l1; (try k_lt l1))
  | (refine' groups_K1 ?k1 ?k2 ?k3 ?k4 ?k5 ?k6 ?_; (case k1 => k_asm); (case k2 => k_asm); (case k3 => k_mem); (case k4 => k_mem); (case k5 => assumption); (case k6 => assumption); k_whole; intro G' h' tk' t1' t2' wt' hwt' F' N' l1; (try k_lt l1)))))
local macro_rules | `(tactic| walk_at "call builtin:re.Match.end") => `(tactic| (k_here; k_dflt (refine' end_K ?k1 ?k2 ?k3 ?_; (case k1 => k_asm); (case k2 => k_mem); (case k3 => k_mem); k_whole; intro tk')))
local macro_rules | `(tactic| walk_at "call builtin:str.find") => `(tactic| (k_here; k_dflt (refine' find_K ?k1 ?_; (case k1 => assumption); k_whole; intro t' tk')))
section
variable {p : Program} {loose : List Str} {w : World} {A : Around} {s : Shared} {mean : ExcName → Option Value} {mg mb : Str → Option Value} {Q E : Value → Shared → Prop} {h₀ : Heap}

theorem parse_spec {x : Str} {t : Tok} {l : List (Bool × Str)} (hne : 1 ≤ x.length) (hns : (x == Str.ofString "*") = false) (hle : x.length ≤ 100) (h4 : l.length ≤ 4) (hl : ParL x.cps.toList l) (RM : Room2 A) (X : (hd.heap_39 w.params).In s.heap) (T : Top p loose mean mg mb s.heap)
   (h : Out s (EPost w s.heap (sOf l) (wOf l) false) Q) :
   wpAny (model PySem.Challenge.rw_ez0425_01.row.prog w) A (call (.ref 221) [.str x t]) Q E s := by
  revert X T
  k_fill
  intro X T
  refine wpAny_call ?_
  k_dflt k_enter
  k_steps
  all_goals first | (exfalso; omega) | (exfalso; simp_all; done) | skip
  refine Hold.of ?_
  refine' parse_while (x := x) (l := l) ?k1 ?k2 ?k3 ?k4 ?_ ?k5
  case k1 => k_asm
  case k2 => k_asm
  case k3 => rfl
  case k4 => assumption
  case k5 => passes_own
  intro c u hh tk' I F' N'
  obtain ⟨q, tp, xs, i, ys, j, st, wk, rest⟩ := c
  have hle' := I.le
  have hln := PInv.len I h4
  have hn : x.cps.size < 4294967295 := Nat.lt_of_le_of_lt hle (by decide)
  have hpar := I.par
  dsimp only at hle' hln hpar N'
  rcases par_cases hpar with ⟨hw, rfl⟩ | ⟨ws, r, hw, he, hr⟩ | ⟨b, y, ws, ws2, tl, l', rfl, hw, ok, hw2, ht, he, hr⟩
  · have hf := find_done' hle' hw rfl
    obtain ⟨jj, mm, hj, hrun, hm⟩ := run_done hn hle' hw rfl
    have hfin := I.fin
    have hs := I.hs
    have hww := I.hw
    dsimp only at hs hww
    clear hpar I
    k_steps
    refine' Out.done h ?zk1 (EPost.weaken ?ze ?zk2 hfin.1 hfin.2) rfl rfl
    case ze => assumption
    case zk1 => exact Fr.keep (by assumption)
    case zk2 => exact Fr.keep (by assumption)
  · have hf := find_skip' hle' hw he
    obtain ⟨jj, mm, hj, hrun, hm⟩ := run_skip hn hle' hw he
    k_steps
    all_goals first | (exfalso; omega) | skip
    refine' ksw_end ⟨q + ws.length + 1, _, xs, i, ys, j, st, wk, rest⟩ ?zF ?zN ?zn trivial ?zk ?zr ?zp ?zm
    case zF => assumption
    case zN => assumption
    case zn => intro p hp; exact hp
    case zk => (intro p hp; rw [List.mem_singleton.mp hp]; rfl)
    case zr => walk_at "m:same"
    case zp => exact I.skip he hr
    case zm => (show _ - (q + ws.length + 1) < _ - q; omega)
  · obtain ⟨jj, mm, k, a, e, fin, R⟩ := run_tag hn hle' hw ok hw2 ht he
    have hp1 := ok.pos
    have hp2 := ok.len
    have hs := I.hs
    have hww := I.hw
    dsimp only at hs hww
    cases b
    · k_steps
      all_goals first | (exfalso; omega) | skip
      refine' ksw_end ⟨fin, _, xs.push (.str y _), _, ys, _, st ++ [y], wk, l'⟩ ?Fv1 ?Nv1 ?nv1 trivial ?kv1 ?rv1 ?pv1 ?mv1
      case Fv1 => assumption
      case Nv1 => assumption
      case nv1 => (dsimp only [pLed]; (refine' List.forall_mem_cons.mpr ⟨?nav1, List.forall_mem_cons.mpr ⟨?nbv1, List.forall_mem_nil _⟩⟩); (case nav1 => k_mem); (case nbv1 => k_mem))
      case kv1 => (intro p hp; rw [List.mem_singleton.mp hp]; rfl)
      case rv1 => walk_at "m:same"
      case pv1 => exact I.strong R hr
      case mv1 => (have := R.fin1; have := R.fin2; show _ - fin < _ - q; unfold Str.length at *; omega)
    · k_steps
      all_goals first | (exfalso; omega) | skip
      refine' ksw_end ⟨fin, _, xs, _, ys.push (.str y _), _, st, wk ++ [y], l'⟩ ?Fv2 ?Nv2 ?nv2 trivial ?kv2 ?rv2 ?pv2 ?mv2
      case Fv2 => assumption
      case Nv2 => assumption
      case nv2 => (dsimp only [pLed]; (refine' List.forall_mem_cons.mpr ⟨?nav2, List.forall_mem_cons.mpr ⟨?nbv2, List.forall_mem_nil _⟩⟩); (case nav2 => k_mem); (case nbv2 => k_mem))
      case kv2 => (intro p hp; rw [List.mem_singleton.mp hp]; rfl)
      case rv2 => walk_at "m:same"
      case pv2 => exact I.weak R hr
      case mv2 => (have := R.fin1; have := R.fin2; show _ - fin < _ - q; unfold Str.length at *; omega)
end
end Mine
end

section
open PySem PySem.W PySem.Calls PySem.Spec PyProof.Rows
set_option maxRecDepth 100000
set_option maxHeartbeats 8000000
namespace Mine
local macro_rules | `(tactic| k_enter) => `(tactic| (refine' enter ?k1 ?k2 ?k6 ?k7 ?k8 ?k9 ?kB ?_ ?c2 ?c3 ?c4 ?c5; (case k1 => assumption); (case k2 => assumption); (case k6 => k_is); (case k7 => k_is); (case k8 => (have := (by assumption : Room2 _).hd; omega)); (case k9 => first | exact BindsTo.of_eq rfl | exact binds_K (by k_in) rfl (by k_is) rfl rfl rfl | fail "k_enter: no rule for these arguments"); (case c5 => decide); (case kB => exact locs rfl); (case c2 => exact rfl); (case c3 => exact rfl); (case c4 => exact rfl); k_whole; intro L' h' F' N'; (try dsimp only); (try k_fold)))
local macro_rules | `(tactic| walk_at "call ref") => `(tactic| (k_here; k_dflt (first
  | (refine' etags0 ?k7 ?k8 ?k9 (out_K ?kF ?kN ?_); (case k7 => exact Room.deeper (by assumption)); (case k8 => exact Frag.In.keeps (by assumption) (Fr.keep (by assumption))); (case k9 => exact Top.keeps (by assumption) (Fr.keep (by assumption))); (case kF => k_asm); (case kN => k_asm); k_whole; intro h' tk' dr' v' F' N' k' e')
  | (refine' etags_star ?k7 ?k8 ?k9 (out_K ?kF ?kN ?_); (case k7 => exact Room.deeper (by assumption)); (case k8 => exact Frag.In.keeps (by assumption) (Fr.keep (by assumption))); (case k9 => exact Top.keeps (by assumption) (Fr.keep (by assumption))); (case kF => k_asm); (case kN => k_asm); k_whole; intro h' tk' dr' v' F' N' k' e'))))
section
variable {p : Program} {loose : List Str} {w : World} {A : Around} {s : Shared} {mean : ExcName → Option Value} {mg mb : Str → Option Value} {Q E : Value → Shared → Prop} {h₀ : Heap}

theorem parse_none (RM : Room2 A) (X : (hd.heap_39 w.params).In s.heap) (T : Top p loose mean mg mb s.heap)
   (h : Out s (EPost w s.heap [] [] false) Q) :
   wpAny (model PySem.Challenge.rw_ez0425_01.row.prog w) A (call (.ref 221) [.none]) Q E s := by
  revert X T
  k_fill
  intro X T
  refine wpAny_call ?_
  k_dflt k_enter
  k_steps
  refine' Out.done h ?zk1 (EPost.weaken ?ze ?zk2 rfl rfl) rfl rfl
  case ze => assumption
  case zk1 => exact Fr.keep (by assumption)
  case zk2 => exact Fr.keep (by assumption)
theorem parse_empty {t : Tok} (RM : Room2 A) (X : (hd.heap_39 w.params).In s.heap) (T : Top p loose mean mg mb s.heap)
   (h : Out s (EPost w s.heap [] [] false) Q) :
   wpAny (model PySem.Challenge.rw_ez0425_01.row.prog w) A (call (.ref 221) [.str (Str.ofString "") t]) Q E s := by
  refine wpAny_call ?_
  k_dflt k_enter
  k_steps
  refine' Out.done h ?zk1 (EPost.weaken ?ze ?zk2 rfl rfl) rfl rfl
  case ze => assumption
  case zk1 => exact Fr.keep (by assumption)
  case zk2 => exact Fr.keep (by assumption)
theorem parse_star {t : Tok} (RM : Room2 A) (X : (hd.heap_39 w.params).In s.heap) (T : Top p loose mean mg mb s.heap)
   (h : Out s (EPost w s.heap [] [] true) Q) :
   wpAny (model PySem.Challenge.rw_ez0425_01.row.prog w) A (call (.ref 221) [.str (Str.ofString "*") t]) Q E s := by
  refine wpAny_call ?_
  k_dflt k_enter
  k_steps
  refine' Out.done h ?zk1 (EPost.weaken ?ze ?zk2 rfl rfl) rfl rfl
  case ze => assumption
  case zk1 => exact Fr.keep (by assumption)
  case zk2 => exact Fr.keep (by assumption)
end
end Mine
end

section
open PySem PySem.W PySem.Calls PySem.Spec PyProof.Rows
set_option maxRecDepth 100000
set_option maxHeartbeats 8000000
namespace Mine
abbrev irDict (w : World) (t1 t2 : Tok) (y : Str) : Obj := dictOf [⟨PyData.keyHash w.params (Str.ofString "etag"), .str (Str.ofString "etag") t1, .str y t2⟩] 1
def IPost (w : World) (h0 : Heap) (y : Str) (h' : Heap) (v : Value) : Prop := ∃ x d t1 t2, v = .ref x ∧ Owns h0 h' [(x, instObj 183 d), (d, irDict w t1 t2 y)]
theorem Owns.weaken {h0 h1 h' : Heap} {own : List (Addr × Obj)} (O : Owns h1 h' own) (k : Ext h0 h1) : Owns h0 h' own := fun p hp => ⟨(O p hp).1, by
  cases q : h0.get? p.1 with
  | none => rfl
  | some o => have := (O p hp).2; rw [k _ _ q] at this; cases this⟩
theorem Owns.sub {h₀ h : Heap} {own own' : List (Addr × Obj)} (O : Owns h₀ h own) (k : ∀ p ∈ own', p ∈ own) : Owns h₀ h own' := fun p hp => O p (k p hp)
theorem IPost.weaken {w : World} {h0 h1 h' : Heap} {y : Str} {v : Value} (e : IPost w h1 y h' v) (k : Ext h0 h1) : IPost w h0 y h' v := by
  obtain ⟨x, d, t1, t2, rfl, O⟩ := e
  exact ⟨x, d, t1, t2, rfl, O.weaken k⟩
theorem IPost.mk {w : World} {h0 g h : Heap} {L x d : Addr} {t1 t2 : Tok} {y : Str} {news : List (Addr × Obj)} (N : News g L h news) (k : Ext h0 g) (m1 : (x, instObj 183 d) ∈ news) (m2 : (d, irDict w t1 t2 y) ∈ news) : IPost w h0 y h (.ref x) := by
  refine ⟨x, d, t1, t2, rfl, Owns.weaken (Owns.sub (Owns.of N) fun p hp => ?_) k⟩
  rcases List.mem_cons.mp hp with rfl | hp
  · exact m1
  · rw [List.mem_singleton.mp hp]; exact m2
local macro_rules | `(tactic| k_enter) => `(tactic| (refine' enterG ?k1 ?k2 ?k3 ?k4 ?k6 ?k7 ?k8 ?k9 ?kB ?_ ?c2 ?c3 ?c4 ?c5; (case k1 => assumption); (case k2 => assumption); (case k3 => with_unfolding_all assumption); (case k4 => with_unfolding_all assumption); (case k6 => k_is); (case k7 => k_is); (case k8 => (have := (by assumption : Room1 _).hd; (try simp only [depth_under_make, depth_under_kw, depth_in1, depth_deeper, depth_caller]); omega)); (case k9 => first | exact BindsTo.of_eq rfl | exact binds_K (by first | k_in | exact Frag.In.keeps (by assumption) (by assumption)) rfl (by k_is) rfl rfl rfl | fail "k_enter: no rule for these arguments"); (case c5 => decide); (case kB => exact locs rfl); (case c2 => exact rfl); (case c3 => exact rfl); (case c4 => exact rfl); k_whole; intro g' L' h' X' T' kg' H' F' N'; (try dsimp only); (try k_fold)))
section
variable {p : Program} {loose : List Str} {w : World} {A : Around} {s : Shared} {mean : ExcName → Option Value} {mg mb : Str → Option Value} {Q E : Value → Shared → Prop} {h₀ : Heap}
theorem ifr_new {y : Str} {t : Tok} (RM : Room1 A) (X : (hd.heap_39 w.params).In s.heap) (T : Top p loose mean mg mb s.heap)
   (h : Out s (IPost w s.heap y) Q) :
   wpAny (model PySem.Challenge.rw_ez0425_01.row.prog w) A (call (.ref 183) [.str y t]) Q E s := by
  revert X T
  k_fill
  intro X T
  refine' make_own ?k1 ?k4 ?k5 ?k6 ?_
  case k1 => exact X
  case k4 => k_is
  case k5 => k_is
  case k6 => k_is
  k_whole
  intro x' d' h' kx O l2
  k_lt2 l2
  k_dflt k_enter
  k_steps
  refine ⟨rfl, ?_⟩
  refine' Out.done h ?zk1 (IPost.mk ?zN ?zk2 ?zm1 ?zm2) rfl rfl
  case zk1 => exact (Ext.trans (by assumption) (Fr.keep (by assumption)))
  case zN => assumption
  case zk2 => assumption
  case zm1 => k_mem
  case zm2 => k_mem
end
local macro_rules | `(tactic| k_enter) => `(tactic| (refine' enter ?k1 ?k2 ?k6 ?k7 ?k8 ?k9 ?kB ?_ ?c2 ?c3 ?c4 ?c5; (case k1 => assumption); (case k2 => assumption); (case k6 => k_is); (case k7 => k_is); (case k8 => (have := (by assumption : Room _).hd; omega)); (case k9 => first | exact BindsTo.of_eq rfl | exact binds_K (by k_in) rfl (by k_is) rfl rfl rfl | fail "k_enter: no rule for these arguments"); (case c5 => decide); (case kB => exact locs rfl); (case c2 => exact rfl); (case c3 => exact rfl); (case c4 => exact rfl); k_whole; intro L' h' F' N'; (try dsimp only); (try k_fold)))
theorem unq_K {s : Shared} {h₀ : Heap} {L : Addr} {m : Str → Option Value} {news : List (Addr × Obj)} {y : Str} {b : Bool} {Q : Value → Shared → Prop} (F : Fr h₀ L s.heap m) (N : News h₀ L s.heap news)
    (h : ∀ a t' n h' tk dr, Fr h₀ L h' m → News h₀ L h' ((a, { cls := .type "tuple", data := .seq #[.str y t', .bool b] n }) :: news) → (∀ p ∈ news, p.1 ≠ a) → Ext s.heap h' → Q (.ref a) { s with heap := h', toks := tk, drawn := dr }) :
    Out s (fun h' v => ∃ a t' n, v = .ref a ∧ s.heap.get? a = none ∧ h'.get? a = some { cls := .type "tuple", data := .seq #[.str y t', .bool b] n }) Q := by
  rintro h' tk dr v k ⟨a, t', n, rfl, hf, hg⟩
  exact h a t' n h' tk dr (Fr.ext F k) (News.add F (News.ext N k) hf hg) (Owns.cons_ne N hf) k
local macro_rules | `(tactic| walk_at "call ref") => `(tactic| (k_here; k_dflt (first
  | (refine' unq_tag ?k6 ?k7 ?k8 ?k9 (unq_K ?kF ?kN ?_); (case k6 => assumption); (case k7 => exact Room1.deeper (by assumption)); (case k8 => exact Frag.In.keeps (by assumption) (Fr.keep (by assumption))); (case k9 => exact Top.keeps (by assumption) (Fr.keep (by assumption))); (case kF => k_asm); (case kN => k_asm); k_whole; intro a' t' n' h' tk' dr' F' N' l1 k')
  | (refine' ifr_new ?k7 ?k8 ?k9 (out_K ?kF ?kN ?_); (case k7 => exact Room1.deeper (by assumption)); (case k8 => exact Frag.In.keeps (by assumption) (Fr.keep (by assumption))); (case k9 => exact Top.keeps (by assumption) (Fr.keep (by assumption))); (case kF => k_asm); (case kN => k_asm); k_whole; intro h' tk' dr' v' F' N' k' e'))))
section
variable {p : Program} {loose : List Str} {w : World} {A : Around} {s : Shared} {mean : ExcName → Option Value} {mg mb : Str → Option Value} {Q E : Value → Shared → Prop} {h₀ : Heap}
theorem ifr_parse {y : Str} {t : Tok} (ok : TagOk y) (RM : Room A) (X : (hd.heap_39 w.params).In s.heap) (T : Top p loose mean mg mb s.heap)
   (h : Out s (IPost w s.heap y) Q) :
   wpAny (model PySem.Challenge.rw_ez0425_01.row.prog w) A (call (.ref 194) [.str (quoteS false y) t]) Q E s := by
  have hp : 1 ≤ (quoteS false y).length := (unq_hyps ok).2.1
  have hl : (quoteS false y).length ≤ 10 := (unq_hyps (b := false) ok).1
  refine wpAny_call ?_
  k_dflt k_enter
  k_steps
  all_goals first | (exfalso; omega) | skip
  refine' Out.done h ?zk1 (IPost.weaken ?ze ?zk2) rfl rfl
  case ze => assumption
  case zk1 => exact Fr.keep (by assumption)
  case zk2 => exact Fr.keep (by assumption)
end
end Mine
end

section
open PySem PySem.W PySem.Calls PySem.Spec PyProof.Rows
set_option maxRecDepth 100000
set_option maxHeartbeats 8000000
namespace Mine
/-- a header's value that tells the tags l -/
def HdrOf (hv : Value) (l : List (Bool × Str)) (star : Bool) : Prop :=
  (hv = .none ∧ l = [] ∧ star = false) ∨ (∃ t, hv = .str (Str.ofString "*") t ∧ l = [] ∧ star = true) ∨ (∃ x t, hv = .str x t ∧ star = false ∧ x.length ≤ 100 ∧ l.length ≤ 4 ∧ ParL x.cps.toList l)
theorem par_nil {l : List (Bool × Str)} (h : ParL [] l) : l = [] := by
  rcases par_cases h with ⟨_, e⟩ | ⟨ws, r, _, he, _⟩ | ⟨b, x, ws, ws2, tl, l', _, _, _, _, _, he, _⟩
  · exact e
  · simp at he
  · have := congrArg List.length he
    simp [qt] at this
theorem par_star {l : List (Bool × Str)} (h : ParL [42] l) : False := by
  rcases par_cases h with ⟨hw, _⟩ | ⟨ws, r, hw, he, _⟩ | ⟨b, x, ws, ws2, tl, l', _, hw, ok, _, _, he, _⟩
  · rcases hw 42 (by simp) with h | h <;> cases h
  · have := congrArg List.length he
    simp at this
    have e1 : ws = [] := List.length_eq_zero_iff.mp (by omega)
    subst e1
    simp at he
  · have := congrArg List.length he
    simp [qt] at this
    cases b <;> simp at this <;> omega
section
variable {p : Program} {loose : List Str} {w : World} {A : Around} {s : Shared} {mean : ExcName → Option Value} {mg mb : Str → Option Value} {Q E : Value → Shared → Prop} {h₀ : Heap}
theorem parse_any {hv : Value} {l : List (Bool × Str)} {star : Bool} (H : HdrOf hv l star) (RM : Room2 A) (X : (hd.heap_39 w.params).In s.heap) (T : Top p loose mean mg mb s.heap)
   (h : Out s (EPost w s.heap (sOf l) (wOf l) star) Q) :
   wpAny (model PySem.Challenge.rw_ez0425_01.row.prog w) A (call (.ref 221) [hv]) Q E s := by
  rcases H with ⟨rfl, rfl, rfl⟩ | ⟨t, rfl, rfl, rfl⟩ | ⟨x, t, rfl, rfl, hle, h4, hl⟩
  · exact parse_none RM X T h
  · exact parse_star RM X T h
  · by_cases hz : x.length = 0
    · have hx : x = Str.ofString "" := by
        obtain ⟨⟨c⟩⟩ := x
        have : c = [] := by unfold Str.length at hz; simpa using hz
        subst this
        rfl
      subst hx
      have := par_nil hl
      subst this
      exact parse_empty RM X T h
    · refine parse_spec (by omega) ?_ hle h4 hl RM X T h
      rw [beq_eq_false_iff_ne]
      intro e
      subst e
      exact par_star hl
end
end Mine
end

section
open PySem PySem.W PySem.Calls PySem.Spec PyProof.Rows
set_option maxRecDepth 100000
set_option maxHeartbeats 8000000
namespace Mine
section
variable {prog : Program} {w : World} {A : Around} {E : Value → Shared → Prop} {s : Shared} {h₀ : Heap} {L : Addr} {m : Str → Option Value} {news : List (Addr × Obj)}
theorem ets_K {ss ws : List Str} {star : Bool} {Q : Value → Shared → Prop} (F : Fr h₀ L s.heap m) (N : News h₀ L s.heap news)
    (h : ∀ x d fs fw o1 o2 t1 t2 t3 S W h' tk dr, Fr h₀ L h' m → News h₀ L h' ((x, instObj 140 d) :: (d, etDict w t1 t2 t3 fs fw star) :: (fs, o1) :: (fw, o2) :: news) → SSet w "frozenset" o1 S → SSet w "frozenset" o2 W → (∀ y, y ∈ S ↔ y ∈ ss) → (∀ y, y ∈ W ↔ y ∈ ws) → S.length ≤ ss.length → W.length ≤ ws.length → Ext s.heap h' → Q (.ref x) { s with heap := h', toks := tk, drawn := dr }) :
    Out s (EPost w s.heap ss ws star) Q := by
  rintro h' tk dr v k ⟨x, S, W, rfl, ⟨d, fs, fw, o1, o2, t1, t2, t3, O, S1, S2⟩, e1, e2, l1, l2⟩
  have q1 := O _ (.head _)
  have q2 := O _ (.tail _ (.head _))
  have q3 := O _ (.tail _ (.tail _ (.head _)))
  have q4 := O _ (.tail _ (.tail _ (.tail _ (.head _))))
  exact h x d fs fw o1 o2 t1 t2 t3 S W h' tk dr (Fr.ext F k) (News.add F (News.add F (News.add F (News.add F (News.ext N k) q4.2 q4.1) q3.2 q3.1) q2.2 q2.1) q1.2 q1.1) S1 S2 e1 e2 l1 l2 k
theorem ir_K {y : Str} {Q : Value → Shared → Prop} (F : Fr h₀ L s.heap m) (N : News h₀ L s.heap news)
    (h : ∀ x d t1 t2 h' tk dr, Fr h₀ L h' m → News h₀ L h' ((x, instObj 183 d) :: (d, irDict w t1 t2 y) :: news) → Ext s.heap h' → Q (.ref x) { s with heap := h', toks := tk, drawn := dr }) :
    Out s (IPost w s.heap y) Q := by
  rintro h' tk dr v k ⟨x, d, t1, t2, rfl, O⟩
  have q1 := O _ (.head _)
  have q2 := O _ (.tail _ (.head _))
  exact h x d t1 t2 h' tk dr (Fr.ext F k) (News.add F (News.add F (News.ext N k) q2.2 q2.1) q1.2 q1.1) k
theorem isEmpty_same {l k : List Str} (h : ∀ y, y ∈ l ↔ y ∈ k) : l.isEmpty = k.isEmpty := by
  cases l with
  | nil =>
    cases k with
    | nil => rfl
    | cons y r => exact absurd ((h y).mpr (.head _)) (by simp)
  | cons y r =>
    cases k with
    | nil => exact absurd ((h y).mp (.head _)) (by simp)
    | cons z q => rfl
end
def bbOf (l : List (Bool × Str)) (star : Bool) : Bool := star || (!(sOf l).isEmpty || !(wOf l).isEmpty)
section
variable {p : Program} {loose : List Str} {w : World} {A : Around} {s : Shared} {mean : ExcName → Option Value} {mg mb : Str → Option Value} {E : Value → Shared → Prop} {h₀ : Heap} {L : Addr} {m : Str → Option Value} {news : List (Addr × Obj)}
theorem truthy_et_K {x d fs fw : Addr} {o1 o2 : Obj} {t1 t2 t3 : Tok} {S W ss ws : List Str} {star b : Bool} {Q : Bool → Shared → Prop} (RM : Room1 A) (X : (hd.heap_39 w.params).In h₀) (T : Top p loose mean mg mb h₀) (F : Fr h₀ L s.heap m) (N : News h₀ L s.heap news) (m1 : (x, instObj 140 d) ∈ news) (m2 : (d, etDict w t1 t2 t3 fs fw star) ∈ news) (m3 : (fs, o1) ∈ news) (m4 : (fw, o2) ∈ news) (S1 : SSet w "frozenset" o1 S) (S2 : SSet w "frozenset" o2 W)
    (e1 : ∀ y, y ∈ S ↔ y ∈ ss) (e2 : ∀ y, y ∈ W ↔ y ∈ ws) (hb : (star || (!ss.isEmpty || !ws.isEmpty)) = b) (h : ∀ h' tk dr, Fr h₀ L h' m → News h₀ L h' news → Ext s.heap h' → Q b { s with heap := h', toks := tk, drawn := dr }) :
    wpAny (model PySem.Challenge.rw_ez0425_01.row.prog w) A (truthy (.ref x)) Q E s := by
  revert X T
  k_fill
  intro X T
  refine' truthy_K ?k1 ?k2 ?k3 ?k4 ?k5 ?_
  case k1 => exact F
  case k2 => exact X
  case k3 => exact InstAt.of_news N m1 m2
  case k4 => k_is
  case k5 => k_is
  refine et_bool_spec RM X T F.keep (ETs.of_news N (Ext.refl _) m1 m2 m3 m4 S1 S2) (out_K F N fun h' tk dr v F' N' k e => ?_)
  subst e
  show Q _ _
  rw [isEmpty_same e1, isEmpty_same e2, hb]
  exact h h' tk dr F' N' k
end
end Mine
end

section
open PySem PySem.W PySem.Calls PySem.Spec PyProof.Rows
set_option maxRecDepth 100000
set_option maxHeartbeats 8000000
namespace Mine
theorem HdrOf.nil : HdrOf .none [] false := .inl ⟨rfl, rfl, rfl⟩
local macro_rules | `(tactic| k_enter) => `(tactic| (refine' enter ?k1 ?k2 ?k6 ?k7 ?k8 ?k9 ?kB ?_ ?c2 ?c3 ?c4 ?c5; (case k1 => assumption); (case k2 => assumption); (case k6 => k_is); (case k7 => k_is); (case k8 => (have := (by assumption : Room3 _).hd; omega)); (case k9 => first | exact BindsTo.of_eq rfl | exact binds_K (by k_in) rfl (by k_is) rfl rfl rfl | fail "k_enter: no rule for these arguments"); (case c5 => decide); (case kB => exact locs rfl); (case c2 => exact rfl); (case c3 => exact rfl); (case c4 => exact rfl); k_whole; intro L' h' F' N'; (try dsimp only); (try k_fold)))
local macro_rules | `(tactic| walk_at "m:X") => `(tactic| exact Frag.In.keeps (by assumption) (Fr.keep (by assumption)))
local macro_rules | `(tactic| walk_at "m:T") => `(tactic| exact Top.keeps (by assumption) (Fr.keep (by assumption)))
local macro_rules | `(tactic| walk_at "m:R1") => `(tactic| exact Room.one (Room2.zero (Room2.deeper (by assumption))))
local macro_rules | `(tactic| walk_at "m:R2") => `(tactic| exact Room2.deeper (by assumption))
local macro_rules | `(tactic| walk_at "m:R0") => `(tactic| exact Room2.zero (Room2.deeper (by assumption)))
local macro_rules | `(tactic| walk_at "m:ets") => `(tactic| (refine' ETs.of_news ?e1 (Ext.refl _) ?e2 ?e3 ?e4 ?e5 ?e6 ?e7; (case e1 => k_asm); (case e2 => k_mem); (case e3 => k_mem); (case e4 => k_mem); (case e5 => k_mem); (case e6 => assumption); (case e7 => assumption)))
local macro_rules | `(tactic| walk_at "call ref") => `(tactic| (k_here; k_dflt (first
  | (refine' unq_tag ?k6 ?k7 ?k8 ?k9 (unq_K ?kF ?kN ?_); (case k6 => assumption); (case k7 => walk_at "m:R1"); (case k8 => walk_at "m:X"); (case k9 => walk_at "m:T"); (case kF => k_asm); (case kN => k_asm); k_whole; intro a' t' n' h' tk' dr' F' N' l1 k')
  | (refine' ifr_parse ?k6 ?k7 ?k8 ?k9 (ir_K ?kF ?kN ?_); (case k6 => assumption); (case k7 => walk_at "m:R0"); (case k8 => walk_at "m:X"); (case k9 => walk_at "m:T"); (case kF => k_asm); (case kN => k_asm); k_whole; intro x' d' t1' t2' h' tk' dr' F' N' k')
  | (refine' parse_any HdrOf.nil ?k7 ?k8 ?k9 (ets_K ?kF ?kN ?_); (case k7 => walk_at "m:R2"); (case k8 => walk_at "m:X"); (case k9 => walk_at "m:T"); (case kF => k_asm); (case kN => k_asm); k_whole; intro x' d' fs' fw' o1' o2' t1' t2' t3' S' W' h' tk' dr' F' N' S1' S2' e1' e2' l1' l2' k')
  | (refine' parse_any ?k6 ?k7 ?k8 ?k9 (ets_K ?kF ?kN ?_); (case k6 => assumption); (case k7 => walk_at "m:R2"); (case k8 => walk_at "m:X"); (case k9 => walk_at "m:T"); (case kF => k_asm); (case kN => k_asm); k_whole; intro x' d' fs' fw' o1' o2' t1' t2' t3' S' W' h' tk' dr' F' N' S1' S2' e1' e2' l1' l2' k')
  | (refine' contains_weak_spec ?k7 ?k8 ?k9 ?k4 ?k5 (out_K ?kF ?kN ?_); (case k7 => walk_at "m:R2"); (case k8 => assumption); (case k9 => assumption); (case kF => k_asm); (case kN => k_asm); (case k4 => exact Fr.keep (by assumption)); (case k5 => walk_at "m:ets"); k_whole; intro h' tk' dr' v' F' N' k' e'; subst e')
  | (refine' is_strong_spec ?k7 ?k8 ?k9 ?k4 ?k5 (out_K ?kF ?kN ?_); (case k7 => walk_at "m:R1"); (case k8 => assumption); (case k9 => assumption); (case kF => k_asm); (case kN => k_asm); (case k4 => exact Fr.keep (by assumption)); (case k5 => walk_at "m:ets"); k_whole; intro h' tk' dr' v' F' N' k' e'; subst e'))))
local macro_rules | `(tactic| walk_at "truthy ref") => `(tactic| (k_here; (with_reducible show wpAny _ _ (truthy (Value.ref _)) _ _ _); k_dflt (refine' truthy_et_K ?k7 ?k8 ?k9 ?kF ?kN ?m1 ?m2 ?m3 ?m4 ?s1 ?s2 ?e1 ?e2 ?hb ?_; (case k7 => walk_at "m:R1"); (case k8 => assumption); (case k9 => assumption); (case kF => k_asm); (case kN => k_asm); (case m1 => k_mem); (case m2 => k_mem); (case m3 => k_mem); (case m4 => k_mem); (case s1 => assumption); (case s2 => assumption); (case e1 => assumption); (case e2 => assumption); (case hb => first | assumption | rfl); k_whole; intro h' tk' dr' F' N' k')))
local macro_rules | `(tactic| walk_at "assign Tuple") => `(tactic| (k_here; (with_reducible show wpAny _ _ (assign (Expr.Tuple _ _ _) _ (Value.ref _)) _ _ _); k_dflt (refine' unpackN_ ?k1 ?k2 ?k3 ?k4 ?k5 ?k6 ?_; (case k1 => k_asm); (case k2 => k_asm); (case k3 => exact tup_news (by k_asm) (by k_mem)); (case k4 => (have q := (by assumption : Room3 _).hh; exact q)); (case k5 => exact rfl); (case k6 => exact rfl); k_whole); intro h' F' N'))
theorem bb_false {l : List (Bool × Str)} {star : Bool} (hb : (star || (!(sOf l).isEmpty || !(wOf l).isEmpty)) = false) : star = false ∧ sOf l = [] ∧ wOf l = [] := by
  rw [Bool.or_eq_false_iff, Bool.or_eq_false_iff] at hb
  obtain ⟨h1, h2, h3⟩ := hb
  refine ⟨h1, ?_, ?_⟩
  · cases q : sOf l with
    | nil => rfl
    | cons a b => rw [q] at h2; cases h2
  · cases q : wOf l with
    | nil => rfl
    | cons a b => rw [q] at h3; cases h3
theorem res_eq {S W S0 W0 : List Str} {star : Bool} {y : Str} (e1 : ∀ y, y ∈ S ↔ y ∈ S0) (e2 : ∀ y, y ∈ W ↔ y ∈ W0) : Value.bool (!(decide (y ∈ W) || (star || decide (y ∈ S)))) = Value.bool (!(decide (y ∈ W0) || (star || decide (y ∈ S0)))) := by
  rw [decide_eq_decide.mpr (e1 y), decide_eq_decide.mpr (e2 y)]
theorem res_eq2 {S S0 : List Str} {y : Str} (e1 : ∀ y, y ∈ S ↔ y ∈ S0) : Value.bool (!(!decide (y ∈ S))) = Value.bool (!true || decide (y ∈ S0)) := by
  have e : decide (y ∈ S) = decide (y ∈ S0) := decide_eq_decide.mpr (e1 y)
  rw [e]; simp
section
variable {p : Program} {loose : List Str} {w : World} {A : Around} {s : Shared} {mean : ExcName → Option Value} {mg mb : Str → Option Value} {Q E : Value → Shared → Prop} {h₀ : Heap}
theorem irm_none {hv : Value} {l : List (Bool × Str)} {star b : Bool} {y : Str} {t : Tok} (H : HdrOf hv l star) (ok : TagOk y) (RM : Room3 A) (X : (hd.heap_39 w.params).In s.heap) (T : Top p loose mean mg mb s.heap)
   (h : Out s (fun _ v => v = .bool (!(decide (y ∈ wOf l) || (star || decide (y ∈ sOf l))))) Q) :
   wpAny (model PySem.Challenge.rw_ez0425_01.row.prog w) A (call (.ref 229) [] [(Str.ofString "http_if_none_match", hv), (Str.ofString "etag", .str (quoteS b y) t)]) Q E s := by
  revert X T
  k_fill
  intro X T
  have hp : 1 ≤ (quoteS b y).length := (unq_hyps (b := b) ok).2.1
  have hl : (quoteS b y).length ≤ 10 := (unq_hyps (b := b) ok).1
  cases hb : (star || (!(sOf l).isEmpty || !(wOf l).isEmpty))
  · refine wpAny_call ?_
    k_dflt k_enter
    k_steps
    all_goals first | (exfalso; omega) | skip
    obtain ⟨b1, b2, b3⟩ := bb_false hb
    refine Out.done h (Fr.keep (by assumption)) (by rw [b1, b2, b3]; simp) rfl rfl
  · refine wpAny_call ?_
    k_dflt k_enter
    k_steps
    all_goals first | (exfalso; omega) | skip
    refine' Out.done h (Fr.keep (by assumption)) (res_eq ?za ?zb) rfl rfl
    case za => assumption
    case zb => assumption
theorem irm_both {hv : Value} {l : List (Bool × Str)} {star b : Bool} {y : Str} {q : Str} {t u : Tok} (H : HdrOf hv l star) (ok : TagOk y) (RM : Room3 A) (X : (hd.heap_39 w.params).In s.heap) (T : Top p loose mean mg mb s.heap)
   (h : Out s (fun _ v => v = .bool (!(decide (y ∈ wOf l) || (star || decide (y ∈ sOf l))))) Q) :
   wpAny (model PySem.Challenge.rw_ez0425_01.row.prog w) A (call (.ref 229) [] [(Str.ofString "http_if_range", .str q u), (Str.ofString "etag", .str (quoteS b y) t), (Str.ofString "http_if_none_match", hv), (Str.ofString "ignore_if_range", .bool false)]) Q E s := by
  have hp : 1 ≤ (quoteS b y).length := (unq_hyps (b := b) ok).2.1
  have hl : (quoteS b y).length ≤ 10 := (unq_hyps (b := b) ok).1
  cases hb : (star || (!(sOf l).isEmpty || !(wOf l).isEmpty))
  · refine wpAny_call ?_
    k_dflt k_enter
    k_steps
    all_goals first | (exfalso; omega) | skip
    obtain ⟨b1, b2, b3⟩ := bb_false hb
    refine Out.done h (Fr.keep (by assumption)) (by rw [b1, b2, b3]; simp) rfl rfl
  · refine wpAny_call ?_
    k_dflt k_enter
    k_steps
    all_goals first | (exfalso; omega) | skip
    refine' Out.done h (Fr.keep (by assumption)) (res_eq ?za ?zb) rfl rfl
    case za => assumption
    case zb => assumption
theorem irm_match {hv : Value} {l : List (Bool × Str)} {star b : Bool} {y : Str} {t : Tok} (H : HdrOf hv l star) (ok : TagOk y) (RM : Room3 A) (X : (hd.heap_39 w.params).In s.heap) (T : Top p loose mean mg mb s.heap)
   (h : Out s (fun _ v => v = .bool (!(star || (!(sOf l).isEmpty || !(wOf l).isEmpty)) || decide (y ∈ sOf l))) Q) :
   wpAny (model PySem.Challenge.rw_ez0425_01.row.prog w) A (call (.ref 229) [] [(Str.ofString "http_if_match", hv), (Str.ofString "etag", .str (quoteS b y) t)]) Q E s := by
  have hp : 1 ≤ (quoteS b y).length := (unq_hyps (b := b) ok).2.1
  have hl : (quoteS b y).length ≤ 10 := (unq_hyps (b := b) ok).1
  cases hb : (star || (!(sOf l).isEmpty || !(wOf l).isEmpty))
  · rw [hb] at h
    refine wpAny_call ?_
    k_dflt k_enter
    k_steps
    all_goals first | (exfalso; omega) | skip
    refine Out.done h (Fr.keep (by assumption)) (by simp) rfl rfl
  · rw [hb] at h
    refine wpAny_call ?_
    k_dflt k_enter
    k_steps
    all_goals first | (exfalso; omega) | skip
    refine' Out.done h (Fr.keep (by assumption)) (res_eq2 ?za) rfl rfl
    case za => assumption
theorem irm_range {b : Bool} {y z r : Str} {t u v : Tok} (hr : 1 ≤ r.length) (ok : TagOk y) (okz : TagOk z) (RM : Room3 A) (X : (hd.heap_39 w.params).In s.heap) (T : Top p loose mean mg mb s.heap)
   (h : Out s (fun _ v => v = .bool (!(z == y))) Q) :
   wpAny (model PySem.Challenge.rw_ez0425_01.row.prog w) A (call (.ref 229) [] [(Str.ofString "http_range", .str r v), (Str.ofString "http_if_range", .str (quoteS false z) u), (Str.ofString "etag", .str (quoteS b y) t), (Str.ofString "ignore_if_range", .bool false)]) Q E s := by
  have hp : 1 ≤ (quoteS b y).length := (unq_hyps (b := b) ok).2.1
  have hl : (quoteS b y).length ≤ 10 := (unq_hyps (b := b) ok).1
  refine wpAny_call ?_
  k_dflt k_enter
  k_steps
  all_goals first | (exfalso; omega) | skip
  refine Out.done h (Fr.keep (by assumption)) rfl rfl rfl
end
end Mine
end

section
open PySem PySem.W PySem.Calls PySem.Spec PyProof.Rows
set_option maxRecDepth 100000
set_option maxHeartbeats 8000000
namespace Mine
theorem small5 {n : Nat} (h : n ≤ 4) : Builtin.Range.small 0 n 1 = true ∧ Builtin.Range.rangeSize 0 n 1 = (n : Int) := by
  match n, h with
  | 0, _ => exact ⟨by decide +kernel, by decide +kernel⟩
  | 1, _ => exact ⟨by decide +kernel, by decide +kernel⟩
  | 2, _ => exact ⟨by decide +kernel, by decide +kernel⟩
  | 3, _ => exact ⟨by decide +kernel, by decide +kernel⟩
  | 4, _ => exact ⟨by decide +kernel, by decide +kernel⟩
section
variable {prog : Program} {w : World} {A : Around} {E : Value → Shared → Prop} {s : Shared} {h₀ : Heap} {env : Env} {m : Str → Option Value} {news : List (Addr × Obj)}
/-- a turn's end -/
def TurnEnd (h₀ : Heap) (L : Addr) (s : Shared) (I : Addr) (oI : Obj) (J : (Str → Option Value) → List (Addr × Obj) → Prop) (f : Flow) (s' : Shared) : Prop :=
  (f = .next ∨ f = .cont) ∧ ∃ h' tk dr m' news', s' = { s with heap := h', toks := tk, drawn := dr } ∧ Fr h₀ L h' m' ∧ News h₀ L h' ((I, oI) :: news') ∧ (∀ p ∈ news', p.1 ≠ I) ∧ J m' news'
theorem iter_range_J {r : Addr} {n : Nat} {t u v : Tok} {x : Str} {px : Pos} {body : List Stmt} {Q : Flow → Shared → Prop} (hh : A.handled = none) (hr : IsRange s.heap r 0 n 1 t u v) (hn : n ≤ 4) (hx : env.kindOf x = some .local)
    (hp : (env.scope.kind == .class || (env.scope.kind == .module && env.locals != env.globals)) = false)
    (F : Fr h₀ env.locals s.heap m) (N : News h₀ env.locals s.heap news) (J : Nat → (Str → Option Value) → List (Addr × Obj) → Prop) (h0 : J 0 m news)
    (step : ∀ (i : Nat) m₁ news₁ h tk dr I oI t, i < n → J i m₁ news₁ → (∀ p ∈ news₁, p.1 ≠ I) → Fr h₀ env.locals h (fun y => if y = x then some (.int i t) else m₁ y) → News h₀ env.locals h ((I, oI) :: news₁) →
      wpAny (model prog w) A (execs body env) (TurnEnd h₀ env.locals s I oI (J (i + 1))) E { s with heap := h, toks := tk, drawn := dr })
    (done : ∀ h' tk dr m' news', Fr h₀ env.locals h' m' → News h₀ env.locals h' news' → J n m' news' → Q .next { s with heap := h', toks := tk, drawn := dr })
    (hE : PassesOwn (model prog w) A env E) :
    wpAny (model prog w) A (pyIter (.ref r)) (fun it s₂ => codeAny (model prog w) A (.forLoop (.Name x px) it body [] env) (fun r s' => match r with | .ok f => Q f s' | .error e => cameBackBy (model prog w) A env E e s') s₂) E s := by
  obtain ⟨hsm, hsz⟩ := small5 hn
  refine wpAny_pyIter_range hr hsm ?_
  rw [hsz]
  generalize hI : s.heap.objs.size = I
  have W := Walks.range (prog := prog) (w := w) (A := A) hh I 0 1 n
  have hLI : env.locals < I := hI ▸ F.ns.lt
  refine codeAny_forLoop
    (fun k s' => ∃ i h' tk dr m' news', s' = { s with heap := h', toks := tk, drawn := dr } ∧ IsRangeIter h' I (0 + (i : Nat) * 1) ((n : Int) - (i : Nat)) 1 ∧ Fr h₀ env.locals h' m' ∧ News h₀ env.locals h' news' ∧ (∀ p ∈ news', p.1 ≠ I) ∧ J i m' news' ∧ h₀.get? I = none ∧ i ≤ n ∧ k = n + 1 - i) ?_ (n + 1)
    ⟨0, _, s.toks, s.drawn, m, news, rfl, ?_, F.push _, fun p hp => ⟨Heap.get?_push_of_some _ (N p hp).1, (N p hp).2⟩, fun p hp e => absurd (Heap.lt_size (N p hp).1) (by rw [e, hI]; exact Nat.lt_irrefl _), h0, hI ▸ none_at_size F, Nat.zero_le _, rfl⟩
  · rintro k s' ⟨i, h', tk, dr, m', news', rfl, hst, F', N', hoff, hJ, hnone, hi, rfl⟩
    have old : ∀ b o, h₀.get? b = some o → b ≠ I := fun b o e q => by rw [q, hnone] at e; cases e
    by_cases hlt : i < n
    · refine W.item i _ _ _ hlt hst fun v h₁ tk₁ hP hst₁ hk₁ => ?_
      obtain ⟨t', rfl⟩ := hP
      have F₁ : Fr h₀ env.locals h₁ m' := ⟨F'.ns.at' fun o e => hk₁ _ o (fun hb => absurd hLI (by rw [List.mem_singleton.mp hb]; exact Nat.lt_irrefl _)) e, fun b o e => hk₁ b o (fun hb => old b o e (List.mem_singleton.mp hb)) (F'.keep b o e), F'.above⟩
      have N₁ : News h₀ env.locals h₁ news' := fun p hp => ⟨hk₁ _ _ (fun hb => hoff p hp (List.mem_singleton.mp hb)) (N' p hp).1, (N' p hp).2⟩
      refine wpAny_assign_Name (wpAny_storeName_local hx F₁.ns (fun h₂ hn₂ hs₂ => ?_) hp)
      have F₂ := F₁.set hn₂ hs₂
      have N₂ := N₁.set hs₂
      have hI₂ : IsRangeIter h₂ I (0 + ((i + 1 : Nat) : Int) * 1) ((n : Int) - ((i + 1 : Nat) : Int)) 1 := (hs₂.2 I (Nat.ne_of_gt hLI)).trans hst₁
      unfold IsRangeIter at hI₂
      obtain ⟨oI, heI⟩ : ∃ o : Obj, o = { cls := .type "range_iterator", data := .fields #[rawInt (0 + ((i + 1 : Nat) : Int) * 1), rawInt ((n : Int) - ((i + 1 : Nat) : Int)), rawInt 1] } := ⟨_, rfl⟩
      rw [← heI] at hI₂
      have e0 : (0 : Int) + (i : Int) * 1 = (i : Int) := by omega
      refine wpAny_mono (wpAny_passesOwn hE (step i m' news' h₂ _ dr I oI t' hlt hJ hoff (by rw [e0] at F₂; exact F₂) ?_)) (fun f s₃ h₃ => ?_) fun _ _ e => e
      · intro p hp
        rcases List.mem_cons.mp hp with rfl | hp
        · exact ⟨hI₂, Nat.ne_of_gt hLI, hnone⟩
        · exact N₂ p hp
      · obtain ⟨hf, h₃', tk₃, dr₃, m₃, news₃, rfl, F₃, N₃, hoff₃, hJ₃⟩ := h₃
        have key : ∃ m, m < n + 1 - i ∧ ∃ i' h' tk dr m' news', ({ s with heap := h₃', toks := tk₃, drawn := dr₃ } : Shared) = { s with heap := h', toks := tk, drawn := dr } ∧ IsRangeIter h' I (0 + (i' : Nat) * 1) ((n : Int) - (i' : Nat)) 1 ∧ Fr h₀ env.locals h' m' ∧ News h₀ env.locals h' news' ∧ (∀ p ∈ news', p.1 ≠ I) ∧ J i' m' news' ∧ h₀.get? I = none ∧ i' ≤ n ∧ m = n + 1 - i' :=
          ⟨n + 1 - (i + 1), by omega, i + 1, h₃', tk₃, dr₃, m₃, news₃, rfl, (by unfold IsRangeIter; rw [← heI]; exact (N₃ _ (.head _)).1), F₃, fun p hp => N₃ p (.tail _ hp), hoff₃, hJ₃, hnone, hlt, rfl⟩
        rcases hf with rfl | rfl
        · exact key
        · exact key
    · have hin : i = n := by omega
      subst hin
      refine W.done _ _ _ hst fun h₁ tk₁ hk₁ => wpAny_execs_nil ?_
      refine done h₁ tk₁ dr m' news' ⟨F'.ns.at' fun o e => hk₁ _ o (fun hb => absurd hLI (by rw [List.mem_singleton.mp hb]; exact Nat.lt_irrefl _)) e, fun b o e => hk₁ b o (fun hb => old b o e (List.mem_singleton.mp hb)) (F'.keep b o e), F'.above⟩ (fun p hp => ⟨hk₁ _ _ (fun hb => hoff p hp (List.mem_singleton.mp hb)) (N' p hp).1, (N' p hp).2⟩) hJ
  · show IsRangeIter _ _ _ _ _
    have := Heap.get?_push_size (h := s.heap) (o := { cls := .type "range_iterator", data := .fields #[rawInt 0, rawInt (n : Int), rawInt 1] }) rfl
    rw [hI] at this
    simpa using this
end
end Mine
end

section
open PySem PySem.W PySem.Calls PySem.Spec PyProof.Rows
set_option maxRecDepth 100000
set_option maxHeartbeats 4000000
namespace Mine
def TagX (x : Str) : Prop := TagOk x ∧ PyData.strOk x = true
theorem tagS_okx (n : Int) : TagX (tagS n) := by
  unfold tagS
  have h1 := Int.fmod_nonneg_of_pos n (show (0 : Int) < 3 by decide)
  have h2 := Int.fmod_lt_of_pos n (show (0 : Int) < 3 by decide)
  have e1 : ∃ c : Nat, (c = 97 ∨ c = 98 ∨ c = 99) ∧ Txt.item (Str.ofString "abc") (n.fmod 3) = ⟨#[c]⟩ := by
    have : n.fmod 3 = 0 ∨ n.fmod 3 = 1 ∨ n.fmod 3 = 2 := by omega
    rcases this with e | e | e <;> rw [e]
    · exact ⟨97, .inl rfl, by decide +kernel⟩
    · exact ⟨98, .inr (.inl rfl), by decide +kernel⟩
    · exact ⟨99, .inr (.inr rfl), by decide +kernel⟩
  obtain ⟨c, hc, e⟩ := e1
  rw [e]
  have mk1 : ∀ (y : Str), (y = ⟨#[]⟩ ∨ y = ⟨#[97]⟩ ∨ y = ⟨#[98]⟩) → TagX (⟨#[c]⟩ ++ y) := by
    rintro y (rfl | rfl | rfl)
    · exact ⟨⟨by show (#[c] ++ #[] : Array Nat).toList ≠ []; simp, by show (#[c] ++ #[] : Array Nat).size ≤ 2; simp, by
        show ∀ d ∈ (#[c] ++ #[] : Array Nat).toList, d ≠ 34
        simp; omega⟩, by rcases hc with rfl | rfl | rfl <;> decide +kernel⟩
    · exact ⟨⟨by show (#[c] ++ #[97] : Array Nat).toList ≠ []; simp, by show (#[c] ++ #[97] : Array Nat).size ≤ 2; simp, by
        show ∀ d ∈ (#[c] ++ #[97] : Array Nat).toList, d ≠ 34
        simp; omega⟩, by rcases hc with rfl | rfl | rfl <;> decide +kernel⟩
    · exact ⟨⟨by show (#[c] ++ #[98] : Array Nat).toList ≠ []; simp, by show (#[c] ++ #[98] : Array Nat).size ≤ 2; simp, by
        show ∀ d ∈ (#[c] ++ #[98] : Array Nat).toList, d ≠ 34
        simp; omega⟩, by rcases hc with rfl | rfl | rfl <;> decide +kernel⟩
  apply mk1
  split
  · exact .inl (by decide +kernel)
  · split
    · exact .inr (.inl (by decide +kernel))
    · exact .inr (.inr (by decide +kernel))
theorem tagS_ok (n : Int) : TagOk (tagS n) := (tagS_okx n).1
theorem par_space {c : Nat} {r : List Nat} {l : List (Bool × Str)} (hc : c = 32 ∨ c = 9) (h : ParL r l) : ParL (c :: r) l := by
  have w1 : ∀ ws : List Nat, WsL ws → WsL (c :: ws) := fun ws h d hd => by
    rcases List.mem_cons.mp hd with rfl | hd
    · exact hc
    · exact h d hd
  cases h with
  | done h => exact .done (w1 _ h)
  | skip h k => exact .skip (w1 _ h) k
  | tag b x h ok h2 k => exact .tag b x (w1 _ h) ok h2 k
  | last b x h ok h2 => exact .last b x (w1 _ h) ok h2
theorem par_comma {r : List Nat} {l : List (Bool × Str)} (h : ParL r l) : ParL (44 :: r) l := ParL.skip (ws := []) (fun c hc => nomatch hc) h
theorem par_q0 {r : List Nat} {l : List (Bool × Str)} {b : Bool} {x : Str} (ok : TagOk x) (h : ParL r l) : ParL (qt b x ++ (44 :: r)) ((b, x) :: l) := by
  have := ParL.tag (ws := []) (ws2 := []) b x (fun c hc => nomatch hc) ok (fun c hc => nomatch hc) h
  simpa using this
theorem par_q1 {r : List Nat} {l : List (Bool × Str)} {b : Bool} {x : Str} (ok : TagOk x) (h : ParL r l) : ParL (qt b x ++ (32 :: 44 :: r)) ((b, x) :: l) := by
  have := ParL.tag (ws := []) (ws2 := [32]) b x (fun c hc => nomatch hc) ok (fun c hc => by simp at hc; exact .inl hc) h
  simpa using this
def Lead (y : Str) : Prop := y = Str.ofString "" ∨ y = Str.ofString " " ∨ y = Str.ofString "\t," ∨ y = Str.ofString " , "
def Trail (y : Str) : Prop := y = Str.ofString "," ∨ y = Str.ofString " , "
theorem app_list (a b : Str) : (a ++ b).cps.toList = a.cps.toList ++ b.cps.toList := by
  show (a.cps ++ b.cps).toList = _
  simp
theorem par_piece {u v x : Str} {b : Bool} {r : List Nat} {l : List (Bool × Str)} (hu : Lead u) (hv : Trail v) (ok : TagOk x) (h : ParL r l) : ParL ((u ++ quoteS b x ++ v).cps.toList ++ r) ((b, x) :: l) := by
  have l1 : (Str.ofString "").cps.toList = [] := by decide +kernel
  have l2 : (Str.ofString " ").cps.toList = [32] := by decide +kernel
  have l3 : (Str.ofString "\t,").cps.toList = [9, 44] := by decide +kernel
  have l4 : (Str.ofString " , ").cps.toList = [32, 44, 32] := by decide +kernel
  have l5 : (Str.ofString ",").cps.toList = [44] := by decide +kernel
  rw [app_list, app_list, quoteS_cps]
  have core : ParL (qt b x ++ (v.cps.toList ++ r)) ((b, x) :: l) := by
    rcases hv with rfl | rfl
    · rw [l5]; exact par_q0 ok h
    · rw [l4]; exact par_q1 ok (par_space (.inl rfl) h)
  rw [List.append_assoc, List.append_assoc]
  rcases hu with rfl | rfl | rfl | rfl
  · rw [l1]; exact core
  · rw [l2]; exact par_space (.inl rfl) core
  · rw [l3]; exact par_space (.inr rfl) (par_comma core)
  · rw [l4]; exact par_space (.inl rfl) (par_comma (par_space (.inl rfl) core))
theorem lead_len {y : Str} (h : Lead y) : y.length ≤ 3 := by
  rcases h with rfl | rfl | rfl | rfl <;> decide +kernel
theorem trail_len {y : Str} (h : Trail y) : y.length ≤ 3 := by
  rcases h with rfl | rfl <;> decide +kernel

structure HInv (i : Nat) (x : Str) (l : List (Bool × Str)) (xs ys : Array Value) : Prop where
  hs : StrsAre xs.toList (sOf l)
  hw : StrsAre ys.toList (wOf l)
  ln : l.length ≤ i
  len : x.length ≤ 12 * i
  ok : ∀ y ∈ l, TagX y.2
  par : ∀ r l', ParL r l' → ParL (x.cps.toList ++ r) (l ++ l')
theorem HInv.zero : HInv 0 (Str.ofString "") [] #[] #[] := by
  refine ⟨.nil, .nil, Nat.le_refl _, by decide +kernel, (fun y hy => nomatch hy), fun r l' h => ?_⟩
  have : (Str.ofString "").cps.toList = [] := by decide +kernel
  rw [this]; exact h
theorem HInv.turn {i : Nat} {x u v y : Str} {b : Bool} {l : List (Bool × Str)} {xs ys xs' ys' : Array Value} (H : HInv i x l xs ys) (hu : Lead u) (hv : Trail v) (okx : TagX y) (h1 : StrsAre xs'.toList (sOf (l ++ [(b, y)]))) (h2 : StrsAre ys'.toList (wOf (l ++ [(b, y)]))) :
    HInv (i + 1) (x ++ (u ++ quoteS b y ++ v)) (l ++ [(b, y)]) xs' ys' := by
  have ok := okx.1
  refine ⟨h1, h2, by have := H.ln; simp; omega, ?_, ?_, ?_⟩
  · have e3 : ∀ a c : Str, (a ++ c).length = a.length + c.length := fun a c => by
      show (a.cps ++ c.cps).size = _
      rw [Array.size_append]; rfl
    have q := quote_len (b := b) ok.len
    have q1 := lead_len hu
    have q2 := trail_len hv
    have q3 := H.len
    rw [e3, e3, e3]
    omega
  · intro z hz
    rcases List.mem_append.mp hz with hz | hz
    · exact H.ok z hz
    · rw [List.mem_singleton.mp hz]; exact okx
  · intro r l' h
    rw [app_list, List.append_assoc, List.append_assoc]
    exact H.par _ _ (par_piece hu hv ok h)
theorem HInv.hdr {i : Nat} {x : Str} {t : Tok} {l : List (Bool × Str)} {xs ys : Array Value} (H : HInv i x l xs ys) (hi : i ≤ 4) : HdrOf (.str x t) l false := by
  refine .inr (.inr ⟨x, t, rfl, rfl, ?_, ?_, ?_⟩)
  · have := H.len; omega
  · have := H.ln; omega
  · have := H.par [] [] (.done fun c hc => nomatch hc)
    simpa using this
end Mine
end

section
open PySem PySem.W PySem.Calls PySem.Spec PyProof.Rows
set_option maxRecDepth 100000
set_option maxHeartbeats 8000000
namespace Mine
theorem int_K {s : Shared} {h₀ : Heap} {L : Addr} {m : Str → Option Value} {news : List (Addr × Obj)} {Q : Value → Shared → Prop} (F : Fr h₀ L s.heap m) (N : News h₀ L s.heap news)
    (h : ∀ h' tk dr r t', Fr h₀ L h' m → News h₀ L h' news → Ext s.heap h' → Q (.int r t') { s with heap := h', toks := tk, drawn := dr }) : Out s (fun _ v => ∃ r t', v = .int r t') Q := by
  rintro h' tk dr v k ⟨r, t', rfl⟩
  exact h h' tk dr r t' (Fr.ext F k) (News.ext N k) k
theorem str_K {s : Shared} {h₀ : Heap} {L : Addr} {m : Str → Option Value} {news : List (Addr × Obj)} {x : Str} {Q : Value → Shared → Prop} (F : Fr h₀ L s.heap m) (N : News h₀ L s.heap news)
    (h : ∀ h' tk dr t', Fr h₀ L h' m → News h₀ L h' news → Ext s.heap h' → Q (.str x t') { s with heap := h', toks := tk, drawn := dr }) : Out s (fun _ v => ∃ t', v = .str x t') Q := by
  rintro h' tk dr v k ⟨t', rfl⟩
  exact h h' tk dr t' (Fr.ext F k) (News.ext N k) k
theorem strq_K {s : Shared} {h₀ : Heap} {L : Addr} {m : Str → Option Value} {news : List (Addr × Obj)} {n : Int} {b : Bool} {Q : Value → Shared → Prop} (F : Fr h₀ L s.heap m) (N : News h₀ L s.heap news)
    (h : ∀ h' tk dr t', (quoteS b (tagS n)).length ≤ 6 → Fr h₀ L h' m → News h₀ L h' news → Ext s.heap h' → Q (.str (quoteS b (tagS n)) t') { s with heap := h', toks := tk, drawn := dr }) : Out s (fun _ v => ∃ t', v = .str (quoteS b (tagS n)) t') Q := by
  rintro h' tk dr v k ⟨t', rfl⟩
  exact h h' tk dr t' (quote_len (tagS_ok n).len) (Fr.ext F k) (News.ext N k) k
theorem kind_small (r : Int) : ∃ k : Nat, k ≤ 4 ∧ (r.fdiv 7).fmod 5 = (k : Int) := by
  have h1 := Int.fmod_nonneg_of_pos (r.fdiv 7) (show (0 : Int) < 5 by decide)
  have h2 := Int.fmod_lt_of_pos (r.fdiv 7) (show (0 : Int) < 5 by decide)
  exact ⟨((r.fdiv 7).fmod 5).toNat, by omega, by omega⟩
theorem range_K {prog : Program} {w : World} {A : Around} {E : Value → Shared → Prop} {s : Shared} {h₀ : Heap} {L : Addr} {m : Str → Option Value} {news : List (Addr × Obj)} {n : Int} {t : Tok} {Q : Value → Shared → Prop} (F : Fr h₀ L s.heap m) (N : News h₀ L s.heap news) (hn : ∃ k : Nat, k ≤ 4 ∧ n = (k : Int))
    (h : ∀ (k : Nat) r h' t0 t1, k ≤ 4 → Fr h₀ L h' m → News h₀ L h' news → IsRange h' r 0 (k : Int) 1 t0 t t1 → Q (.ref r) { s with heap := h', toks := s.toks + 1 + 1 }) : wpAny (model prog w) A (call (.type "range") [.int n t]) Q E s := by
  obtain ⟨k, hk, rfl⟩ := hn
  exact call_range_1 (h k _ _ _ _ hk (F.push _) (fun p hp => ⟨Heap.get?_push_of_some _ (N p hp).1, (N p hp).2⟩) (IsRange.new _ _ _ _ _ _ _))
abbrev hSto : List Str := [Str.ofString "k", Str.ofString "number"]
def HJ (S W : Addr) (m₀ : Str → Option Value) (i : Nat) (m : Str → Option Value) (news : List (Addr × Obj)) : Prop :=
  ∃ (u : Str → Option Value) (xs ys : Array Value) (a b : Nat) (x : Str) (tx : Tok) (l : List (Bool × Str)), m = kstB (fun z => if hSto.contains z then u z else m₀ z) [(Str.ofString "text", .str x tx)] ∧ news = [(W, listOf ys b), (S, listOf xs a)] ∧ HInv i x l xs ys
theorem kst_self {m₀ m' : Str → Option Value} {v : Value} (ht : m' (Str.ofString "text") = some v) (hr : ∀ z, z ≠ Str.ofString "text" → hSto.contains z = false → m' z = m₀ z) : m' = kstB (fun z => if hSto.contains z then m' z else m₀ z) [(Str.ofString "text", v)] := by
  funext z
  unfold kstB
  by_cases h : z = Str.ofString "text"
  · rw [if_pos h, h, ht]
  · rw [if_neg h]
    show m' z = (if hSto.contains z = true then m' z else m₀ z)
    cases h3 : hSto.contains z with
    | true => simp
    | false => simp only [Bool.false_eq_true, if_false]; exact hr z h h3
theorem hturn {h₀ h' : Heap} {L : Addr} {s : Shared} {I S W : Addr} {oI : Obj} {m₀ m' : Str → Option Value} {i : Nat} {tk : Nat} {dr : Drawn} {news' : List (Addr × Obj)} {xs ys : Array Value} {a b : Nat} {x : Str} {tx : Tok} {l : List (Bool × Str)}
    (F : Fr h₀ L h' m') (N : News h₀ L h' news') (mI : (I, oI) ∈ news') (mW : (W, listOf ys b) ∈ news') (mS : (S, listOf xs a) ∈ news') (nW : @Ne Nat W I) (nS : @Ne Nat S I) (ht : m' (Str.ofString "text") = some (.str x tx)) (hr : ∀ z, z ≠ Str.ofString "text" → hSto.contains z = false → m' z = m₀ z) (H : HInv (i + 1) x l xs ys) :
    TurnEnd h₀ L s I oI (HJ S W m₀ (i + 1)) .next { s with heap := h', toks := tk, drawn := dr } := by
  refine ⟨.inl rfl, h', tk, dr, m', [(W, listOf ys b), (S, listOf xs a)], rfl, F, fun p hp => ?_, fun p hp => ?_, m', xs, ys, a, b, x, tx, l, kst_self ht hr, rfl, H⟩
  · rcases List.mem_cons.mp hp with rfl | hp
    · exact N _ mI
    rcases List.mem_cons.mp hp with rfl | hp
    · exact N _ mW
    rw [List.mem_singleton.mp hp]; exact N _ mS
  · rcases List.mem_cons.mp hp with rfl | hp
    · exact nW
    rw [List.mem_singleton.mp hp]; exact nS
theorem HInv.sizes {i : Nat} {x : Str} {l : List (Bool × Str)} {xs ys : Array Value} (H : HInv i x l xs ys) (hi : i ≤ 4) : xs.size ≤ sizeLine ∧ ys.size ≤ sizeLine ∧ (sOf l).length ≤ 4 ∧ (wOf l).length ≤ 4 ∧ x.length ≤ 48 := by
  have h1 := StrsAre.len_eq H.hs
  have h2 := StrsAre.len_eq H.hw
  have h3 := List.length_filter_le (fun y : Bool × Str => !y.1) l
  have h4 := List.length_filter_le (fun y : Bool × Str => y.1) l
  have h5 := H.ln
  have h6 := H.len
  simp only [Array.length_toList, List.length_map] at h1 h2
  rw [sizeLine_eq]
  simp only [List.length_map]
  omega
theorem header_loop {prog : Program} {w : World} {A : Around} {E : Value → Shared → Prop} {s : Shared} {h₀ : Heap} {env : Env} {m : Str → Option Value} {r S W : Addr} {n a b : Nat} {t u v t0 : Tok} {px : Pos} {body : List Stmt} {Q : Flow → Shared → Prop} (hh : A.handled = none) (hr : IsRange s.heap r 0 n 1 t u v) (hn : n ≤ 4) (hx : env.kindOf (Str.ofString "k") = some .local)
    (hp : (env.scope.kind == .class || (env.scope.kind == .module && env.locals != env.globals)) = false)
    (F : Fr h₀ env.locals s.heap m) (N : News h₀ env.locals s.heap [(W, listOf #[] b), (S, listOf #[] a)]) (ht : m (Str.ofString "text") = some (.str (Str.ofString "") t0)) (hS : m (Str.ofString "strong") = some (.ref S)) (hW : m (Str.ofString "weak") = some (.ref W))
    (step : ∀ (i : Nat) (u : Str → Option Value) (xs ys : Array Value) (a b : Nat) (x : Str) (tx : Tok) (l : List (Bool × Str)) (h : Heap) (tk : Nat) (dr : Drawn) (I : Addr) (oI : Obj) (t : Tok), i < n → HInv i x l xs ys → @Ne Nat W I → @Ne Nat S I → Fr h₀ env.locals h (fun y => if y = Str.ofString "k" then some (.int i t) else kstB (fun z => if hSto.contains z then u z else m z) [(Str.ofString "text", .str x tx)] y) → News h₀ env.locals h [(I, oI), (W, listOf ys b), (S, listOf xs a)] →
      wpAny (model prog w) A (execs body env) (TurnEnd h₀ env.locals s I oI (HJ S W m (i + 1))) E { s with heap := h, toks := tk, drawn := dr })
    (done : ∀ (h' : Heap) (tk : Nat) (dr : Drawn) (u : Str → Option Value) (xs ys : Array Value) (a b : Nat) (x : Str) (tx : Tok) (l : List (Bool × Str)), Fr h₀ env.locals h' (kstB (fun z => if hSto.contains z then u z else m z) [(Str.ofString "text", .str x tx)]) → News h₀ env.locals h' [(W, listOf ys b), (S, listOf xs a)] → HInv n x l xs ys → Q .next { s with heap := h', toks := tk, drawn := dr })
    (hE : PassesOwn (model prog w) A env E) :
    wpAny (model prog w) A (pyIter (.ref r)) (fun it s₂ => codeAny (model prog w) A (.forLoop (.Name (Str.ofString "k") px) it body [] env) (fun r s' => match r with | .ok f => Q f s' | .error e => cameBackBy (model prog w) A env E e s') s₂) E s := by
  refine iter_range_J hh hr hn hx hp F N (HJ S W m) ⟨m, _, _, _, _, _, _, [], kst_self ht fun _ _ _ => rfl, rfl, HInv.zero⟩ ?_ ?_ hE
  · rintro i m₁ news₁ h tk dr I oI t' hlt ⟨u', xs, ys, a', b', x, tx, l, rfl, rfl, H⟩ hoff F₁ N₁
    exact step i u' xs ys a' b' x tx l h tk dr I oI t' hlt H (hoff _ (.head _)) (hoff _ (.tail _ (.head _))) F₁ N₁
  · rintro h' tk dr m' news' F' N' ⟨u', xs, ys, a', b', x, tx, l, rfl, rfl, H⟩
    exact done h' tk dr u' xs ys a' b' x tx l F' N' H
section
variable {prog : Program} {w : World} {A : Around} {E : Value → Shared → Prop} {s : Shared} {h₀ : Heap} {L : Addr} {news : List (Addr × Obj)}
theorem menu_K {value slice : Expr} {D : Addr} {l : List Value} {n : Nat} {k : Int} {u : Tok} {Q : Value → Shared → Prop} (P : Value → Prop) (N : News h₀ L s.heap news) (hm : (D, listOf l.toArray n) ∈ news) (h0 : 0 ≤ k) (h1 : k < l.length) (h2 : l.length ≤ 100) (hP : ∀ v ∈ l, P v) (h : ∀ v, P v → Q v s)
    (hs : subscripted slice false (.ref D) (.int k u) = operate [.ref D, .int k u] (getItem (.ref D) (.int k u))) :
    wpAny (model prog w) A (subscriptTail value slice (.ref D) (.int k u)) Q E s := by
  have hL : s.heap.IsList D l.toArray := news_list N hm
  have hk : k.toNat < l.length := by omega
  exact tail_any hL.typeIs slot_list_getitem.lookup (wpAny_getItem_list hL h0 (by omega) (by simpa using List.getElem?_eq_getElem hk) (h _ (hP _ (List.getElem_mem hk)))) hs
theorem lead_K {value slice : Expr} {D : Addr} {n : Nat} {k : Int} {u t1 t2 t3 t4 : Tok} {Q : Value → Shared → Prop} (N : News h₀ L s.heap news) (hm : (D, listOf #[.str (Str.ofString "") t1, .str (Str.ofString " ") t2, .str (Str.ofString "\t,") t3, .str (Str.ofString " , ") t4] n) ∈ news) (h0 : 0 ≤ k) (h1 : k < 4) (h : ∀ y t, Lead y → Q (.str y t) s)
    (hs : subscripted slice false (.ref D) (.int k u) = operate [.ref D, .int k u] (getItem (.ref D) (.int k u)) := by with_unfolding_all rfl) :
    wpAny (model prog w) A (subscriptTail value slice (.ref D) (.int k u)) Q E s :=
  menu_K (fun v => ∃ y t, v = .str y t ∧ Lead y) N hm h0 h1 (by simp) (fun v hv => by
    simp only [List.mem_cons, List.not_mem_nil, or_false] at hv
    rcases hv with rfl | rfl | rfl | rfl
    · exact ⟨_, _, rfl, .inl rfl⟩
    · exact ⟨_, _, rfl, .inr (.inl rfl)⟩
    · exact ⟨_, _, rfl, .inr (.inr (.inl rfl))⟩
    · exact ⟨_, _, rfl, .inr (.inr (.inr rfl))⟩) (fun v hv => by obtain ⟨y, t, rfl, hy⟩ := hv; exact h y t hy) hs
theorem trail_K {value slice : Expr} {D : Addr} {n : Nat} {k : Int} {u t1 t2 : Tok} {Q : Value → Shared → Prop} (N : News h₀ L s.heap news) (hm : (D, listOf #[.str (Str.ofString ",") t1, .str (Str.ofString " , ") t2] n) ∈ news) (h0 : 0 ≤ k) (h1 : k < 2) (h : ∀ y t, Trail y → Q (.str y t) s)
    (hs : subscripted slice false (.ref D) (.int k u) = operate [.ref D, .int k u] (getItem (.ref D) (.int k u)) := by with_unfolding_all rfl) :
    wpAny (model prog w) A (subscriptTail value slice (.ref D) (.int k u)) Q E s :=
  menu_K (fun v => ∃ y t, v = .str y t ∧ Trail y) N hm h0 h1 (by simp) (fun v hv => by
    simp only [List.mem_cons, List.not_mem_nil, or_false] at hv
    rcases hv with rfl | rfl
    · exact ⟨_, _, rfl, .inl rfl⟩
    · exact ⟨_, _, rfl, .inr rfl⟩) (fun v hv => by obtain ⟨y, t, rfl, hy⟩ := hv; exact h y t hy) hs
theorem ints_K {value slice : Expr} {D : Addr} {n : Nat} {k a b c d : Int} {u t1 t2 t3 t4 : Tok} {Q : Value → Shared → Prop} (N : News h₀ L s.heap news) (hm : (D, listOf #[.int a t1, .int b t2, .int c t3, .int d t4] n) ∈ news) (h0 : 0 ≤ k) (h1 : k < 4) (h : ∀ y t, Q (.int y t) s)
    (hs : subscripted slice false (.ref D) (.int k u) = operate [.ref D, .int k u] (getItem (.ref D) (.int k u)) := by with_unfolding_all rfl) :
    wpAny (model prog w) A (subscriptTail value slice (.ref D) (.int k u)) Q E s :=
  menu_K (fun v => ∃ y t, v = .int y t) N hm h0 h1 (by simp) (fun v hv => by
    simp only [List.mem_cons, List.not_mem_nil, or_false] at hv
    rcases hv with rfl | rfl | rfl | rfl <;> exact ⟨_, _, rfl⟩) (fun v hv => by obtain ⟨y, t, rfl⟩ := hv; exact h y t) hs
theorem ints2_K {value slice : Expr} {D : Addr} {n : Nat} {k a b : Int} {u t1 t2 : Tok} {Q : Value → Shared → Prop} (N : News h₀ L s.heap news) (hm : (D, listOf #[.int a t1, .int b t2] n) ∈ news) (h0 : 0 ≤ k) (h1 : k < 2) (h : ∀ y t, Q (.int y t) s)
    (hs : subscripted slice false (.ref D) (.int k u) = operate [.ref D, .int k u] (getItem (.ref D) (.int k u)) := by with_unfolding_all rfl) :
    wpAny (model prog w) A (subscriptTail value slice (.ref D) (.int k u)) Q E s :=
  menu_K (fun v => ∃ y t, v = .int y t) N hm h0 h1 (by simp) (fun v hv => by
    simp only [List.mem_cons, List.not_mem_nil, or_false] at hv
    rcases hv with rfl | rfl <;> exact ⟨_, _, rfl⟩) (fun v hv => by obtain ⟨y, t, rfl⟩ := hv; exact h y t) hs
theorem len_app (a c : Str) : (a ++ c).length = a.length + c.length := by
  show (a.cps ++ c.cps).size = _
  rw [Array.size_append]; rfl
theorem add_K {x y : Str} {t u : Tok} {Q : Value → Shared → Prop} (hx : x.length ≤ 100) (hy : y.length ≤ 100) (h : ∀ t' k, (x ++ y).length = x.length + y.length → Q (.str (x ++ y) t') { s with toks := k }) : wpAny (model prog w) A (binaryOp .Add (.str x t) (.str y u)) Q E s :=
  SB.add (fun t' k => h t' k (len_app x y)) (by rw [sizeLine_eq]; omega)
theorem iadd_K {x y : Str} {t u : Tok} {Q : Value → Shared → Prop} (hx : x.length ≤ 100) (hy : y.length ≤ 100) (h : ∀ t' k, (x ++ y).length = x.length + y.length → Q (.str (x ++ y) t') { s with toks := k }) : wpAny (model prog w) A (inplaceOp .Add (.str x t) (.str y u)) Q E s :=
  SB.iadd (fun t' k => h t' k (len_app x y)) (by rw [sizeLine_eq]; omega)
end
theorem HInv.strong {i : Nat} {x u v y : Str} {b : Bool} {l : List (Bool × Str)} {xs ys : Array Value} {t : Tok} (H : HInv i x l xs ys) (hu : Lead u) (hv : Trail v) (ok : TagX y) (hb : b = false) : HInv (i + 1) (x ++ (u ++ quoteS b y ++ v)) (l ++ [(b, y)]) (xs.push (.str y t)) ys := by
  subst hb
  refine HInv.turn H hu hv ok ?_ ?_
  · have := strs_snoc (y := y) (t := t) H.hs
    simpa [sOf] using this
  · have := H.hw
    simpa [wOf] using this
theorem HInv.weak {i : Nat} {x u v y : Str} {b : Bool} {l : List (Bool × Str)} {xs ys : Array Value} {t : Tok} (H : HInv i x l xs ys) (hu : Lead u) (hv : Trail v) (ok : TagX y) (hb : b = true) : HInv (i + 1) (x ++ (u ++ quoteS b y ++ v)) (l ++ [(b, y)]) xs (ys.push (.str y t)) := by
  subst hb
  refine HInv.turn H hu hv ok ?_ ?_
  · have := H.hs
    simpa [sOf] using this
  · have := strs_snoc (y := y) (t := t) H.hw
    simpa [wOf] using this
theorem hsto_ne {z : Str} (h : hSto.contains z = false) : z ≠ Str.ofString "k" ∧ z ≠ Str.ofString "number" := by
  simpa [hSto] using h
abbrev tupO (xs : Array Value) (n : Nat) : Obj := { cls := .type "tuple", data := .seq xs n }
/-- what `_law_header` gives -/
def HPost (place : Int) (h0 : Heap) (h' : Heap) (v : Value) : Prop :=
  ∃ a ls lw hv xs ys i j n l star, v = .ref a ∧ Owns h0 h' [(a, tupO #[hv, .ref ls, .ref lw, .bool star] n), (ls, listOf xs i), (lw, listOf ys j)] ∧ StrsAre xs.toList (sOf l) ∧ StrsAre ys.toList (wOf l) ∧ HdrOf hv l star ∧ l.length ≤ 4 ∧ (∀ y ∈ l, TagX y.2) ∧ (star = true → place = 0)
theorem HPost.mk {place : Int} {h0 h' : Heap} {L : Addr} {news : List (Addr × Obj)} {a ls lw : Addr} {hv : Value} {xs ys : Array Value} {i j n : Nat} {l : List (Bool × Str)} {star : Bool} (N : News h0 L h' news) (m1 : (a, tupO #[hv, .ref ls, .ref lw, .bool star] n) ∈ news) (m2 : (ls, listOf xs i) ∈ news) (m3 : (lw, listOf ys j) ∈ news)
    (hs : StrsAre xs.toList (sOf l)) (hw : StrsAre ys.toList (wOf l)) (H : HdrOf hv l star) (h4 : l.length ≤ 4) (ok : ∀ y ∈ l, TagX y.2) (hst : star = true → place = 0) : HPost place h0 h' (.ref a) := by
  refine ⟨a, ls, lw, hv, xs, ys, i, j, n, l, star, rfl, fun p hp => ?_, hs, hw, H, h4, ok, hst⟩
  have key : ∀ {q : Addr × Obj}, q ∈ news → h'.get? q.1 = some q.2 ∧ h0.get? q.1 = none := fun hq => ⟨(N _ hq).1, (N _ hq).2.2⟩
  rcases List.mem_cons.mp hp with rfl | hp
  · exact key m1
  rcases List.mem_cons.mp hp with rfl | hp
  · exact key m2
  rw [List.mem_singleton.mp hp]; exact key m3
end Mine
end

section
open PySem PySem.W PySem.Calls PySem.Spec PyProof.Rows
set_option maxRecDepth 100000
set_option maxHeartbeats 8000000
namespace Mine
local macro_rules | `(tactic| k_enter) => `(tactic| (refine' enter ?k1 ?k2 ?k6 ?k7 ?k8 ?k9 ?kB ?_ ?c2 ?c3 ?c4 ?c5; (case k1 => assumption); (case k2 => assumption); (case k6 => k_is); (case k7 => k_is); (case k8 => (have := (by assumption : Room _).hd; omega)); (case k9 => first | exact BindsTo.of_eq rfl | exact binds_K (by k_in) rfl (by k_is) rfl rfl rfl | fail "k_enter: no rule for these arguments"); (case c5 => decide); (case kB => exact locs rfl); (case c2 => exact rfl); (case c3 => exact rfl); (case c4 => exact rfl); k_whole; intro L' h' F' N'; (try dsimp only); (try k_fold)))
local macro_rules | `(tactic| walk_at "m:X") => `(tactic| exact Frag.In.keeps (by assumption) (Fr.keep (by assumption)))
local macro_rules | `(tactic| walk_at "m:T") => `(tactic| exact Top.keeps (by assumption) (Fr.keep (by assumption)))
local macro_rules | `(tactic| walk_at "m:R1") => `(tactic| exact Room1.deeper (by assumption))
local macro_rules | `(tactic| walk_at "call ref") => `(tactic| (k_here; k_dflt (first
  | (refine' law_at_spec ?k1 ?k2 ?k3 ?k4 ?k7 ?k8 ?k9 (int_K ?kF ?kN ?_); (case k1 => exact Fr.lst (by assumption) (by assumption)); (case k2 => assumption); (case k3 => assumption); (case k4 => omega); (case k7 => walk_at "m:R1"); (case k8 => walk_at "m:X"); (case k9 => walk_at "m:T"); (case kF => k_asm); (case kN => k_asm); k_whole; intro h' tk' dr' r' t' F' N' k'; (try k_sweep))
  | (refine' law_tag_spec ?k7 ?k8 ?k9 (str_K ?kF ?kN ?_); (case k7 => walk_at "m:R1"); (case k8 => walk_at "m:X"); (case k9 => walk_at "m:T"); (case kF => k_asm); (case kN => k_asm); k_whole; intro h' tk' dr' t' F' N' k'; (try k_sweep))
  | (refine' quote_spec ?k6 ?k7 ?k8 ?k9 (strq_K ?kF ?kN ?_); (case k6 => exact tagS_ok _); (case k7 => walk_at "m:R1"); (case k8 => walk_at "m:X"); (case k9 => walk_at "m:T"); (case kF => k_asm); (case kN => k_asm); k_whole; intro h' tk' dr' t' hql' F' N' k'; (try k_sweep)))))
local macro_rules | `(tactic| walk_at "call type:range") => `(tactic| (k_here; k_dflt (refine' range_K ?k1 ?k2 ?k3 ?_; (case k1 => k_asm); (case k2 => k_asm); (case k3 => exact kind_small _); k_whole; intro n' r' h' t0' t1' hn' F' N' R'; (try k_sweep))))
local macro_rules | `(tactic| walk_at "unpackItems") => `(tactic| (k_here; (with_reducible show wpAny _ _ (unpackItems (Value.ref _) _ _) _ _ _); k_dflt (refine' unpackItemsN_ ?k1 ?k2 ?k3 ?k4 ?k5 ?_; (case k1 => k_asm); (case k2 => k_asm); (case k3 => exact tup_news (by k_asm) (by k_mem)); (case k4 => (have q := (by assumption : Room _).hh; exact q)); (case k5 => exact rfl); k_whole); intro h' F' N'; (try k_sweep)))
theorem and_join {M : Model} {A : Around} {E : Value → Shared → Prop} {c : Sem Bool} {s : Shared} {Q : Bool → Shared → Prop} (P : Prop) (h1 : wpAny M A c (fun b s' => (b = true → P) ∧ ∃ tk, s' = { s with toks := tk }) E s) (h2 : ∀ b tk, (b = true → P) → Q b { s with toks := tk }) : wpAny M A c Q E s :=
  wpAny_mono h1 (fun b s' h => by obtain ⟨hp, tk, rfl⟩ := h; exact h2 b tk hp) fun _ _ e => e
local macro_rules | `(tactic| walk_at "isTrue BoolOp") => `(tactic| first | with_reducible refine isTrue_and_nil ?_ | (k_here; (with_reducible show wpAny _ _ (isTrue (Expr.BoolOp _ _ _) _ _) _ _ _); refine Hold.mk ?_))
local macro_rules | `(tactic| walk_at "exec For Name Call cons nil") => `(tactic| (k_here; (with_reducible show wpAny _ _ (exec (Stmt.For _ _ _ _ _) _) _ _ _); refine Hold.mk ?_))
local macro_rules | `(tactic| walk_at "m:lo") => `(tactic| first | omega | exact Int.fmod_nonneg_of_pos _ (by decide))
local macro_rules | `(tactic| walk_at "m:hi") => `(tactic| first | omega | exact Int.fmod_lt_of_pos _ (by decide))
theorem place_lo {n : Int} (h : n = 0 ∨ n = 6) : 0 ≤ n.fdiv 6 := by rcases h with rfl | rfl <;> decide
theorem place_hi {n : Int} (h : n = 0 ∨ n = 6) : n.fdiv 6 < 2 := by rcases h with rfl | rfl <;> decide
local macro_rules | `(tactic| walk_at "m:lo2") => `(tactic| exact place_lo (by assumption))
local macro_rules | `(tactic| walk_at "m:hi2") => `(tactic| exact place_hi (by assumption))
local macro_rules | `(tactic| walk_at "subscriptTail") => `(tactic| (k_here; (with_reducible show wpAny _ _ (subscriptTail _ _ (Value.ref _) (Value.int _ _)) _ _ _); k_dflt (first
  | (refine' lead_K ?k1 ?k2 ?k3 ?k4 ?_; (case k1 => k_asm); (case k2 => k_mem); (case k3 => walk_at "m:lo"); (case k4 => walk_at "m:hi"); k_whole; intro y' t' hu'; (have hul' := lead_len hu'))
  | (refine' trail_K ?k1 ?k2 ?k3 ?k4 ?_; (case k1 => k_asm); (case k2 => k_mem); (case k3 => walk_at "m:lo"); (case k4 => walk_at "m:hi"); k_whole; intro y' t' hv'; (have hvl' := trail_len hv'))
  | (refine' ints2_K ?k1 ?k2 ?k3 ?k4 ?_; (case k1 => k_asm); (case k2 => k_mem); (case k3 => walk_at "m:lo2"); (case k4 => walk_at "m:hi2"); k_whole; intro y' t')
  | (refine' ints_K ?k1 ?k2 ?k3 ?k4 ?_; (case k1 => k_asm); (case k2 => k_mem); (case k3 => walk_at "m:lo"); (case k4 => walk_at "m:hi"); k_whole; intro y' t'))))
local macro_rules | `(tactic| walk_at "m:len") => `(tactic| first | omega | exact Nat.le_trans (quote_len (tagS_ok _).len) (by decide))
local macro_rules | `(tactic| walk_at "binaryOp Add str str") => `(tactic| (k_here; (with_reducible show wpAny _ _ (binaryOp Operator.Add (Value.str _ _) (Value.str _ _)) _ _ _); k_dflt (refine' add_K ?k1 ?k2 ?_; (case k1 => walk_at "m:len"); (case k2 => walk_at "m:len"); k_whole; intro t' tk' hz')))
local macro_rules | `(tactic| walk_at "inplaceOp Add str str") => `(tactic| (k_here; (with_reducible show wpAny _ _ (inplaceOp Operator.Add (Value.str _ _) (Value.str _ _)) _ _ _); k_dflt (refine' iadd_K ?k1 ?k2 ?_; (case k1 => walk_at "m:len"); (case k2 => walk_at "m:len"); k_whole; intro t' tk' hz')))
local macro_rules | `(tactic| walk_at "m:sub") => `(tactic| ((repeat (refine' List.forall_mem_cons.mpr ⟨?_, ?_⟩; rotate_left; (try exact List.forall_mem_nil _))); all_goals k_mem))
local macro_rules | `(tactic| walk_at "m:loop") => `(tactic| (refine' header_loop ?z1 ?z2 ?z3 ?z4 ?z5 ?z6 ?z7 ?z8 ?zS ?zW ?_ ?_ ?z9; (case z1 => (have q := (by assumption : Room _).hh; exact q)); (case z2 => assumption); (case z3 => assumption); (case z4 => rfl); (case z5 => rfl); (case z6 => k_asm); (case z8 => rfl); (case zS => rfl); (case zW => rfl); (case z9 => passes_own); (case z7 => (refine' News.sub ?zN ?zs; (case zN => k_asm); (case zs => walk_at "m:sub")))))
local macro_rules | `(tactic| walk_at "m:turn") => `(tactic| (refine' hturn ?hF ?hN ?m1 ?m2 ?m3 ?n1 ?n2 ?ht ?hr ?hH; (case hF => assumption); (case hN => assumption); (case m1 => k_mem); (case m2 => k_mem); (case m3 => k_mem); (case n1 => assumption); (case n2 => assumption); (case ht => rfl); (case hr => (intro z h2 h3; obtain ⟨n1, n2⟩ := hsto_ne h3; simp [kstB, h2, n1, n2])); (case hH => first
  | (refine' HInv.weak ?g1 ?g2 ?g3 ?g4 ?g5; (case g1 => assumption); (case g2 => assumption); (case g3 => assumption); (case g4 => exact tagS_okx _); (case g5 => (rw [beq_iff_eq]; assumption)))
  | (refine' HInv.strong ?g1 ?g2 ?g3 ?g4 ?g5; (case g1 => assumption); (case g2 => assumption); (case g3 => assumption); (case g4 => exact tagS_okx _); (case g5 => (rw [beq_eq_false_iff_ne]; assumption))))))
local macro_rules | `(tactic| walk_at "m:post") => `(tactic| (refine' HPost.mk ?hN ?m1 ?m2 ?m3 ?hs ?hw ?hH ?h4 ?ok ?st; (case hN => assumption); (case m1 => k_mem); (case m2 => k_mem); (case m3 => k_mem)))
section
variable {p : Program} {loose : List Str} {w : World} {A : Around} {s : Shared} {mean : ExcName → Option Value} {mg mb : Str → Option Value} {Q E : Value → Shared → Prop} {h₀ : Heap}
theorem header_spec {a : Addr} {vs : List Value} {ns : List Int} {place : Int} {t : Tok} (hl : s.heap.IsList a vs.toArray) (hi : IntsAre vs ns) (hlen : ns.length ≤ 1048576) (hpl : place = 0 ∨ place = 6) (RM : Room A) (X : (hd.heap_39 w.params).In s.heap) (T : Top p loose mean mg mb s.heap)
   (h : Out s (HPost place s.heap) Q) :
   wpAny (model PySem.Challenge.rw_ez0425_01.row.prog w) A (call (.ref 250) [.ref a, .int place t]) Q E s := by
  revert X T
  k_fill
  intro X T
  refine wpAny_call ?_
  k_dflt k_enter
  k_steps
  · refine' Out.done h (Fr.keep (by assumption)) ?wp0 rfl rfl
    case wp0 =>
      walk_at "m:post"
      case hH => exact HdrOf.nil
      case hs => exact .nil
      case hw => exact .nil
      case h4 => exact Nat.zero_le _
      case ok => exact fun y hy => nomatch hy
      case st => exact fun e => nomatch e
  · refine Hold.of ?_
    refine and_join (place = 0) ?_ ?_
    · refine isTrue_and ?_
      k_steps
      · refine Hold.of (isTrue_and ?_)
        k_steps
        all_goals first | assumption | contradiction | omega
      all_goals contradiction
    · intro b tk hb
      cases b
      · k_steps
        refine Hold.of ?_
        refine wpAny_For ?_ (by intro _; rfl)
        k_steps
        walk_at "m:loop"
        · intro i u xs ys a' b' x tx l hp tk dr I oI t' hlt H nW nS F N
          obtain ⟨z1, z2, z3, z4, z5⟩ := H.sizes (by omega)
          have hs := H.hs
          have hw := H.hw
          try k_fold
          k_sweep
          k_steps
          all_goals walk_at "m:turn"
        · intro hp tk dr u xs ys a' b' x tx l F N H
          k_steps
          refine' Out.done h (Fr.keep (by assumption)) ?wq rfl rfl
          case wq =>
            walk_at "m:post"
            case hH => exact H.hdr (by assumption)
            case hs => exact H.hs
            case hw => exact H.hw
            case h4 => exact Nat.le_trans H.ln (by assumption)
            case ok => exact H.ok
            case st => exact fun e => nomatch e
      · k_steps
        refine' Out.done h (Fr.keep (by assumption)) ?wp rfl rfl
        case wp =>
          walk_at "m:post"
          case hH => exact .inr (.inl ⟨_, rfl, rfl, rfl⟩)
          case hs => exact .nil
          case hw => exact .nil
          case h4 => exact Nat.zero_le _
          case ok => exact fun y hy => nomatch hy
          case st => exact hb
end
end Mine
end

section
open PySem PySem.W PySem.Calls PySem.Spec PyProof.Rows
set_option maxRecDepth 100000
set_option maxHeartbeats 8000000
namespace Mine
theorem strs_carried : ∀ {vs : List Value} {ss : List Str}, StrsAre vs ss → CarriedAll vs (ss.map PyData.str)
  | _, _, .nil => .nil
  | _, _, .cons _ t r => .cons (.str _ t) (strs_carried r)
theorem strs_lay : ∀ {ss : List Str}, (∀ y ∈ ss, PyData.strOk y = true) → PyData.canLayAll0 (ss.map PyData.str) = true
  | [], _ => rfl
  | x :: r, h => by simp [PyData.canLayAll0, PyData.canLay0, strs_lay fun y hy => h y (.tail _ hy), h x (.head _)]
theorem strs_depth : ∀ (ss : List Str), PyData.depthAll (ss.map PyData.str) = 0
  | [] => rfl
  | _ :: r => by simp [PyData.depthAll, PyData.depth, strs_depth r]
theorem strs_shaped {ss : List Str} (h : ∀ y ∈ ss, PyData.strOk y = true) : SeqAt.shaped (.list (ss.map PyData.str)) = true := by
  simp [SeqAt.shaped, PyData.canLay0, PyData.depth, strs_lay h, strs_depth]
theorem strs_eqvAll : ∀ ns ms : List Str, PyData.eqvAll (ns.map PyData.str) (ms.map PyData.str) = decide (ns = ms)
  | [], [] => by simp [PyData.eqvAll]
  | [], _ :: _ => by simp [PyData.eqvAll]
  | _ :: _, [] => by simp [PyData.eqvAll]
  | a :: r, b :: t => by
    simp only [List.map_cons, PyData.eqvAll, PyData.eqv, strs_eqvAll r t]
    by_cases h : a = b <;> by_cases h' : r = t <;> simp [h, h']
section
variable {prog : Program} {w : World} {A : Around} {E : Value → Shared → Prop} {s : Shared} {a b : Addr} {xs ys : List Value} {ns ms : List Str} {Q : Value → Shared → Prop}
theorem eq_strs (ha : s.heap.IsList a xs.toArray) (hb : s.heap.IsList b ys.toArray) (hi : StrsAre xs ns) (hj : StrsAre ys ms) (h1 : ∀ y ∈ ns, PyData.strOk y = true) (h2 : ∀ y ∈ ms, PyData.strOk y = true) (hu : A.units + 64 < cLine) (h : Q (.bool (decide (ns = ms))) s) :
    wpAny (model prog w) A (compareOp .Eq (.ref a) (.ref b)) Q E s :=
  eq_dataH (reads_newData ha (strs_carried hi)) (reads_newData hb (strs_carried hj)) (strs_shaped h1) (strs_shaped h2) hu (by simp only [PyData.eqv, strs_eqvAll]; exact h)
theorem ne_strs (ha : s.heap.IsList a xs.toArray) (hb : s.heap.IsList b ys.toArray) (hi : StrsAre xs ns) (hj : StrsAre ys ms) (h1 : ∀ y ∈ ns, PyData.strOk y = true) (h2 : ∀ y ∈ ms, PyData.strOk y = true) (hu : A.units + 64 < cLine) (h : Q (.bool (!decide (ns = ms))) s) :
    wpAny (model prog w) A (compareOp .NotEq (.ref a) (.ref b)) Q E s :=
  ne_dataH (reads_newData ha (strs_carried hi)) (reads_newData hb (strs_carried hj)) (strs_shaped h1) (strs_shaped h2) hu (by simp only [PyData.eqv, strs_eqvAll]; exact h)
end
end Mine
end

section
open PySem PySem.W PySem.Calls PySem.Spec PyProof.Rows
set_option maxRecDepth 100000
set_option maxHeartbeats 8000000
namespace Mine
abbrev qtx (y : Bool × Str) : Str := quoteS y.1 y.2
theorem par_joined : ∀ (q : List (Bool × Str)), (∀ y ∈ q, TagOk y.2) → ParL (Str.join (Str.ofString ", ") (q.map qtx)).cps.toList q ∧ (Str.join (Str.ofString ", ") (q.map qtx)).length ≤ 8 * q.length
  | [], _ => by
    have e : (Str.join (Str.ofString ", ") ([].map qtx)).cps.toList = [] := by decide +kernel
    refine ⟨by rw [e]; exact .done (fun c hc => nomatch hc), by decide +kernel⟩
  | [z], h => by
    have e : Str.join (Str.ofString ", ") ([z].map qtx) = quoteS z.1 z.2 := rfl
    have ok := h z (.head _)
    rw [e]
    refine ⟨?_, Nat.le_trans (quote_len ok.len) (by simp)⟩
    rw [quoteS_cps]
    have := ParL.last (ws := []) (ws2 := []) z.1 z.2 (fun c hc => nomatch hc) ok (fun c hc => nomatch hc)
    simpa using this
  | z :: z2 :: r, h => by
    have e : Str.join (Str.ofString ", ") ((z :: z2 :: r).map qtx) = quoteS z.1 z.2 ++ Str.ofString ", " ++ Str.join (Str.ofString ", ") ((z2 :: r).map qtx) := rfl
    have ok := h z (.head _)
    obtain ⟨i1, i2⟩ := par_joined (z2 :: r) fun y hy => h y (.tail _ hy)
    have e2 : (Str.ofString ", ").cps.toList = [44, 32] := by decide +kernel
    have e3 : (Str.ofString ", ").length = 2 := by decide +kernel
    rw [e]
    refine ⟨?_, ?_⟩
    · rw [app_list, app_list, quoteS_cps, e2]
      have := par_q0 (b := z.1) ok (par_space (.inl rfl) i1)
      simpa using this
    · have q := quote_len (b := z.1) ok.len
      rw [len_app, len_app, e3]
      simp only [List.length_cons] at i2 ⊢
      omega
theorem txt_join (sep : Str) (l : List Str) : Txt.join sep l = Str.join sep l := StrLaws.glued_eq_join sep l
/-- the tags of a written header -/
def back (l1 l2 : List Str) : List (Bool × Str) := l1.map (Prod.mk false) ++ l2.map (Prod.mk true)
theorem back_map (l1 l2 : List Str) : (back l1 l2).map qtx = l1.map (quoteS false) ++ l2.map (quoteS true) := by
  unfold back
  rw [List.map_append, List.map_map, List.map_map]
  rfl
theorem back_s (l1 l2 : List Str) : sOf (back l1 l2) = l1 := by
  have h1 : ∀ l : List Str, sOf (l.map (Prod.mk false)) = l := fun l => by
    induction l with
    | nil => rfl
    | cons a r ih => simp only [sOf] at ih ⊢; simp [ih]
  have h2 : ∀ l : List Str, sOf (l.map (Prod.mk true)) = [] := fun l => by
    induction l with
    | nil => rfl
    | cons a r ih => simp only [sOf] at ih ⊢; simp
  have h3 : sOf (back l1 l2) = sOf (l1.map (Prod.mk false)) ++ sOf (l2.map (Prod.mk true)) := by simp [sOf, back]
  rw [h3, h1, h2, List.append_nil]
theorem back_w (l1 l2 : List Str) : wOf (back l1 l2) = l2 := by
  have h1 : ∀ l : List Str, wOf (l.map (Prod.mk true)) = l := fun l => by
    induction l with
    | nil => rfl
    | cons a r ih => simp only [wOf] at ih ⊢; simp [ih]
  have h2 : ∀ l : List Str, wOf (l.map (Prod.mk false)) = [] := fun l => by
    induction l with
    | nil => rfl
    | cons a r ih => simp only [wOf] at ih ⊢; simp
  have h3 : wOf (back l1 l2) = wOf (l1.map (Prod.mk false)) ++ wOf (l2.map (Prod.mk true)) := by simp [wOf, back]
  rw [h3, h1, h2, List.nil_append]
theorem back_hdr {l1 l2 : List Str} {t : Tok} (h1 : ∀ y ∈ l1, TagOk y) (h2 : ∀ y ∈ l2, TagOk y) (h4 : l1.length + l2.length ≤ 4) :
    HdrOf (.str (Txt.join (Str.ofString ", ") (l1.map (quoteS false) ++ l2.map (quoteS true))) t) (back l1 l2) false := by
  have hl : (back l1 l2).length = l1.length + l2.length := by simp [back]
  obtain ⟨i1, i2⟩ := par_joined (back l1 l2) (by
    intro y hy
    rcases List.mem_append.mp hy with hy | hy
    · obtain ⟨z, hz, rfl⟩ := List.mem_map.mp hy; exact h1 z hz
    · obtain ⟨z, hz, rfl⟩ := List.mem_map.mp hy; exact h2 z hz)
  rw [back_map, ← txt_join] at i1 i2
  exact .inr (.inr ⟨_, t, rfl, rfl, by omega, by omega, i1⟩)
section
variable {p : Program} {loose : List Str} {w : World} {A : Around} {s : Shared} {mean : ExcName → Option Value} {mg mb : Str → Option Value} {Q E : Value → Shared → Prop} {h₀ : Heap}
/-- to_header's answer is a header that tells the same tags -/
theorem to_header_any {x : Addr} {S W : List Str} {star : Bool} (hst : star = true → S = [] ∧ W = []) (h4 : S.length + W.length ≤ 4) (hS : ∀ y ∈ S, TagOk y) (hW : ∀ y ∈ W, TagOk y) (RM : Room A) (X : (hd.heap_39 w.params).In h₀) (T : Top p loose mean mg mb h₀) (k : Ext h₀ s.heap) (O : ETs w h₀ s.heap x S W star)
   (h : Out s (fun _ v => ∃ l, HdrOf v l star ∧ (∀ y, y ∈ sOf l ↔ y ∈ S) ∧ (∀ y, y ∈ wOf l ↔ y ∈ W)) Q) :
   wpAny (model PySem.Challenge.rw_ez0425_01.row.prog w) A (call (.ref 87) [.ref x]) Q E s := by
  cases star with
  | true =>
    obtain ⟨rfl, rfl⟩ := hst rfl
    refine to_header_star RM X T k O fun h' tk dr v k' p => ?_
    obtain ⟨t, rfl⟩ := p
    exact h h' tk dr _ k' ⟨[], .inr (.inl ⟨t, rfl, rfl, rfl⟩), fun _ => Iff.rfl, fun _ => Iff.rfl⟩
  | false =>
    refine to_header_spec hS hW RM X T k O fun h' tk dr v k' p => ?_
    obtain ⟨l1, l2, t, p1, p2, rfl⟩ := p
    refine h h' tk dr _ k' ⟨back l1 l2, back_hdr (fun y hy => hS y (p1.mem_iff.mpr hy)) (fun y hy => hW y (p2.mem_iff.mpr hy)) (by rw [← p1.length_eq, ← p2.length_eq]; exact h4), fun y => ?_, fun y => ?_⟩
    · rw [back_s]; exact p1.mem_iff.symm
    · rw [back_w]; exact p2.mem_iff.symm
end
end Mine
end

section
open PySem PySem.W PySem.Calls PySem.Spec PyProof.Rows
set_option maxRecDepth 100000
set_option maxHeartbeats 8000000
namespace Mine
theorem room_top (env : Env) : Room3 (callerA.deeper env) := ⟨rfl, by rw [depth_deeper]; decide, by show callerA.units + _ + 800 < _; decide⟩
def InS (l : List (Bool × Str)) (y : Str) : Prop := y ∈ sOf l
def InSW (l : List (Bool × Str)) (y : Str) : Prop := y ∈ sOf l ∨ y ∈ wOf l
def Has (k : List Str) (P : Str → Prop) : Prop := ∀ y, y ∈ k ↔ P y
def InW (l : List (Bool × Str)) (y : Str) : Prop := y ∈ wOf l
def SortedOf (o : Obj) (P : Str → Prop) : Prop := ∃ xs n ss, o.cls = .type "list" ∧ o.data = .seq xs n ∧ StrsAre xs.toList ss ∧ ss.Nodup ∧ sortedS ss = true ∧ Has ss P
def OkP (P : Str → Prop) : Prop := ∀ y, P y → PyData.strOk y = true
theorem mem_sOf {l : List (Bool × Str)} {y : Str} (h : y ∈ sOf l) : ∃ z ∈ l, z.2 = y := by
  obtain ⟨z, hz, rfl⟩ := List.mem_map.mp h
  exact ⟨z, (List.mem_filter.mp hz).1, rfl⟩
theorem mem_wOf {l : List (Bool × Str)} {y : Str} (h : y ∈ wOf l) : ∃ z ∈ l, z.2 = y := by
  obtain ⟨z, hz, rfl⟩ := List.mem_map.mp h
  exact ⟨z, (List.mem_filter.mp hz).1, rfl⟩
theorem okS {l : List (Bool × Str)} (h : ∀ y ∈ l, TagX y.2) : OkP (InS l) := fun y hy => by
  obtain ⟨z, hz, rfl⟩ := mem_sOf hy
  exact (h z hz).2
theorem okSW {l : List (Bool × Str)} (h : ∀ y ∈ l, TagX y.2) : OkP (InSW l) := fun y hy => by
  rcases hy with hy | hy
  · obtain ⟨z, hz, rfl⟩ := mem_sOf hy; exact (h z hz).2
  · obtain ⟨z, hz, rfl⟩ := mem_wOf hy; exact (h z hz).2
theorem sw_len (l : List (Bool × Str)) : (sOf l).length + (wOf l).length = l.length := by
  induction l with
  | nil => rfl
  | cons a r ih =>
    obtain ⟨b, y⟩ := a
    cases b <;> simp_all [sOf, wOf] <;> omega
theorem HdrOf.le4 {hv : Value} {l : List (Bool × Str)} {star : Bool} (H : HdrOf hv l star) : l.length ≤ 4 := by
  rcases H with ⟨_, rfl, _⟩ | ⟨_, _, rfl, _⟩ | ⟨_, _, _, _, _, h, _⟩
  · exact Nat.zero_le _
  · exact Nat.zero_le _
  · exact h
theorem HdrOf.starNil {hv : Value} {l : List (Bool × Str)} (H : HdrOf hv l true) : l = [] := by
  rcases H with ⟨_, _, h⟩ | ⟨_, _, h, _⟩ | ⟨_, _, _, h, _⟩
  · cases h
  · exact h
  · cases h
section
variable {prog : Program} {w : World} {A : Around} {E : Value → Shared → Prop} {s : Shared} {h₀ : Heap} {L : Addr} {m : Str → Option Value} {news : List (Addr × Obj)}
theorem hdr_K {place : Int} {Q : Value → Shared → Prop} (F : Fr h₀ L s.heap m) (N : News h₀ L s.heap news)
    (h : ∀ a ls lw hv xs ys i j n l star h' tk dr, Fr h₀ L h' m → News h₀ L h' ((a, tupO #[hv, .ref ls, .ref lw, .bool star] n) :: (ls, listOf xs i) :: (lw, listOf ys j) :: news) → (∀ p ∈ news, p.1 ≠ a ∧ p.1 ≠ ls ∧ p.1 ≠ lw) →
      StrsAre xs.toList (sOf l) → StrsAre ys.toList (wOf l) → HdrOf hv l star → l.length ≤ 4 → (∀ y ∈ l, TagX y.2) → (star = true → place = 0) → Q (.ref a) { s with heap := h', toks := tk, drawn := dr }) :
    Out s (HPost place s.heap) Q := by
  rintro h' tk dr v k ⟨a, ls, lw, hv, xs, ys, i, j, n, l, star, rfl, O, r1, r2, r3, r4, r5, r6⟩
  have q1 := O _ (.head _)
  have q2 := O _ (.tail _ (.head _))
  have q3 := O _ (.tail _ (.tail _ (.head _)))
  exact h a ls lw hv xs ys i j n l star h' tk dr (Fr.ext F k) (News.add F (News.add F (News.add F (News.ext N k) q3.2 q3.1) q2.2 q2.1) q1.2 q1.1) (fun p hp => ⟨Owns.cons_ne N q1.2 p hp, Owns.cons_ne N q2.2 p hp, Owns.cons_ne N q3.2 p hp⟩) r1 r2 r3 r4 r5 r6
theorem set_has_K {a : Addr} {xs : Array Value} {n : Nat} {ss : List Str} {P : Str → Prop} {Q : Value → Shared → Prop} (hp : ∀ y, y ∈ ss ↔ P y) (F : Fr h₀ L s.heap m) (N : News h₀ L s.heap news) (hm : (a, listOf xs n) ∈ news) (hh : A.handled = none) (hv : StrsAre xs.toList ss) (h4 : ss.length ≤ 4)
    (h : ∀ b h' tk dr o' l', Fr h₀ L h' m → News h₀ L h' ((b, o') :: news) → SSet w "set" o' l' → Has l' P → Q (.ref b) { s with heap := h', toks := tk, drawn := dr }) :
    wpAny (model prog w) A (call (.type "set") [.ref a]) Q E s :=
  set_list_K F N hh (news_list' N hm) hv h4 fun b h' tk dr o' l' F' N' _ S' hm' _ => h b h' tk dr o' l' F' N' S' fun y => (hm' y).trans (hp y)
theorem SSet.nodup {cls : String} {o : Obj} {l : List Str} (S : SSet w cls o l) : l.Nodup := by
  obtain ⟨_, _, _, es, ep, t, hd, _, r, _⟩ := S
  exact r
theorem sorted_K {a : Addr} {o : Obj} {l : List Str} {P : Str → Prop} {Q : Value → Shared → Prop} (F : Fr h₀ L s.heap m) (N : News h₀ L s.heap news) (hm : (a, o) ∈ news) (hh : A.handled = none) (S : SSet w "set" o l) (hp : Has l P)
    (h : ∀ b h' tk dr o', Fr h₀ L h' m → News h₀ L h' ((b, o') :: news) → SortedOf o' P → Q (.ref b) { s with heap := h', toks := tk, drawn := dr }) :
    wpAny (model prog w) A (call (.builtin "sorted") [.ref a]) Q E s := by
  refine sorted_set hh (N _ hm).1 S fun s' b vs ss' hl hv hperm hs hsz hk hg hos => ?_
  obtain ⟨hp', g', d', t', os'⟩ := s'
  simp only at hg hos
  subst hg; subst hos
  obtain ⟨o', ho', hc, n, hd⟩ := hl
  have hb : s.heap.get? b = none := by
    cases q : s.heap.get? b with
    | none => rfl
    | some x => exact absurd (Heap.lt_size q) (Nat.not_lt.mpr hsz)
  exact h b hp' t' d' o' (Fr.ext F hk) (News.add F (News.ext N hk) hb ho') ⟨vs, n, ss', hc, hd, hv, hperm.nodup_iff.mpr S.nodup, hs, fun y => hperm.mem_iff.trans (hp y)⟩
theorem ne_sorted_K {a b : Addr} {oa ob : Obj} {P : Str → Prop} {Q : Value → Shared → Prop} (N : News h₀ L s.heap news) (ma : (a, oa) ∈ news) (mb : (b, ob) ∈ news) (Sa : SortedOf oa P) (Sb : SortedOf ob P) (hok : OkP P) (hu : A.units + 64 < cLine)
    (h : Q (.bool false) s) : wpAny (model prog w) A (compareOp .NotEq (.ref a) (.ref b)) Q E s := by
  obtain ⟨xs, i, ss, c1, d1, s1, s2, s3, s4⟩ := Sa
  obtain ⟨ys, j, ss', c2, d2, t1, t2, t3, t4⟩ := Sb
  have e : ss = ss' := sorted_uniq (perm_of_same s2 t2 fun y => (s4 y).trans (t4 y).symm) s3 t3
  subst e
  have la : s.heap.IsList a xs.toList.toArray := ⟨_, (N _ ma).1, c1, i, by rw [Array.toArray_toList]; exact d1⟩
  have lb : s.heap.IsList b ys.toList.toArray := ⟨_, (N _ mb).1, c2, j, by rw [Array.toArray_toList]; exact d2⟩
  refine ne_strs la lb s1 t1 (fun y hy => hok y ((s4 y).mp hy)) (fun y hy => hok y ((s4 y).mp hy)) hu ?_
  simpa using h
theorem ne_set_K {a b : Addr} {o ob : Obj} {l lb : List Str} {P : Str → Prop} {Q : Value → Shared → Prop} (N : News h₀ L s.heap news) (ma : (a, o) ∈ news) (mb : (b, ob) ∈ news) (hu : A.units < cLine) (S : SSet w "set" o l) (Sb : SSet w "set" ob lb) (h1 : Has l P) (h2 : Has lb P)
    (h : Q (.bool false) s) : wpAny (model prog w) A (compareOp .NotEq (.ref a) (.ref b)) Q E s :=
  ne_sets hu (N _ ma).1 S (N _ mb).1 Sb (fun y => (h1 y).trans (h2 y).symm) h
end
section
variable {p : Program} {loose : List Str} {w : World} {A : Around} {s : Shared} {mean : ExcName → Option Value} {mg mb : Str → Option Value} {E : Value → Shared → Prop} {h₀ : Heap} {L : Addr} {m : Str → Option Value} {news : List (Addr × Obj)}
theorem parse_K {hv : Value} {l k : List (Bool × Str)} {star : Bool} {Q : Value → Shared → Prop} (H : HdrOf hv l star) (g1 : ∀ y, y ∈ sOf l ↔ InS k y) (g2 : ∀ y, y ∈ wOf l ↔ InW k y) (RM : Room2 A) (X : (hd.heap_39 w.params).In h₀) (T : Top p loose mean mg mb h₀) (F : Fr h₀ L s.heap m) (N : News h₀ L s.heap news)
    (h : ∀ x d fs fw o1 o2 t1 t2 t3 S W h' tk dr, Fr h₀ L h' m → News h₀ L h' ((x, instObj 140 d) :: (d, etDict w t1 t2 t3 fs fw star) :: (fs, o1) :: (fw, o2) :: news) → SSet w "frozenset" o1 S → SSet w "frozenset" o2 W → Has S (InS k) → Has W (InW k) → S.length + W.length ≤ 4 → Q (.ref x) { s with heap := h', toks := tk, drawn := dr }) :
    wpAny (model PySem.Challenge.rw_ez0425_01.row.prog w) A (call (.ref 221) [hv]) Q E s := by
  refine parse_any H RM (Frag.In.keeps X F.keep) (Top.keeps T F.keep) (ets_K F N ?_)
  intro x d fs fw o1 o2 t1 t2 t3 S W h' tk dr F' N' S1 S2 e1 e2 l1 l2 _
  exact h x d fs fw o1 o2 t1 t2 t3 S W h' tk dr F' N' S1 S2 (fun y => (e1 y).trans (g1 y)) (fun y => (e2 y).trans (g2 y)) (by have := sw_len l; have := H.le4; omega)
theorem asset_K {x d fs fw : Addr} {o1 o2 : Obj} {t1 t2 t3 : Tok} {S W : List Str} {star : Bool} {P : Str → Prop} {Q : Value → Shared → Prop} (RM : Room A) (X : (hd.heap_39 w.params).In h₀) (T : Top p loose mean mg mb h₀) (F : Fr h₀ L s.heap m) (N : News h₀ L s.heap news) (m1 : (x, instObj 140 d) ∈ news) (m2 : (d, etDict w t1 t2 t3 fs fw star) ∈ news) (m3 : (fs, o1) ∈ news) (m4 : (fw, o2) ∈ news) (S1 : SSet w "frozenset" o1 S) (S2 : SSet w "frozenset" o2 W)
    (e1 : Has S P)
    (h : ∀ b h' tk dr o' l', Fr h₀ L h' m → News h₀ L h' ((b, o') :: news) → SSet w "set" o' l' → Has l' P → Q (.ref b) { s with heap := h', toks := tk, drawn := dr }) :
    wpAny (model PySem.Challenge.rw_ez0425_01.row.prog w) A (call (.ref 54) [.ref x]) Q E s := by
  refine as_set_spec RM X T F.keep (ETs.of_news N (Ext.refl _) m1 m2 m3 m4 S1 S2) (out_K F N fun h' tk dr v F' N' k q => ?_)
  obtain ⟨b, o', l', rfl, hb, ho, S', e⟩ := q
  exact h b h' tk dr o' l' F' (News.add F N' hb ho) S' fun y => (e y).trans (e1 y)
theorem assetw_K {x d fs fw : Addr} {o1 o2 : Obj} {t1 t2 t3 : Tok} {S W : List Str} {star : Bool} {k : List (Bool × Str)} {Q : Value → Shared → Prop} (RM : Room A) (X : (hd.heap_39 w.params).In h₀) (T : Top p loose mean mg mb h₀) (F : Fr h₀ L s.heap m) (N : News h₀ L s.heap news) (m1 : (x, instObj 140 d) ∈ news) (m2 : (d, etDict w t1 t2 t3 fs fw star) ∈ news) (m3 : (fs, o1) ∈ news) (m4 : (fw, o2) ∈ news) (S1 : SSet w "frozenset" o1 S) (S2 : SSet w "frozenset" o2 W)
    (e1 : Has S (InS k)) (e2 : Has W (InW k)) (h4 : S.length + W.length ≤ 4)
    (h : ∀ b h' tk dr o' l', Fr h₀ L h' m → News h₀ L h' ((b, o') :: news) → SSet w "set" o' l' → Has l' (InSW k) → Q (.ref b) { s with heap := h', toks := tk, drawn := dr }) :
    wpAny (model PySem.Challenge.rw_ez0425_01.row.prog w) A (call (.ref 54) [.ref x] [(Str.ofString "include_weak", .bool true)]) Q E s := by
  refine as_set_specw h4 RM X T F.keep (ETs.of_news N (Ext.refl _) m1 m2 m3 m4 S1 S2) (out_K F N fun h' tk dr v F' N' k' q => ?_)
  obtain ⟨b, o', l', rfl, hb, ho, S', e⟩ := q
  exact h b h' tk dr o' l' F' (News.add F N' hb ho) S' fun y => (e y).trans (or_congr (e1 y) (e2 y))
theorem toh_K {x d fs fw : Addr} {o1 o2 : Obj} {t1 t2 t3 : Tok} {S W : List Str} {star : Bool} {k : List (Bool × Str)} {hv : Value} {Q : Value → Shared → Prop} (H : HdrOf hv k star) (ok : ∀ y ∈ k, TagX y.2) (RM : Room A) (X : (hd.heap_39 w.params).In h₀) (T : Top p loose mean mg mb h₀) (F : Fr h₀ L s.heap m) (N : News h₀ L s.heap news) (m1 : (x, instObj 140 d) ∈ news) (m2 : (d, etDict w t1 t2 t3 fs fw star) ∈ news) (m3 : (fs, o1) ∈ news) (m4 : (fw, o2) ∈ news) (S1 : SSet w "frozenset" o1 S) (S2 : SSet w "frozenset" o2 W)
    (e1 : Has S (InS k)) (e2 : Has W (InW k)) (h4 : S.length + W.length ≤ 4)
    (h : ∀ v l h' tk dr, Fr h₀ L h' m → News h₀ L h' news → HdrOf v l star → (∀ y, y ∈ sOf l ↔ InS k y) → (∀ y, y ∈ wOf l ↔ InW k y) → Q v { s with heap := h', toks := tk, drawn := dr }) :
    wpAny (model PySem.Challenge.rw_ez0425_01.row.prog w) A (call (.ref 87) [.ref x]) Q E s := by
  refine to_header_any (star := star) ?_ h4 (fun y hy => ?_) (fun y hy => ?_) RM X T F.keep (ETs.of_news N (Ext.refl _) m1 m2 m3 m4 S1 S2) (out_K F N fun h' tk dr v F' N' k' q => ?_)
  · rintro rfl
    have := H.starNil
    subst this
    refine ⟨List.eq_nil_iff_forall_not_mem.mpr fun y hy => ?_, List.eq_nil_iff_forall_not_mem.mpr fun y hy => ?_⟩
    · exact nomatch (e1 y).mp hy
    · exact nomatch (e2 y).mp hy
  · obtain ⟨z, hz, rfl⟩ := mem_sOf ((e1 y).mp hy); exact (ok z hz).1
  · obtain ⟨z, hz, rfl⟩ := mem_wOf ((e2 y).mp hy); exact (ok z hz).1
  · obtain ⟨l, q1, q2, q3⟩ := q
    exact h v l h' tk dr F' N' q1 (fun y => (q2 y).trans (e1 y)) (fun y => (q3 y).trans (e2 y))
end
end Mine
end

section
open PySem PySem.W PySem.Calls PySem.Spec PyProof.Rows
set_option maxRecDepth 100000
set_option maxHeartbeats 8000000
namespace Mine
section
variable {prog : Program} {w : World} {A : Around} {E : Value → Shared → Prop} {s : Shared} {h₀ : Heap} {env : Env} {m : Str → Option Value} {news : List (Addr × Obj)}
theorem iter_places {D : Addr} {t0 t6 : Tok} {c : Nat} {x : Str} {px : Pos} {body : List Stmt} {Q : Flow → Shared → Prop} (hh : A.handled = none) (hx : env.kindOf x = some .local)
    (hp : (env.scope.kind == .class || (env.scope.kind == .module && env.locals != env.globals)) = false)
    (F : Fr h₀ env.locals s.heap m) (N : News h₀ env.locals s.heap news) (J : Nat → (Str → Option Value) → List (Addr × Obj) → Prop) (h0 : J 0 m news)
    (hJD : ∀ i m₁ news₁, J i m₁ news₁ → (D, tupO #[.int 0 t0, .int 6 t6] c) ∈ news₁)
    (step : ∀ (i : Nat) (pl : Int) m₁ news₁ h tk dr I oI t, (i = 0 ∧ pl = 0 ∨ i = 1 ∧ pl = 6) → J i m₁ news₁ → (∀ p ∈ news₁, p.1 ≠ I) → Fr h₀ env.locals h (fun y => if y = x then some (.int pl t) else m₁ y) → News h₀ env.locals h ((I, oI) :: news₁) →
      wpAny (model prog w) A (execs body env) (TurnEnd h₀ env.locals s I oI (J (i + 1))) E { s with heap := h, toks := tk, drawn := dr })
    (done : ∀ h' tk dr m' news', Fr h₀ env.locals h' m' → News h₀ env.locals h' news' → J 2 m' news' → Q .next { s with heap := h', toks := tk, drawn := dr })
    (hE : PassesOwn (model prog w) A env E) :
    wpAny (model prog w) A (pyIter (.ref D)) (fun it s₂ => codeAny (model prog w) A (.forLoop (.Name x px) it body [] env) (fun r s' => match r with | .ok f => Q f s' | .error e => cameBackBy (model prog w) A env E e s') s₂) E s := by
  have hT : ∀ {h' : Heap} {news' : List (Addr × Obj)} {i m'}, News h₀ env.locals h' news' → J i m' news' → h'.IsTuple D #[.int 0 t0, .int 6 t6] := fun N' hJ => ⟨_, (N' _ (hJD _ _ _ hJ)).1, rfl, c, rfl⟩
  refine wpAny_pyIter_tuple (hT N h0) ?_
  generalize hI : s.heap.objs.size = I
  have hDI : D ≠ I := fun e => by
    have := Heap.lt_size (N _ (hJD _ _ _ h0)).1
    rw [← hI] at e
    exact Nat.ne_of_lt this e
  have W := Walks.tuple (prog := prog) (w := w) (A := A) hh I D hDI #[.int 0 t0, .int 6 t6]
  have hLI : env.locals < I := hI ▸ F.ns.lt
  refine codeAny_forLoop
    (fun k s' => ∃ i h' tk dr m' news', s' = { s with heap := h', toks := tk, drawn := dr } ∧ h'.IsTupleIter I D i ∧ Fr h₀ env.locals h' m' ∧ News h₀ env.locals h' news' ∧ (∀ p ∈ news', p.1 ≠ I) ∧ J i m' news' ∧ h₀.get? I = none ∧ i ≤ 2 ∧ k = 2 + 1 - i) ?_ (2 + 1)
    ⟨0, _, s.toks, s.drawn, m, news, rfl, ?_, F.push _, fun p hp => ⟨Heap.get?_push_of_some _ (N p hp).1, (N p hp).2⟩, fun p hp e => absurd (Heap.lt_size (N p hp).1) (by rw [e, hI]; exact Nat.lt_irrefl _), h0, hI ▸ none_at_size F, Nat.zero_le _, rfl⟩
  · rintro k s' ⟨i, h', tk, dr, m', news', rfl, hst, F', N', hoff, hJ, hnone, hi, rfl⟩
    have old : ∀ b o, h₀.get? b = some o → b ≠ I := fun b o e q => by rw [q, hnone] at e; cases e
    by_cases hlt : i < 2
    · refine W.item i _ _ _ hlt ⟨hst, hT N' hJ⟩ fun v h₁ tk₁ hP hst₁ hk₁ => ?_
      obtain ⟨pl, t', hpl, rfl⟩ : ∃ (pl : Int) (t' : Tok), (i = 0 ∧ pl = 0 ∨ i = 1 ∧ pl = 6) ∧ v = .int pl t' := by
        match i, hlt, hP with
        | 0, _, hP => exact ⟨0, t0, .inl ⟨rfl, rfl⟩, by simpa using hP.symm⟩
        | 1, _, hP => exact ⟨6, t6, .inr ⟨rfl, rfl⟩, by simpa using hP.symm⟩
      have F₁ : Fr h₀ env.locals h₁ m' := ⟨F'.ns.at' fun o e => hk₁ _ o (fun hb => absurd hLI (by rw [List.mem_singleton.mp hb]; exact Nat.lt_irrefl _)) e, fun b o e => hk₁ b o (fun hb => old b o e (List.mem_singleton.mp hb)) (F'.keep b o e), F'.above⟩
      have N₁ : News h₀ env.locals h₁ news' := fun p hp => ⟨hk₁ _ _ (fun hb => hoff p hp (List.mem_singleton.mp hb)) (N' p hp).1, (N' p hp).2⟩
      refine wpAny_assign_Name (wpAny_storeName_local hx F₁.ns (fun h₂ hn₂ hs₂ => ?_) hp)
      have F₂ := F₁.set hn₂ hs₂
      have N₂ := N₁.set hs₂
      obtain ⟨oI, hoI, hcI, hdI⟩ := hst₁.1
      have hI₂ : h₂.get? I = some oI := (hs₂.2 I (Nat.ne_of_gt hLI)).trans hoI
      refine wpAny_mono (wpAny_passesOwn hE (step i pl m' news' h₂ _ dr I oI t' hpl hJ hoff F₂ ?_)) (fun f s₃ h₃ => ?_) fun _ _ e => e
      · intro p hp
        rcases List.mem_cons.mp hp with rfl | hp
        · exact ⟨hI₂, Nat.ne_of_gt hLI, hnone⟩
        · exact N₂ p hp
      · obtain ⟨hf, h₃', tk₃, dr₃, m₃, news₃, rfl, F₃, N₃, hoff₃, hJ₃⟩ := h₃
        have key : ∃ m, m < 2 + 1 - i ∧ ∃ i' h' tk dr m' news', ({ s with heap := h₃', toks := tk₃, drawn := dr₃ } : Shared) = { s with heap := h', toks := tk, drawn := dr } ∧ h'.IsTupleIter I D i' ∧ Fr h₀ env.locals h' m' ∧ News h₀ env.locals h' news' ∧ (∀ p ∈ news', p.1 ≠ I) ∧ J i' m' news' ∧ h₀.get? I = none ∧ i' ≤ 2 ∧ m = 2 + 1 - i' :=
          ⟨2 + 1 - (i + 1), by omega, i + 1, h₃', tk₃, dr₃, m₃, news₃, rfl, ⟨oI, (N₃ _ (.head _)).1, hcI, hdI⟩, F₃, fun p hp => N₃ p (.tail _ hp), hoff₃, hJ₃, hnone, hlt, rfl⟩
        rcases hf with rfl | rfl
        · exact key
        · exact key
    · have hin : i = 2 := by omega
      subst hin
      refine W.done _ _ _ ⟨hst, hT N' hJ⟩ fun h₁ tk₁ hk₁ => wpAny_execs_nil ?_
      refine done h₁ tk₁ dr m' news' ⟨F'.ns.at' fun o e => hk₁ _ o (fun hb => absurd hLI (by rw [List.mem_singleton.mp hb]; exact Nat.lt_irrefl _)) e, fun b o e => hk₁ b o (fun hb => old b o e (List.mem_singleton.mp hb)) (F'.keep b o e), F'.above⟩ (fun p hp => ⟨hk₁ _ _ (fun hb => hoff p hp (List.mem_singleton.mp hb)) (N' p hp).1, (N' p hp).2⟩) hJ
  · have := Heap.get?_push_size (h := s.heap) (o := { cls := .type "tuple_iterator", data := .fields #[.ref D, .int 0 0] }) rfl
    rw [hI] at this
    exact ⟨_, this, rfl, rfl⟩
end
end Mine
end

section
open PySem PySem.W PySem.Calls PySem.Spec PyProof.Rows
set_option maxRecDepth 100000
set_option maxHeartbeats 8000000
namespace Mine
abbrev lawSto : List Str := [Str.ofString "place", Str.ofString "header", Str.ofString "strong", Str.ofString "weak", Str.ofString "star", Str.ofString "told", Str.ofString "again"]
/-- a record of the list of headers, with the three objects that it owns -/
def HOk (place : Int) (v : Value) (own : List (Addr × Obj)) : Prop :=
  ∃ a ls lw hv xs ys i j n l star, v = .ref a ∧ own = [(a, tupO #[hv, .ref ls, .ref lw, .bool star] n), (ls, listOf xs i), (lw, listOf ys j)] ∧ StrsAre xs.toList (sOf l) ∧ StrsAre ys.toList (wOf l) ∧ HdrOf hv l star ∧ l.length ≤ 4 ∧ (∀ y ∈ l, TagX y.2) ∧ (star = true → place = 0)
def OldOk (i : Nat) (hs : Array Value) (old : List (Addr × Obj)) : Prop :=
  (i = 0 ∧ hs = #[] ∧ old = []) ∨ (i = 1 ∧ ∃ v own, HOk 0 v own ∧ hs = #[v] ∧ old = own) ∨ (i = 2 ∧ ∃ v0 own0 v1 own1, HOk 0 v0 own0 ∧ HOk 6 v1 own1 ∧ hs = #[v0, v1] ∧ old = own1 ++ own0)
def LJ (H D : Addr) (oD : Obj) (m₀ : Str → Option Value) (i : Nat) (m : Str → Option Value) (news : List (Addr × Obj)) : Prop :=
  ∃ (u : Str → Option Value) (hs : Array Value) (c : Nat) (old : List (Addr × Obj)), m = (fun z => if lawSto.contains z then u z else m₀ z) ∧ news = (H, listOf hs c) :: (D, oD) :: old ∧ @Ne Nat D H ∧ (∀ p ∈ old, @Ne Nat p.1 H) ∧ OldOk i hs old
theorem OldOk.size {i : Nat} {hs : Array Value} {old : List (Addr × Obj)} (h : OldOk i hs old) : hs.size ≤ sizeLine := by
  rw [sizeLine_eq]
  rcases h with ⟨_, rfl, _⟩ | ⟨_, _, _, _, rfl, _⟩ | ⟨_, _, _, _, _, _, _, rfl, _⟩ <;> simp
theorem OldOk.next {i : Nat} {pl : Int} {hs : Array Value} {old own : List (Addr × Obj)} {v : Value} (h : OldOk i hs old) (hi : i = 0 ∧ pl = 0 ∨ i = 1 ∧ pl = 6) (k : HOk pl v own) : OldOk (i + 1) (hs.push v) (own ++ old) := by
  rcases h with ⟨rfl, rfl, rfl⟩ | ⟨rfl, v0, own0, k0, rfl, rfl⟩ | ⟨rfl, _⟩
  · obtain rfl : pl = 0 := by omega
    exact .inr (.inl ⟨rfl, v, own, k, rfl, by simp⟩)
  · obtain rfl : pl = 6 := by omega
    exact .inr (.inr ⟨rfl, v0, old, v, own, k0, k, rfl, rfl⟩)
  · omega
theorem law_self {m₀ m' : Str → Option Value} (hr : ∀ z, lawSto.contains z = false → m' z = m₀ z) : m' = fun z => if lawSto.contains z then m' z else m₀ z := by
  funext z
  cases h3 : lawSto.contains z with
  | true => simp
  | false => simp only [Bool.false_eq_true, if_false]; exact hr z h3
theorem lturn {h₀ h' : Heap} {L : Addr} {s : Shared} {I H D a ls lw : Addr} {oI oD : Obj} {m₀ m' : Str → Option Value} {i : Nat} {pl : Int} {tk : Nat} {dr : Drawn} {news' old : List (Addr × Obj)} {hs xs ys : Array Value} {c n ci cj : Nat} {l : List (Bool × Str)} {star : Bool} {hv : Value}
    (F : Fr h₀ L h' m') (N : News h₀ L h' news') (sub : ∀ p ∈ ((I, oI) :: (H, listOf (hs.push (.ref a)) c) :: (D, oD) :: (a, tupO #[hv, .ref ls, .ref lw, .bool star] n) :: (ls, listOf xs ci) :: (lw, listOf ys cj) :: old), p ∈ news')
    (nH : @Ne Nat D H ∧ @Ne Nat a H ∧ @Ne Nat ls H ∧ @Ne Nat lw H) (oH : ∀ p ∈ old, @Ne Nat p.1 H) (nI : @Ne Nat H I ∧ @Ne Nat D I ∧ @Ne Nat a I ∧ @Ne Nat ls I ∧ @Ne Nat lw I) (oI' : ∀ p ∈ old, @Ne Nat p.1 I)
    (O : OldOk i hs old) (hi : i = 0 ∧ pl = 0 ∨ i = 1 ∧ pl = 6) (q1 : StrsAre xs.toList (sOf l)) (q2 : StrsAre ys.toList (wOf l)) (q3 : HdrOf hv l star) (q4 : l.length ≤ 4) (q5 : ∀ y ∈ l, TagX y.2) (q6 : star = true → pl = 0)
    (hr : ∀ z, lawSto.contains z = false → m' z = m₀ z) :
    TurnEnd h₀ L s I oI (LJ H D oD m₀ (i + 1)) .next { s with heap := h', toks := tk, drawn := dr } := by
  obtain ⟨a1, a2, a3, a4⟩ := nH
  obtain ⟨b0, b1, b2, b3, b4⟩ := nI
  refine ⟨.inl rfl, h', tk, dr, m', _, rfl, F, News.sub N sub, fun p hp => ?_, m', hs.push (.ref a), c, [(a, tupO #[hv, .ref ls, .ref lw, .bool star] n), (ls, listOf xs ci), (lw, listOf ys cj)] ++ old, law_self hr, rfl, a1, fun p hp => ?_, OldOk.next O hi ⟨a, ls, lw, hv, xs, ys, ci, cj, n, l, star, rfl, rfl, q1, q2, q3, q4, q5, q6⟩⟩
  · rcases List.mem_cons.mp hp with rfl | hp
    · exact b0
    rcases List.mem_cons.mp hp with rfl | hp
    · exact b1
    rcases List.mem_cons.mp hp with rfl | hp
    · exact b2
    rcases List.mem_cons.mp hp with rfl | hp
    · exact b3
    rcases List.mem_cons.mp hp with rfl | hp
    · exact b4
    exact oI' p hp
  · rcases List.mem_cons.mp hp with rfl | hp
    · exact a2
    rcases List.mem_cons.mp hp with rfl | hp
    · exact a3
    rcases List.mem_cons.mp hp with rfl | hp
    · exact a4
    exact oH p hp
section
variable {prog : Program} {w : World} {A : Around} {E : Value → Shared → Prop} {s : Shared} {h₀ : Heap} {env : Env} {m : Str → Option Value} {news : List (Addr × Obj)}
theorem law_loop {D H : Addr} {t0 t6 : Tok} {c ch : Nat} {px : Pos} {body : List Stmt} {Q : Flow → Shared → Prop} (hh : A.handled = none) (hx : env.kindOf (Str.ofString "place") = some .local)
    (hp : (env.scope.kind == .class || (env.scope.kind == .module && env.locals != env.globals)) = false)
    (F : Fr h₀ env.locals s.heap m) (N : News h₀ env.locals s.heap [(H, listOf #[] ch), (D, tupO #[.int 0 t0, .int 6 t6] c)]) (hne : @Ne Nat D H)
    (step : ∀ (i : Nat) (pl : Int) (u : Str → Option Value) (hs : Array Value) (ci : Nat) (old : List (Addr × Obj)) (h : Heap) (tk : Nat) (dr : Drawn) (I : Addr) (oI : Obj) (t : Tok), (i = 0 ∧ pl = 0 ∨ i = 1 ∧ pl = 6) → (pl = 0 ∨ pl = 6) → OldOk i hs old → (∀ p ∈ old, @Ne Nat p.1 H) → (@Ne Nat H I ∧ @Ne Nat D I ∧ @Ne Nat D H) → (∀ p ∈ old, @Ne Nat p.1 I) →
      Fr h₀ env.locals h (fun y => if y = Str.ofString "place" then some (.int pl t) else if lawSto.contains y then u y else m y) → News h₀ env.locals h ((I, oI) :: (H, listOf hs ci) :: (D, tupO #[.int 0 t0, .int 6 t6] c) :: old) →
      wpAny (model prog w) A (execs body env) (TurnEnd h₀ env.locals s I oI (LJ H D (tupO #[.int 0 t0, .int 6 t6] c) m (i + 1))) E { s with heap := h, toks := tk, drawn := dr })
    (done : ∀ (h' : Heap) (tk : Nat) (dr : Drawn) (u : Str → Option Value) (hs : Array Value) (ci : Nat) (old : List (Addr × Obj)), Fr h₀ env.locals h' (fun z => if lawSto.contains z then u z else m z) → News h₀ env.locals h' ((H, listOf hs ci) :: old) → OldOk 2 hs old → Q .next { s with heap := h', toks := tk, drawn := dr })
    (hE : PassesOwn (model prog w) A env E) :
    wpAny (model prog w) A (pyIter (.ref D)) (fun it s₂ => codeAny (model prog w) A (.forLoop (.Name (Str.ofString "place") px) it body [] env) (fun r s' => match r with | .ok f => Q f s' | .error e => cameBackBy (model prog w) A env E e s') s₂) E s := by
  refine iter_places (t0 := t0) (t6 := t6) (c := c) hh hx hp F N (LJ H D (tupO #[.int 0 t0, .int 6 t6] c) m) ⟨m, #[], ch, [], law_self fun _ _ => rfl, rfl, hne, fun p hp => (nomatch hp), .inl ⟨rfl, rfl, rfl⟩⟩ ?_ ?_ ?_ hE
  · rintro i m₁ news₁ ⟨u, hs, c', old, rfl, rfl, _⟩
    exact .tail _ (.head _)
  · rintro i pl m₁ news₁ h tk dr I oI t hi ⟨u, hs, c', old, rfl, rfl, n1, n2, O⟩ hoff F' N'
    exact step i pl u hs c' old h tk dr I oI t hi (by omega) O n2 ⟨hoff _ (.head _), hoff _ (.tail _ (.head _)), n1⟩ (fun p hp => hoff p (.tail _ (.tail _ hp))) F' N'
  · rintro h' tk dr m' news' F' N' ⟨u, hs, c', old, rfl, rfl, n1, n2, O⟩
    exact done h' tk dr u hs c' old F' (News.sub N' fun p hp => by
      rcases List.mem_cons.mp hp with rfl | hp
      · exact .head _
      · exact .tail _ (.tail _ hp)) O
theorem ne_pair_K {a d L : Addr} {i j : Nat} {x : Str} {t u : Tok} {b : Bool} {Q : Value → Shared → Prop} (N : News h₀ L s.heap news) (ma : (a, tupO #[.str x t, .bool b] i) ∈ news) (md : (d, tupO #[.str x u, .bool b] j) ∈ news) (hx : PyData.strOk x = true) (hu : A.units + 64 < cLine)
    (h : Q (.bool false) s) : wpAny (model prog w) A (compareOp .NotEq (.ref a) (.ref d)) Q E s := by
  have hsh : SeqAt.shaped (.tuple [.str x, .bool b]) = true := by simp [SeqAt.shaped, PyData.canLay0, PyData.canLayAll0, PyData.depth, PyData.depthAll, hx]
  refine ne_dataH (da := .tuple [.str x, .bool b]) (db := .tuple [.str x, .bool b]) (reads_tuple_at (News.get N ma) rfl rfl (ReadsAll.cons (Reads.str _ _) (ReadsAll.cons (Reads.bool _) ReadsAll.nil))) (reads_tuple_at (News.get N md) rfl rfl (ReadsAll.cons (Reads.str _ _) (ReadsAll.cons (Reads.bool _) ReadsAll.nil))) hsh hsh hu ?_
  simpa [PyData.eqv, PyData.eqvAll] using h
end
section
variable {prog : Program} {w : World} {A : Around} {E : Value → Shared → Prop} {s : Shared} {h₀ : Heap} {L : Addr} {m : Str → Option Value} {news : List (Addr × Obj)}
theorem neb_self {b : Bool} {Q : Value → Shared → Prop} (h : Q (.bool false) s) : wpAny (model prog w) A (compareOp .NotEq (.bool b) (.bool b)) Q E s := ne_bool (by simpa using h)
theorem lappend {I H D a a0 ls lw : Addr} {oI oD oH' : Obj} {hs xs ys : Array Value} {c n ci cj : Nat} {star : Bool} {hv : Value} {old : List (Addr × Obj)} {Q : Value → Shared → Prop} (F : Fr h₀ L s.heap m) (N : News h₀ L s.heap news)
    (mI : (I, oI) ∈ news) (mH : (H, listOf hs c) ∈ news) (mD : (D, oD) ∈ news) (m1 : (a, tupO #[hv, .ref ls, .ref lw, .bool star] n) ∈ news) (m2 : (ls, listOf xs ci) ∈ news) (m3 : (lw, listOf ys cj) ∈ news) (mo : ∀ p ∈ old, p ∈ news)
    (hq : ∀ p ∈ (I, oI) :: (H, oH') :: (D, oD) :: old, p.1 ≠ a0 ∧ p.1 ≠ ls ∧ p.1 ≠ lw) (haH : @Ne Nat a H) (oH : ∀ p ∈ old, @Ne Nat p.1 H) (n2 : @Ne Nat H I ∧ @Ne Nat D I ∧ @Ne Nat D H) (hz : hs.size ≤ sizeLine)
    (h : ∀ h', Fr h₀ L h' m → News h₀ L h' ((I, oI) :: (H, listOf (hs.push (.ref a)) (c + 1)) :: (D, oD) :: (a, tupO #[hv, .ref ls, .ref lw, .bool star] n) :: (ls, listOf xs ci) :: (lw, listOf ys cj) :: old) → Q .none { s with heap := h' }) :
    wpAny (model prog w) A (call (.builtin "list.append") [.ref H, .ref a]) Q E s := by
  have q := hq (H, oH') (.tail _ (.head _))
  refine append_K (its := hs) (n := c) (news := (I, oI) :: (H, listOf hs c) :: (D, oD) :: (a, tupO #[hv, .ref ls, .ref lw, .bool star] n) :: (ls, listOf xs ci) :: (lw, listOf ys cj) :: old) F (News.sub N fun p hp => ?_) (Upd.tail (fun e => n2.1 e.symm) (Upd.head fun p hp => ?_)) h hz
  · rcases List.mem_cons.mp hp with rfl | hp
    · exact mI
    rcases List.mem_cons.mp hp with rfl | hp
    · exact mH
    rcases List.mem_cons.mp hp with rfl | hp
    · exact mD
    rcases List.mem_cons.mp hp with rfl | hp
    · exact m1
    rcases List.mem_cons.mp hp with rfl | hp
    · exact m2
    rcases List.mem_cons.mp hp with rfl | hp
    · exact m3
    exact mo p hp
  · rcases List.mem_cons.mp hp with rfl | hp
    · exact n2.2.2
    rcases List.mem_cons.mp hp with rfl | hp
    · exact haH
    rcases List.mem_cons.mp hp with rfl | hp
    · exact fun e => q.2.1 e.symm
    rcases List.mem_cons.mp hp with rfl | hp
    · exact fun e => q.2.2 e.symm
    exact oH p hp
theorem lturn2 {s : Shared} {I H D a a0 ls lw : Addr} {oI oD oH' : Obj} {m₀ m' : Str → Option Value} {i : Nat} {pl : Int} {tk : Nat} {dr : Drawn} {h' : Heap} {old : List (Addr × Obj)} {hs xs ys : Array Value} {c n ci cj : Nat} {l : List (Bool × Str)} {star : Bool} {hv : Value}
    (F : Fr h₀ L h' m') (N : News h₀ L h' ((I, oI) :: (H, listOf (hs.push (.ref a)) c) :: (D, oD) :: (a, tupO #[hv, .ref ls, .ref lw, .bool star] n) :: (ls, listOf xs ci) :: (lw, listOf ys cj) :: old))
    (hq : ∀ p ∈ (I, oI) :: (H, oH') :: (D, oD) :: old, p.1 ≠ a0 ∧ p.1 ≠ ls ∧ p.1 ≠ lw) (haH : @Ne Nat a H) (haI : @Ne Nat a I) (oH : ∀ p ∈ old, @Ne Nat p.1 H) (n2 : @Ne Nat H I ∧ @Ne Nat D I ∧ @Ne Nat D H) (oI' : ∀ p ∈ old, @Ne Nat p.1 I)
    (O : OldOk i hs old) (hi : i = 0 ∧ pl = 0 ∨ i = 1 ∧ pl = 6) (q1 : StrsAre xs.toList (sOf l)) (q2 : StrsAre ys.toList (wOf l)) (q3 : HdrOf hv l star) (q4 : l.length ≤ 4) (q5 : ∀ y ∈ l, TagX y.2) (q6 : star = true → pl = 0)
    (hr : ∀ z, lawSto.contains z = false → m' z = m₀ z) :
    TurnEnd h₀ L s I oI (LJ H D oD m₀ (i + 1)) .next { s with heap := h', toks := tk, drawn := dr } := by
  have q := hq (H, oH') (.tail _ (.head _))
  have r := hq (I, oI) (.head _)
  exact lturn F N (fun _ h => h) ⟨n2.2.2, haH, fun e => q.2.1 e.symm, fun e => q.2.2 e.symm⟩ oH ⟨n2.1, n2.2.1, haI, fun e => r.2.1 e.symm, fun e => r.2.2 e.symm⟩ oI' O hi q1 q2 q3 q4 q5 q6 hr
theorem law_ne {z : Str} (h : lawSto.contains z = false) : z ≠ Str.ofString "place" ∧ z ≠ Str.ofString "header" ∧ z ≠ Str.ofString "strong" ∧ z ≠ Str.ofString "weak" ∧ z ≠ Str.ofString "star" ∧ z ≠ Str.ofString "told" ∧ z ≠ Str.ofString "again" := by
  simpa [lawSto] using h
end
theorem setS_iff {l : List (Bool × Str)} : ∀ y, y ∈ sOf l ↔ InS l y := fun _ => Iff.rfl
theorem setSW_iff {l : List (Bool × Str)} : ∀ y, y ∈ sOf l ++ wOf l ↔ InSW l y := fun _ => List.mem_append
theorem setW_iff {l : List (Bool × Str)} : ∀ y, y ∈ wOf l ↔ InW l y := fun _ => Iff.rfl
theorem le4S {l : List (Bool × Str)} (h : l.length ≤ 4) : (sOf l).length ≤ 4 := by have := sw_len l; omega
theorem le4SW {l : List (Bool × Str)} (h : l.length ≤ 4) : (sOf l ++ wOf l).length ≤ 4 := by have := sw_len l; rw [List.length_append]; omega
theorem le100 {l : List (Bool × Str)} (h : l.length ≤ 4) : (sOf l).length + (wOf l).length ≤ 100 := by have := sw_len l; omega
theorem units_top (env : Env) : (callerA.deeper env).units + 64 < cLine := by have := (room_top env).hu; omega
theorem units_top0 (env : Env) : (callerA.deeper env).units < cLine := by have := (room_top env).hu; omega
section
variable {prog : Program} {w : World} {A : Around} {E : Value → Shared → Prop} {s : Shared} {h₀ : Heap} {L : Addr} {m : Str → Option Value} {news : List (Addr × Obj)}
theorem bool_K {B : Bool} {Q : Value → Shared → Prop} (F : Fr h₀ L s.heap m) (N : News h₀ L s.heap news)
    (h : ∀ h' tk dr, Fr h₀ L h' m → News h₀ L h' news → Q (.bool B) { s with heap := h', toks := tk, drawn := dr }) : Out s (fun _ v => v = .bool B) Q := by
  rintro h' tk dr v k rfl
  exact h h' tk dr (Fr.ext F k) (News.ext N k)
/-- where the ways of an «or» meet -/
def JEnd (h₀ : Heap) (L : Addr) (m : Str → Option Value) (news : List (Addr × Obj)) (s : Shared) (B : Bool) (v : Value) (s' : Shared) : Prop :=
  ∃ h' tk dr, s' = { s with heap := h', toks := tk, drawn := dr } ∧ Fr h₀ L h' m ∧ News h₀ L h' news ∧ v = .bool B
theorem eval_join {M : Model} {c : Sem Value} {Q : Value → Shared → Prop} (m : Str → Option Value) (news : List (Addr × Obj)) (B : Bool) (h1 : wpAny M A c (JEnd h₀ L m news s B) E s)
    (h2 : ∀ h' tk dr, Fr h₀ L h' m → News h₀ L h' news → Q (.bool B) { s with heap := h', toks := tk, drawn := dr }) : wpAny M A c Q E s :=
  wpAny_mono h1 (fun v s' h => by obtain ⟨h', tk, dr, rfl, F, N, rfl⟩ := h; exact h2 h' tk dr F N) fun _ _ e => e
theorem join_alone {c : Sem Value} {M : Model} {y : Str} {t : Tok} {Q : Value → Shared → Prop} (F : Fr h₀ L s.heap m) (N : News h₀ L s.heap news) (hy : m (Str.ofString "tag") = some (.str y t)) (l : List (Bool × Str)) (star : Bool) (h1 : wpAny M A c (JEnd h₀ L m news s (star || decide (y ∈ sOf l ++ wOf l))) E s)
    (h2 : ∀ h' tk dr, Fr h₀ L h' m → News h₀ L h' news → Q (.bool (star || decide (y ∈ sOf l ++ wOf l))) { s with heap := h', toks := tk, drawn := dr }) : wpAny M A c Q E s := eval_join m news _ h1 h2
theorem join_due {c : Sem Value} {M : Model} {y : Str} {t : Tok} {Q : Value → Shared → Prop} (F : Fr h₀ L s.heap m) (N : News h₀ L s.heap news) (hy : m (Str.ofString "tag") = some (.str y t)) (l : List (Bool × Str)) (h1 : wpAny M A c (JEnd h₀ L m news s ((sOf l ++ wOf l).isEmpty || decide (y ∈ sOf l))) E s)
    (h2 : ∀ h' tk dr, Fr h₀ L h' m → News h₀ L h' news → Q (.bool ((sOf l ++ wOf l).isEmpty || decide (y ∈ sOf l))) { s with heap := h', toks := tk, drawn := dr }) : wpAny M A c Q E s := eval_join m news _ h1 h2
theorem JEnd.mk {news' : List (Addr × Obj)} {B B' : Bool} {h' : Heap} {tk : Nat} {dr : Drawn} (F : Fr h₀ L h' m) (N : News h₀ L h' news') (sub : ∀ p ∈ news, p ∈ news') (e : B' = B) : JEnd h₀ L m news s B (.bool B') { s with heap := h', toks := tk, drawn := dr } := by
  subst e
  exact ⟨h', tk, dr, rfl, F, News.sub N sub, rfl⟩
theorem orL {b c : Bool} (h : b = true) : b = (b || c) := by rw [h]; rfl
theorem orT {b c : Bool} (h : b = true) : true = (b || c) := by rw [h]; rfl
theorem orR {b c : Bool} (h : b = false) : c = (b || c) := by rw [h]; rfl
theorem orN {b c : Bool} (h : ¬ b = true) : c = (b || c) := by rw [Bool.not_eq_true] at h; rw [h]; rfl
theorem in_strs_K {D : Addr} {zs : Array Value} {n : Nat} {k : List Str} {x : Str} {t : Tok} {Q : Value → Shared → Prop} (N : News h₀ L s.heap news) (hm : (D, listOf zs n) ∈ news) (hz : StrsAre zs.toList k)
    (h : Q (.bool (decide (x ∈ k))) s) : wpAny (model prog w) A (compareOp .In (.str x t) (.ref D)) Q E s := by
  refine in_list_strs (news_list' N hm) hz ?_
  have e : (k.any fun y => y == x) = decide (x ∈ k) := by
    rw [Bool.eq_iff_iff]
    simp
  rw [e]; exact h
theorem eq_nil_K {D D2 : Addr} {zs : Array Value} {n n2 : Nat} {k : List Str} {Q : Value → Shared → Prop} (N : News h₀ L s.heap news) (hm : (D, listOf zs n) ∈ news) (hm2 : (D2, listOf #[] n2) ∈ news) (hz : StrsAre zs.toList k) (hok : ∀ y ∈ k, PyData.strOk y = true) (hu : A.units + 64 < cLine)
    (h : Q (.bool k.isEmpty) s) : wpAny (model prog w) A (compareOp .Eq (.ref D) (.ref D2)) Q E s := by
  refine eq_strs (news_list' N hm) (news_list' N hm2) hz .nil hok (fun _ hy => nomatch hy) hu ?_
  have e : decide (k = []) = k.isEmpty := by cases k <;> simp
  rw [e]; exact h
theorem neb_same {b c : Bool} {Q : Value → Shared → Prop} (e : b = c) (h : Q (.bool false) s) : wpAny (model prog w) A (compareOp .NotEq (.bool b) (.bool c)) Q E s := by
  subst e; exact neb_self h
theorem eqb_same {b c : Bool} {Q : Value → Shared → Prop} (e : b = c) (h : Q (.bool true) s) : wpAny (model prog w) A (compareOp .Eq (.bool b) (.bool c)) Q E s := by
  subst e; exact eq_bool (by simpa using h)
theorem alone_eq {l : List (Bool × Str)} {star : Bool} {y : Str} : (!(decide (y ∈ wOf l) || (star || decide (y ∈ sOf l)))) = !(star || decide (y ∈ sOf l ++ wOf l)) := by
  cases star <;> simp [List.mem_append, Bool.and_comm]
theorem due_eq {l : List (Bool × Str)} {y : Str} : (!(false || (!(sOf l).isEmpty || !(wOf l).isEmpty)) || decide (y ∈ sOf l)) = ((sOf l ++ wOf l).isEmpty || decide (y ∈ sOf l)) := by
  cases h1 : sOf l <;> cases h2 : wOf l <;> simp
theorem okl {l : List (Bool × Str)} (h : ∀ y ∈ l, TagX y.2) : ∀ y ∈ sOf l ++ wOf l, PyData.strOk y = true := fun y hy => okSW h y (List.mem_append.mp hy)
end
end Mine
end

section
open PySem PySem.W PySem.Calls PySem.Spec PyProof.Rows
set_option maxRecDepth 100000
set_option maxHeartbeats 8000000
namespace Mine
theorem str0_K {s : Shared} {h₀ : Heap} {L : Addr} {m : Str → Option Value} {news : List (Addr × Obj)} {x : Str} {Q : Value → Shared → Prop} (F : Fr h₀ L s.heap m) (N : News h₀ L s.heap news)
    (h : ∀ h' tk dr t', Fr h₀ L h' m → News h₀ L h' news → Q (.str x t') { s with heap := h', toks := tk, drawn := dr }) : Out s (fun _ v => ∃ t', v = .str x t') Q := by
  rintro h' tk dr v k ⟨t', rfl⟩
  exact h h' tk dr t' (Fr.ext F k) (News.ext N k)
local macro_rules | `(tactic| walk_at "m:X") => `(tactic| exact Frag.In.keeps (by assumption) (Fr.keep (by assumption)))
local macro_rules | `(tactic| walk_at "m:T") => `(tactic| exact Top.keeps (by assumption) (Fr.keep (by assumption)))
local macro_rules | `(tactic| walk_at "m:R1") => `(tactic| exact Room.one (Room2.zero (Room3.two (room_top _))))
local macro_rules | `(tactic| walk_at "m:R0") => `(tactic| exact Room2.zero (Room3.two (room_top _)))
local macro_rules | `(tactic| walk_at "m:R2") => `(tactic| exact Room3.two (room_top _))
local macro_rules | `(tactic| walk_at "m:R3") => `(tactic| exact room_top _)
local macro_rules | `(tactic| walk_at "call ref") => `(tactic| (k_here; k_dflt (first
  | (refine' law_at_spec ?k1 ?k2 ?k3 ?k4 ?k7 ?k8 ?k9 (int_K ?kF ?kN ?_); (case k1 => exact Fr.lst (by assumption) (by assumption)); (case k2 => assumption); (case k3 => omega); (case k4 => omega); (case k7 => walk_at "m:R1"); (case k8 => walk_at "m:X"); (case k9 => walk_at "m:T"); (case kF => k_asm); (case kN => k_asm); k_whole; intro h' tk' dr' r' t' F' N' k'; (try k_sweep))
  | (refine' law_tag_spec ?k7 ?k8 ?k9 (str0_K ?kF ?kN ?_); (case k7 => walk_at "m:R1"); (case k8 => walk_at "m:X"); (case k9 => walk_at "m:T"); (case kF => k_asm); (case kN => k_asm); k_whole; intro h' tk' dr' t' F' N'; (try k_sweep))
  | (refine' quote_spec ?k6 ?k7 ?k8 ?k9 (str0_K ?kF ?kN ?_); (case k6 => exact tagS_ok _); (case k7 => walk_at "m:R1"); (case k8 => walk_at "m:X"); (case k9 => walk_at "m:T"); (case kF => k_asm); (case kN => k_asm); k_whole; intro h' tk' dr' t' F' N'; (try k_sweep))
  | (refine' unq_tag ?k6 ?k7 ?k8 ?k9 (unq_K ?kF ?kN ?_); (case k6 => exact tagS_ok _); (case k7 => walk_at "m:R1"); (case k8 => walk_at "m:X"); (case k9 => walk_at "m:T"); (case kF => k_asm); (case kN => k_asm); k_whole; intro a' t' n' h' tk' dr' F' N' l1 k')
  | (refine' header_spec ?k1 ?k2 ?k3 ?k4 ?k7 ?k8 ?k9 (hdr_K ?kF ?kN ?_); (case k1 => exact Fr.lst (by assumption) (by assumption)); (case k2 => assumption); (case k3 => omega); (case k4 => assumption); (case k7 => walk_at "m:R0"); (case k8 => walk_at "m:X"); (case k9 => walk_at "m:T"); (case kF => k_asm); (case kN => k_asm); k_whole; intro a' ls' lw' hv' xs' ys' i' j' n' l' star' h' tk' dr' F' N' hq' g1' g2' g3' g4' g5' g6'; (try k_sweep))
  | (refine' parse_K ?k1 ?k2 ?k3 ?k7 ?k8 ?k9 ?kF ?kN ?_; (case k1 => assumption); (case k2 => first | assumption | exact setS_iff); (case k3 => first | assumption | exact setW_iff); (case k7 => walk_at "m:R2"); (case k8 => assumption); (case k9 => assumption); (case kF => k_asm); (case kN => k_asm); k_whole; intro x' d' fs' fw' o1' o2' t1' t2' t3' S' W' h' tk' dr' F' N' S1' S2' e1' e2' l1'; (try k_sweep))
  | (refine' asset_K ?k7 ?k8 ?k9 ?kF ?kN ?m1 ?m2 ?m3 ?m4 ?s1 ?s2 ?e1 ?_; (case k7 => walk_at "m:R0"); (case k8 => assumption); (case k9 => assumption); (case kF => k_asm); (case kN => k_asm); (case m1 => k_mem); (case m2 => k_mem); (case m3 => k_mem); (case m4 => k_mem); (case s1 => assumption); (case s2 => assumption); (case e1 => assumption); k_whole; intro b' h' tk' dr' o' l' F' N' S' hs'; (try k_sweep))
  | (refine' assetw_K ?k7 ?k8 ?k9 ?kF ?kN ?m1 ?m2 ?m3 ?m4 ?s1 ?s2 ?e1 ?e2 ?l4 ?_; (case k7 => walk_at "m:R0"); (case k8 => assumption); (case k9 => assumption); (case kF => k_asm); (case kN => k_asm); (case m1 => k_mem); (case m2 => k_mem); (case m3 => k_mem); (case m4 => k_mem); (case s1 => assumption); (case s2 => assumption); (case e1 => assumption); (case e2 => assumption); (case l4 => assumption); k_whole; intro b' h' tk' dr' o' l' F' N' S' hs'; (try k_sweep))
  | (refine' toh_K ?kH ?ko ?k7 ?k8 ?k9 ?kF ?kN ?m1 ?m2 ?m3 ?m4 ?s1 ?s2 ?e1 ?e2 ?l4 ?_; (case k7 => walk_at "m:R0"); (case k8 => assumption); (case k9 => assumption); (case kF => k_asm); (case kN => k_asm); (case m1 => k_mem); (case m2 => k_mem); (case m3 => k_mem); (case m4 => k_mem); (case s1 => assumption); (case s2 => assumption); (case e1 => assumption); (case e2 => assumption); (case l4 => assumption); (case kH => assumption); (case ko => assumption); k_whole; intro v' l' h' tk' dr' F' N' H' g1' g2'; (try k_sweep))
  | (refine' quote_spec0 ?k6 ?k7 ?k8 ?k9 (str0_K ?kF ?kN ?_); (case k6 => exact tagS_ok _); (case k7 => walk_at "m:R1"); (case k8 => walk_at "m:X"); (case k9 => walk_at "m:T"); (case kF => k_asm); (case kN => k_asm); k_whole; intro h' tk' dr' t' F' N'; (try k_sweep))
  | (refine' irm_none ?k1 ?k6 ?k7 ?k8 ?k9 (bool_K ?kF ?kN ?_); (case k1 => assumption); (case k6 => exact tagS_ok _); (case k7 => walk_at "m:R3"); (case k8 => walk_at "m:X"); (case k9 => walk_at "m:T"); (case kF => k_asm); (case kN => k_asm); k_whole; intro h' tk' dr' F' N'; (try k_sweep))
  | (refine' irm_both ?k1 ?k6 ?k7 ?k8 ?k9 (bool_K ?kF ?kN ?_); (case k1 => assumption); (case k6 => exact tagS_ok _); (case k7 => walk_at "m:R3"); (case k8 => walk_at "m:X"); (case k9 => walk_at "m:T"); (case kF => k_asm); (case kN => k_asm); k_whole; intro h' tk' dr' F' N'; (try k_sweep))
  | (refine' irm_match ?k1 ?k6 ?k7 ?k8 ?k9 (bool_K ?kF ?kN ?_); (case k1 => assumption); (case k6 => exact tagS_ok _); (case k7 => walk_at "m:R3"); (case k8 => walk_at "m:X"); (case k9 => walk_at "m:T"); (case kF => k_asm); (case kN => k_asm); k_whole; intro h' tk' dr' F' N'; (try k_sweep))
  | (refine' irm_range ?k1 ?k6 ?k5 ?k7 ?k8 ?k9 (bool_K ?kF ?kN ?_); (case k1 => decide); (case k6 => exact tagS_ok _); (case k5 => exact tagS_ok _); (case k7 => walk_at "m:R3"); (case k8 => walk_at "m:X"); (case k9 => walk_at "m:T"); (case kF => k_asm); (case kN => k_asm); k_whole; intro h' tk' dr' F' N'; (try k_sweep))
  | (refine Hold.mk ?_))))
local macro_rules | `(tactic| walk_at "exec For Name Tuple cons nil") => `(tactic| (k_here; (with_reducible show wpAny _ _ (exec (Stmt.For _ _ _ _ _) _) _ _ _); refine Hold.mk ?_))
local macro_rules | `(tactic| walk_at "eval Call") => `(tactic| (k_here; first | ((with_reducible show wpAny _ _ (eval (Expr.Call (Expr.Name _ _) _ (_ :: _) _) _) _ _ _); refine wpAny_Call_Name_kw ?_) | (k_dflt (refine Call_ ?_))))
local macro_rules | `(tactic| walk_at "eval Call Attribute") => `(tactic| (k_here; first | ((with_reducible show wpAny _ _ (eval (Expr.Call (Expr.Attribute _ _ _) _ (_ :: _) _) _) _ _ _); refine methodCall_KW ?_) | refine MethodCall_ ?_))
local macro_rules | `(tactic| walk_at "m:sub") => `(tactic| ((repeat (refine' List.forall_mem_cons.mpr ⟨?_, ?_⟩; rotate_left; (try exact List.forall_mem_nil _))); all_goals k_mem))
local macro_rules | `(tactic| walk_at "m:loop") => `(tactic| (refine' law_loop ?z1 ?z2 ?z3 ?z4 ?z5 ?z6 ?_ ?_ ?z9; (case z1 => rfl); (case z2 => rfl); (case z3 => rfl); (case z4 => k_asm); (case z9 => passes_own); (case z5 => (refine' News.sub ?zN ?zs; (case zN => k_asm); (case zs => walk_at "m:sub"))); (case z6 => k_ne)))
local macro_rules | `(tactic| walk_at "compareOp NotEq ref ref") => `(tactic| (k_here; (with_reducible show wpAny _ _ (compareOp CmpOp.NotEq (Value.ref _) (Value.ref _)) _ _ _); k_dflt (first
  | (refine' ne_sorted_K ?k1 ?k2 ?k3 ?s1 ?s2 ?k4 ?k5 ?_; (case k1 => k_asm); (case k2 => k_mem); (case k3 => k_mem); (case s1 => assumption); (case s2 => assumption); (case k4 => first | exact okS (by assumption) | exact okSW (by assumption)); (case k5 => exact units_top _); k_whole)
  | (refine' ne_set_K ?k1 ?k2 ?k3 ?k5 ?s1 ?s2 ?e1 ?e2 ?_; (case k1 => k_asm); (case k2 => k_mem); (case k3 => k_mem); (case s1 => assumption); (case s2 => assumption); (case e1 => assumption); (case e2 => assumption); (case k5 => exact units_top0 _); k_whole)
  | (refine' ne_pair_K ?k1 ?k2 ?k3 ?k4 ?k5 ?_; (case k1 => k_asm); (case k2 => k_mem); (case k3 => k_mem); (case k4 => exact (tagS_okx _).2); (case k5 => exact units_top _); k_whole))))
local macro_rules | `(tactic| walk_at "compareOp NotEq bool bool") => `(tactic| first | with_reducible refine neb_self ?_ | (refine' neb_same ?e ?_; (case e => exact alone_eq); k_whole) | with_reducible refine ne_bool ?_)
local macro_rules | `(tactic| walk_at "compareOp Eq bool bool") => `(tactic| first | (refine' eqb_same ?e ?_; (case e => first | exact due_eq | rfl); k_whole) | with_reducible refine eq_bool ?_)
local macro_rules | `(tactic| walk_at "compareOp Eq ref ref") => `(tactic| (k_here; (with_reducible show wpAny _ _ (compareOp CmpOp.Eq (Value.ref _) (Value.ref _)) _ _ _); k_dflt (refine' eq_nil_K ?k1 ?k2 ?k3 ?k4 ?k5 ?k6 ?_; (case k1 => k_asm); (case k2 => k_mem); (case k3 => k_mem); (case k4 => assumption); (case k5 => exact okl (by assumption)); (case k6 => exact units_top _); k_whole)))
local macro_rules | `(tactic| walk_at "compareOp In str ref") => `(tactic| (k_here; k_dflt (refine' in_strs_K ?k1 ?k2 ?k3 ?_; (case k1 => k_asm); (case k2 => k_mem); (case k3 => assumption); k_whole)))
local macro_rules | `(tactic| walk_at "eval BoolOp") => `(tactic| (k_here; (with_reducible show wpAny _ _ (eval (Expr.BoolOp BoolOp.Or (_ :: _ :: _) _) _) _ _ _); refine Hold.mk ?_))
local macro_rules | `(tactic| walk_at "call type:set") => `(tactic| (k_here; k_dflt (refine' set_has_K ?hp ?k1 ?k2 ?k3 ?k4 ?k5 ?k6 ?_; (case k1 => k_asm); (case k2 => k_asm); (case k3 => k_mem); (case k4 => rfl); (case k5 => assumption); (case k6 => first | exact le4S (by assumption) | exact le4SW (by assumption)); (case hp => first | exact setS_iff | exact setSW_iff); k_whole; intro b' h' tk' dr' o' l' F' N' S' hs')))
local macro_rules | `(tactic| walk_at "call builtin:sorted") => `(tactic| (k_here; k_dflt (refine' sorted_K ?k1 ?k2 ?k3 ?k4 ?k5 ?k6 ?_; (case k1 => k_asm); (case k2 => k_asm); (case k3 => k_mem); (case k4 => rfl); (case k5 => assumption); (case k6 => assumption); k_whole; intro b' h' tk' dr' o' F' N' so')))
local macro_rules | `(tactic| walk_at "binaryOp Add ref ref") => `(tactic| (k_here; k_dflt (refine' add_strs_K ?k1 ?k2 ?k3 ?k4 ?k5 ?k6 ?k7 ?_; (case k1 => k_asm); (case k2 => k_asm); (case k3 => exact news_list (by k_asm) (by k_mem)); (case k4 => exact news_list (by k_asm) (by k_mem)); (case k5 => assumption); (case k6 => assumption); (case k7 => exact le100 (by assumption)); k_whole; intro D' h' zs' F' N' l1' hz')))
local macro_rules | `(tactic| walk_at "call builtin:list.append") => `(tactic| (k_here; (with_reducible show wpAny _ _ (call (Value.builtin _) [Value.ref _, _]) _ _ _); refine Hold.mk ?_))
local macro_rules | `(tactic| walk_at "m:jend") => `(tactic| (refine' JEnd.mk ?jF ?jN ?js ?je; (case jF => assumption); (case jN => assumption); (case js => walk_at "m:sub"); (case je => first | exact orL (by assumption) | exact orT (by assumption) | exact orR (by assumption) | exact orN (by assumption))))
theorem law0 : PySem.Challenge.rw_ez0425_01.Holds := hd (by
  k_go0
  (all_goals try k_fold)
  k_steps
  refine Hold.of ?_
  refine wpAny_For ?_ (by intro _; rfl)
  k_steps
  walk_at "m:loop"
  · intro i pl u hs ci old h tk dr I oI t hi hpl O n1 n2 n3 F N
    try k_fold
    k_sweep
    k_steps
    refine Hold.of ?_
    refine' lappend (I := I) (oI := oI) (old := old) ?aF ?aN ?aI ?aH ?aD ?a1 ?a2 ?a3 ?ao ?aq ?an ?ah ?az ?as ?_
    case aF => k_asm
    case aN => k_asm
    case aI => k_mem
    case aH => k_mem
    case az => exact n2
    case aD => k_mem
    case a1 => k_mem
    case a2 => k_mem
    case a3 => k_mem
    case ao =>
      intro p hp
      repeat (first | exact hp | refine List.Mem.tail _ ?_)
    case aq => assumption
    case an => k_ne
    case ah => exact n1
    case as => exact O.size
    intro h' F' N'
    k_steps
    refine' lturn2 ?bF ?bN ?bq ?b1 ?b2 ?b3 ?b4 ?b5 O hi ?c1 ?c2 ?c3 ?c4 ?c5 ?c6 ?cr
    case bF => assumption
    case bN => assumption
    case bq => assumption
    case b1 => k_ne
    case b2 => k_ne
    case b3 => exact n1
    case b4 => exact n2
    case b5 => exact n3
    case c1 => assumption
    case c2 => assumption
    case c3 => assumption
    case c4 => assumption
    case c5 => assumption
    case c6 => assumption
    case cr =>
      intro z hz
      obtain ⟨y1, y2, y3, y4, y5, y6, y7⟩ := law_ne hz
      simp [y1, y2, y3, y4, y5, y6, y7]
  · intro h' tk dr u hs ci old F N O
    obtain ⟨q, _⟩ | ⟨q, _⟩ | ⟨_, v0, own0, v1, own1, ⟨a0, ls0, lw0, hv0, xs0, ys0, i0, j0, n0, l0, st0, rfl, rfl, g1, g2, g3, g4, g5, g6⟩, ⟨a1, ls1, lw1, hv1, xs1, ys1, i1, j1, n1, l1, st1, rfl, rfl, k1, k2, k3, k4, k5, k6⟩, rfl, rfl⟩ := O
    · omega
    · omega
    obtain rfl : st1 = false := by
      cases st1 with
      | false => rfl
      | true => exact absurd (k6 rfl) (by decide)
    dsimp only [List.cons_append, List.nil_append] at N
    try k_fold
    k_sweep
    k_steps
    refine Hold.of ?_
    refine join_alone (by k_asm) (by k_asm) rfl l0 st0 ?_ ?_
    · refine BoolOp_or ?_
      k_steps
      all_goals walk_at "m:jend"
    intro h' tk dr F' N'
    k_steps
    refine Hold.of ?_
    refine join_due (by k_asm) (by k_asm) rfl l1 ?_ ?_
    · refine BoolOp_or ?_
      k_steps
      all_goals walk_at "m:jend"
    intro h' tk dr F' N'
    k_steps)
end Mine
end

theorem PySem.Challenge.cw_ez0425_01_holds : PySem.Challenge.rw_ez0425_01.Holds :=
  Mine.law0
