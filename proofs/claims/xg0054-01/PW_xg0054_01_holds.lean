import PyProof.Rows.All
import Wide.All
import OpenK.AllK
import Wide.FinOn
import PySem.Challenge.RW_xg0054_01
set_option Elab.async false
set_option compiler.extract_closed false
set_option rowWalk.seconds 0
namespace Mine
section -- HD
open PySem PySem.W PyProof.Rows
set_option maxRecDepth 100000
set_option maxHeartbeats 8000000
open_top hd for PySem.Challenge.rw_xg0054_01
end
section -- B0
open PySem PySem.W PyProof.Rows
abbrev Nws := List (Addr × Obj)
end
open PySem PySem.W PyProof.Rows PySem.Calls
section -- B1
open PySem PySem.W PyProof.Rows PySem.Calls
set_option maxRecDepth 100000


/-- what a call of the def at f hands back, from any caller's frame -/
noncomputable def Tel (w : World) (f : Addr) (deep : Nat) (vs : List Value) (pre : Heap → Prop) (post : Value → Nws → Prop) : Prop :=
  ∀ (mean : ExcName → Option Value) (mg mb : Str → Option Value) (dp un : Nat) (gd : Option (List Code)) (cn : Str) (cs : Scope) (a : Addr) (ccd : Value) (cl : List (Str × Addr)) (outer : List Env) (A₀ : Around) (base h₀ : Heap) (L : Addr) (m : Str → Option Value) (news : Nws) (s : Shared) (Q E : Value → Shared → Prop),
    Below A₀ base outer h₀ → Fr h₀ L s.heap m → (hd.heap_39 w.params).In h₀ → News h₀ L s.heap news → Top hd.view_39 (looseW hd.view_39 [Str.ofString "IPV4_RE"]) mean mg mb h₀ → cs.kind = .function →
      pre s.heap → dp + deep < recursionLimit → un + 8 * deep < cLine →
      (∀ (v : Value) (h' : Heap) (tk' : Nat) (tl : Nws), Fr h₀ L h' m → News h₀ L h' (tl ++ news) → (∀ p ∈ tl, ∀ q ∈ news, q.1 ≠ p.1) → post v tl → Q v { s with heap := h', toks := tk' }) →
      wpAny (model PySem.Challenge.rw_xg0054_01.row.prog w) (ktrTop dp un gd cn cs L a ccd cl outer) (call (.ref f) vs) Q E s

/-- where the walk of a body must come to -/
noncomputable def FinC (g : Heap) (s : Shared) (post : Value → Nws → Prop) (v : Value) (s' : Shared) : Prop :=
  ∃ h' tk' L' m' led, s' = { s with heap := h', toks := tk' } ∧ Fr g L' h' m' ∧ News g L' h' led ∧ post v led
theorem FinC.intro {g : Heap} {s : Shared} {post : Value → Nws → Prop} {v : Value} {h' : Heap} {tk' : Nat} {L' : Addr} {m' : Str → Option Value} {led : Nws} (F : Fr g L' h' m') (N : News g L' h' led) (hp : post v led) :
    FinC g s post v { s with heap := h', toks := tk' } := ⟨h', tk', L', m', led, rfl, F, N, hp⟩
theorem FinC.nil {g : Heap} {s : Shared} {post : Value → Nws → Prop} {v : Value} {h' : Heap} {tk' : Nat} {L' : Addr} {m' : Str → Option Value} (F : Fr g L' h' m') (hp : post v []) :
    FinC g s post v { s with heap := h', toks := tk' } := .intro F News.nil hp
noncomputable def retOf : Flow → Value
  | .ret v => v
  | _ => .none

theorem fin_leave {h₀ : Heap} {L : Addr} {m : Str → Option Value} {news : Nws} {s s₁ s' : Shared} {post : Value → Nws → Prop} {v : Value} {Q : Value → Shared → Prop}
    (F : Fr h₀ L s.heap m) (N : News h₀ L s.heap news) (h1 : s₁ = { s with heap := s₁.heap, toks := s₁.toks })
    (hQ : ∀ (v : Value) (h' : Heap) (tk' : Nat) (tl : Nws), Fr h₀ L h' m → News h₀ L h' (tl ++ news) → (∀ p ∈ tl, ∀ q ∈ news, q.1 ≠ p.1) → post v tl → Q v { s with heap := h', toks := tk' })
    (hf : FinC s.heap s₁ post v s') : Q v s' := by
  obtain ⟨h', tk', L', m', led, rfl, F', N', hp⟩ := hf
  rw [h1]
  refine hQ v h' tk' led (F.keeps F'.keep) (fun p hp => ?_) (fun p hp q hq => ?_) hp
  · rcases List.mem_append.mp hp with hp | hp
    · refine ⟨(N' p hp).1, fun q => ?_, ?_⟩
      · obtain ⟨oL, _, _, hL, _⟩ := F.ns
        have := (N' p hp).2.2; rw [q, hL] at this; cases this
      · cases q : h₀.get? p.1 with
        | none => rfl
        | some o => have := (N' p hp).2.2; rw [F.keep _ _ q] at this; cases this
    · exact ⟨F'.keep _ _ (N p hp).1, (N p hp).2⟩
  · intro e
    have h3 := (N q hq).1
    rw [e, (N' p hp).2.2] at h3; cases h3

theorem tel_plain {w : World} {f : Addr} {deep : Nat} {vs : List Value} {pre : Heap → Prop} {post : Value → Nws → Prop} {name qual : Str} {params : Arguments} {body : List Stmt} {scope : Scope} {dV kV doc pm cdv ct oc : Value} {an od : Option Addr} {osl : Array (Option Value)} (binds : List (Str × Value))
    (ho : (hd.heap_39 w.params).lookup f = some ⟨oc, od, .func (fnOf name qual params body scope dV kV doc pm an cdv ct), osl⟩) (hcd : codeIn (hd.heap_39 w.params) cdv qual = true)
    (hbind : ∀ s, BindsTo s (fnOf name qual params body scope dV kV doc pm an cdv ct) ⟨vs, []⟩ binds) (hloc : ∀ y ∈ binds, scope.names.lookup y.1 = some .local)
    (hcell : ∀ x ∈ scope.names, x.2 ≠ .cell) (hco : scope.isCoroutine = false) (hgen : scope.isGenerator = false) (hk : scope.kind = .function)
    (h : ∀ (mean : ExcName → Option Value) (mg mb : Str → Option Value) (dp un : Nat) (gd : Option (List Code)) (outer : List Env) (A₀ : Around) (base g : Heap) (L : Addr) (s : Shared),
      Below A₀ base outer g → Fr g L s.heap (fun y => binds.reverse.lookup y) → (hd.heap_39 w.params).In g → News g L s.heap [] → Top hd.view_39 (looseW hd.view_39 [Str.ofString "IPV4_RE"]) mean mg mb g → pre g → dp + deep < recursionLimit → un + 8 * deep < cLine →
      wpAny (model PySem.Challenge.rw_xg0054_01.row.prog w) (ktrTop dp un gd qual scope L f cdv [] outer) (execs body (envOf qual scope L f cdv)) (fun fl s' => FinC g s post (retOf fl) s') (fun _ _ => False) s) : Tel w f (deep + 1) vs pre post := by
  intro mean mg mb dp un gd cn cs a ccd cl outer A₀ base h₀ L m news s Q E B F X N T hkc hpre hdp hu hret
  refine wpAny_call ?_
  have XG : (hd.heap_39 w.params).In s.heap := X.keeps F.keep
  have B₁ := pushX (env := envX cn cs L a ccd cl) B F rfl hkc
  have BG : Below (ktrTop dp un gd cn cs L a ccd cl outer) base (envX cn cs L a ccd cl :: outer) s.heap := ⟨rfl, B₁.stays, B₁.frames⟩
  refine codeAny_call_def (fd := fnOf name qual params body scope dV kV doc pm an cdv ct) (body := body) (binds := binds) (by show dp < recursionLimit; omega) (XG _ _ ho) rfl (T.nolimit.keeps F.keep) (codeRec_of XG hcd) rfl (hbind s) hcell hloc (fun h₁ hns hk₁ => ?_) hco hgen hk
  refine wpAny_mono (h mean mg mb (dp + 1) (un + 3) gd (envX cn cs L a ccd cl :: outer) _ base s.heap s.heap.objs.size { s with heap := h₁, toks := s.toks + binds.length } BG ⟨hns, hk₁, Nat.le_refl _⟩ XG News.nil (T.keeps F.keep) hpre (by omega) (by omega)) (fun fl s' hl => ?_) fun _ _ y => y.elim
  exact fin_leave F N rfl hret hl

theorem tel_cells {w : World} {f : Addr} {deep : Nat} {vs : List Value} {pre : Heap → Prop} {post : Value → Nws → Prop} {name qual : Str} {params : Arguments} {body : List Stmt} {scope : Scope} {dV kV doc pm cdv ct oc : Value} {an od : Option Addr} {osl : Array (Option Value)} (binds : List (Str × Value))
    (ho : (hd.heap_39 w.params).lookup f = some ⟨oc, od, .func (fnOf name qual params body scope dV kV doc pm an cdv ct), osl⟩) (hcd : codeIn (hd.heap_39 w.params) cdv qual = true)
    (hbind : ∀ s, BindsTo s (fnOf name qual params body scope dV kV doc pm an cdv ct) ⟨vs, []⟩ binds)
    (hkind : (binds.all fun y => scope.names.lookup y.1 == some .local || scope.names.lookup y.1 == some .cell) = true)
    (hnd : ((cellsFrom 0 scope.names []).map (·.1)).Nodup) (hco : scope.isCoroutine = false) (hgen : scope.isGenerator = false) (hk : scope.kind = .function)
    (h : ∀ (mean : ExcName → Option Value) (mg mb : Str → Option Value) (dp un : Nat) (gd : Option (List Code)) (outer : List Env) (A₀ : Around) (base g : Heap) (L : Addr) (s : Shared) (cells : Nws),
      Below A₀ base outer g → Fr g L s.heap (bindL (envOfC qual scope L f cdv).kindOf binds fun _ => none) → (hd.heap_39 w.params).In g → News g L s.heap cells →
      CellsAre (bindC (envOfC qual scope L f cdv).kindOf binds fun _ => none) (cellsFrom (L + 1) scope.names []) cells → Top hd.view_39 (looseW hd.view_39 [Str.ofString "IPV4_RE"]) mean mg mb g → pre g → dp + deep < recursionLimit → un + 8 * deep < cLine →
      wpAny (model PySem.Challenge.rw_xg0054_01.row.prog w) (ktrTop dp un gd qual scope L f cdv (cellsFrom (L + 1) scope.names []) outer) (execs body (envOfC qual scope L f cdv)) (fun fl s' => FinC g s post (retOf fl) s') (fun _ _ => False) s) : Tel w f (deep + 1) vs pre post := by
  intro mean mg mb dp un gd cn cs a ccd cl outer A₀ base h₀ L m news s Q E B F X N T hkc hpre hdp hu hret
  refine wpAny_call ?_
  have XG : (hd.heap_39 w.params).In s.heap := X.keeps F.keep
  have B₁ := pushX (env := envX cn cs L a ccd cl) B F rfl hkc
  have BG : Below (ktrTop dp un gd cn cs L a ccd cl outer) base (envX cn cs L a ccd cl :: outer) s.heap := ⟨rfl, B₁.stays, B₁.frames⟩
  refine codeAny_call_function (by show dp < recursionLimit; omega) (XG _ _ ho) rfl hco hgen rfl (codeRec_of XG hcd) ((hbind s) _ _ _ _ ?_)
  refine wpAny_newFunctionEnv_cells hk (kindsX hkind _) fun env' he s' x => ?_
  subst he
  refine ⟨(T.nolimit.keeps F.keep).keeps x.toInCall.keep, codeAny_func ?_⟩
  obtain ⟨h₁, tk, rfl, _⟩ := x.done
  have hk₁ := x.toInCall.keep
  obtain ⟨cells, NC, Y⟩ := Cl.news (h₀ := s.heap) (Nat.le_refl _) fun n c hm => ⟨x.cell n c (lookup_of_mem_nodup (cellsFrom_names scope.names 0 (s.heap.objs.size + 1) [] [] rfl ▸ hnd) hm), x.above n c hm⟩
  refine wpAny_mono (h mean mg mb (dp + 1) (un + 3) gd (envX cn cs L a ccd cl :: outer) _ base s.heap s.heap.objs.size { s with heap := h₁, toks := tk } cells BG ⟨x.toInCall.ns, hk₁, Nat.le_refl _⟩ XG NC Y (T.keeps F.keep) hpre (by omega) (by omega)) (fun fl s' hl => ?_) fun _ _ y => y.elim
  exact fin_leave F N rfl hret hl
theorem Tel.use {w : World} {f : Addr} {deep : Nat} {vs : List Value} {pre : Heap → Prop} {post : Value → Nws → Prop} {mean : ExcName → Option Value} {mg mb : Str → Option Value} {dp un : Nat} {gd : Option (List Code)} {cn : Str} {cs : Scope} {a : Addr} {ccd : Value} {cl : List (Str × Addr)} {outer : List Env} {A₀ : Around} {base h₀ : Heap} {L : Addr} {m : Str → Option Value} {news : Nws} {s : Shared} {Q E : Value → Shared → Prop}
    (C : Tel w f deep vs pre post) (B : Below A₀ base outer h₀) (F : Fr h₀ L s.heap m) (X : (hd.heap_39 w.params).In h₀) (N : News h₀ L s.heap news) (T : Top hd.view_39 (looseW hd.view_39 [Str.ofString "IPV4_RE"]) mean mg mb h₀) (hk : cs.kind = .function)
    (hpre : pre s.heap) (hdp : dp + deep < recursionLimit) (hu : un + 8 * deep < cLine)
    (hret : ∀ (v : Value) (h' : Heap) (tk' : Nat) (tl : Nws), Fr h₀ L h' m → News h₀ L h' (tl ++ news) → (∀ p ∈ tl, ∀ q ∈ news, q.1 ≠ p.1) → post v tl → Q v { s with heap := h', toks := tk' }) :
    wpAny (model PySem.Challenge.rw_xg0054_01.row.prog w) (ktrTop dp un gd cn cs L a ccd cl outer) (call (.ref f) vs) Q E s :=
  C mean mg mb dp un gd cn cs a ccd cl outer A₀ base h₀ L m news s Q E B F X N T hk hpre hdp hu hret
end
local macro_rules | `(tactic| walk_at "MyPlain") => `(tactic| ((case' h => k_fill); (case ho => k_is); (case hcd => k_is); (case hb => exact fun s => BindsTo.of_eq rfl); (case hl => exact locs rfl); (case hc => decide); (case h1 => rfl); (case h2 => rfl); (case h3 => rfl)))
local macro_rules | `(tactic| walk_at "MyCells") => `(tactic| ((case' h => k_fill); (case ho => k_is); (case hcd => k_is); (case hb => exact fun s => BindsTo.of_eq rfl); (case hkk => exact rfl); (case hnd => decide +kernel); (case h1 => rfl); (case h2 => rfl); (case h3 => rfl)))
local macro_rules | `(tactic| walk_at "MyK") => `(tactic| ((case k1 => k_asm); (case k2 => k_asm); (case k3 => k_asm); (case k4 => k_asm); (case k5 => k_asm); (case k6 => rfl); (case k7 => first | decide | omega); (case k8 => first | decide | omega)))
local macro_rules | `(tactic| walk_at "MyA") => `(tactic| ((case a1 => assumption); (case a2 => assumption)))
local macro_rules | `(tactic| walk_at "MyV") => `(tactic| (intro v9 h9 tk9 tl9 F9 N9 ne9 p9; obtain ⟨e9, t9, e8⟩ := p9; subst e9; subst e8; simp only [List.nil_append] at N9; clear ne9; (try k_sweep)))
local macro_rules | `(tactic| walk_at "MyX") => `(tactic| (intro v9 h9 tk9 tl9 F9 N9 ne9 p9; obtain ⟨e9, e8⟩ := p9; subst e9; subst e8; simp only [List.nil_append] at N9; clear ne9; (try k_sweep)))
local macro_rules | `(tactic| walk_at "MyCj") => `(tactic| first | assumption | (apply And.left; iterate 12 (try first | assumption | apply And.right); done) | (iterate 12 (try first | assumption | apply And.right); done))
local macro_rules | `(tactic| k_ne) => `(tactic| (refine neN ?_; (try dsimp only); first | (with_reducible (first | walk_at "MyCj" | (apply Ne.symm; walk_at "MyCj") | (apply Nat.ne_of_lt; walk_at "MyCj") | (apply Nat.ne_of_gt; walk_at "MyCj"))) | omega))
section -- S1
open PySem PySem.W PyProof.Rows PySem.Calls
set_option maxRecDepth 100000
theorem az0 (i : Nat) : (0 : Int) ≤ 0 + (i : Int) := by rw [Int.zero_add]; exact Int.natCast_nonneg i
theorem az1 {i n : Nat} (h : i < n) : 0 + (i : Int) < (n : Int) := by rw [Int.zero_add]; exact Int.ofNat_lt.mpr h
theorem az2 (i : Nat) : (0 + (i : Int)).toNat = i := by rw [Int.zero_add, Int.toNat_natCast]
theorem an1 (j : Nat) : (0 + (j : Int) + 1).toNat = j + 1 := by rw [Int.zero_add, ← Int.natCast_succ, Int.toNat_natCast]
theorem an2 (j : Nat) : (0 + (j : Int) - 1).toNat = j - 1 := by rw [Int.zero_add]; exact Int.toNat_sub j 1
theorem an3 (n : Nat) : (-1 + (n : Int)).toNat = n - 1 := by rw [Int.add_comm]; exact Int.toNat_sub n 1
abbrev S (l : List Nat) : Str := ⟨l.toArray⟩
abbrev lo : Nat → Nat := lo1
theorem S_len (l : List Nat) : (S l).length = l.length := by simp [Str.length]
theorem S_app (a b : List Nat) : S a ++ S b = S (a ++ b) := Str.ext' (by simp [Str.cps_append])
theorem S_inj {a b : List Nat} (h : S a = S b) : a = b := by
  have := congrArg (fun s => s.cps.toList) h
  simpa using this
theorem S_beq (a b : List Nat) : (S a == S b) = decide (a = b) := by
  rw [Bool.eq_iff_iff, beq_iff_eq, decide_eq_true_eq]
  exact ⟨S_inj, fun h => by rw [h]⟩
noncomputable def asc (l : List Nat) : Prop := ∀ c ∈ l, c < 128
theorem S_lower {l : List Nat} (h : asc l) : Txt.lower (S l) = S (l.map lo) := by
  rw [lower_ascii (fun c hc => h c (by simpa using hc))]
  simp
theorem sub_S (x y : List Nat) (i : Nat) : Builtin.Str.subAt (S x) (S y) i = true ↔ (x.drop i).take y.length = y := by
  rw [StrLaws.subAt_eq, beq_iff_eq]
  simp [Str.length]
theorem at_S (x y : List Nat) (i : Nat) : StrLaws.At (S x) (S y) (S x).length i ↔ i + y.length ≤ x.length ∧ (x.drop i).take y.length = y := by
  unfold StrLaws.At
  rw [sub_S, S_len, S_len]
theorem inf_iff (x y : List Nat) : y <:+: x ↔ ∃ i, i + y.length ≤ x.length ∧ (x.drop i).take y.length = y := by
  constructor
  · rintro ⟨a, b, rfl⟩
    refine ⟨a.length, by simp, by simp⟩
  · rintro ⟨i, _, h⟩
    refine ⟨x.take i, (x.drop i).drop y.length, ?_⟩
    have h2 : y ++ (x.drop i).drop y.length = x.drop i := by
      conv => lhs; lhs; rw [← h]
      exact List.take_append_drop ..
    rw [List.append_assoc, h2, List.take_append_drop]
theorem occ_S (x y : List Nat) : (Builtin.Str.occurrences (S x) (S y) 0 (S x).length 1).isEmpty = !decide (y <:+: x) := by
  have h := StrLaws.found_iff (S x) (S y)
  have e : (!(Builtin.Str.occurrences (S x) (S y) 0 (S x).length 1).isEmpty) = decide (y <:+: x) := by
    rw [Bool.eq_iff_iff, h, decide_eq_true_eq, inf_iff]
    constructor
    · rintro ⟨i, h1, h2⟩; exact ⟨i, by simpa [S_len] using h1, (sub_S ..).mp h2⟩
    · rintro ⟨i, h1, h2⟩; exact ⟨i, by simpa [S_len] using h1, (sub_S ..).mpr h2⟩
  rw [← e, Bool.not_not]
theorem starts_S (x y : List Nat) : Txt.startswith (S x) (S y) = decide (y <+: x) := by
  unfold Txt.startswith
  rw [Bool.eq_iff_iff, Bool.and_eq_true, decide_eq_true_eq, decide_eq_true_eq, sub_S, S_len, S_len, List.drop_zero]
  rw [List.prefix_iff_eq_take]
  constructor
  · rintro ⟨_, h⟩; exact h.symm
  · intro h; refine ⟨?_, h.symm⟩; have := congrArg List.length h; simp at this; omega
theorem ends_S (x y : List Nat) : Txt.endswith (S x) (S y) = decide (y <:+ x) := by
  unfold Txt.endswith
  rw [Bool.eq_iff_iff, Bool.and_eq_true, decide_eq_true_eq, decide_eq_true_eq, sub_S, S_len, S_len]
  rw [List.suffix_iff_eq_drop]
  constructor
  · rintro ⟨h0, h⟩
    rw [← h]
    simp only [List.length_take, List.length_drop]
    rw [List.take_of_length_le (by simp; omega)]
    congr 1; rw [Nat.zero_add] at h0; rw [Nat.sub_sub_self h0, Nat.min_self]
  · intro h
    have := congrArg List.length h
    simp at this
    refine ⟨by omega, ?_⟩
    rw [← h, List.take_length]
theorem rfind_S (x y : List Nat) : (Txt.rfind (S x) (S y) = -1 ∧ ¬ y <:+: x) ∨ ∃ i : Nat, Txt.rfind (S x) (S y) = (i : Int) ∧ i + y.length ≤ x.length ∧ (x.drop i).take y.length = y := by
  unfold Txt.rfind
  rcases StrLaws.last_spec (S x) (S y) with ⟨h, hn⟩ | ⟨i, h, ha, _⟩
  · left
    rw [h]
    refine ⟨rfl, fun q => ?_⟩
    obtain ⟨i, h1⟩ := (inf_iff x y).mp q
    exact hn i ((at_S ..).mpr h1)
  · right
    rw [h]
    exact ⟨i, rfl, (at_S ..).mp ha⟩
end
section -- S2
open PySem PySem.W PyProof.Rows PySem.Calls
set_option maxRecDepth 100000
theorem item_S (l : List Nat) (i : Nat) (c : Nat) (h : l[i]? = some c) : Txt.item (S l) (i : Int) = S [c] := by
  unfold Txt.item Txt.charAt
  rw [StrLaws.at_nonneg (x := S l) (n := c) (Int.natCast_nonneg i) (by simpa using h)]
  rfl
theorem item_S0 (l : List Nat) (c : Nat) (h : l[0]? = some c) : Txt.item (S l) 0 = S [c] := item_S l 0 c h
theorem item_Slast (l : List Nat) (c : Nat) (h : l.getLast? = some c) : Txt.item (S l) (-1) = S [c] := by
  have hl : 0 < l.length := by
    cases l with
    | nil => simp at h
    | cons a r => simp
  unfold Txt.item Txt.charAt
  rw [StrLaws.at_neg (x := S l) (n := c) (by decide) (by rw [S_len]; omega)]
  · rfl
  · rw [S_len]
    have e : ((-1 : Int) + (l.length : Int)).toNat = l.length - 1 := an3 _
    rw [e, ← h, List.getLast?_eq_getElem?]
    simp
theorem dot_S : Str.ofString "." = S [46] := by decide +kernel
theorem empty_S : Str.ofString "" = S [] := by decide +kernel
theorem cps_S (l : List Nat) : (S l).cps.toList = l := rfl
theorem slice_from (l : List Nat) (i : Nat) (h : i ≤ l.length) : Txt.slice (S l) (some (i : Int)) none = S (l.drop i) := by
  show StrLaws.sliceText (S l) (some (i : Int)) none = _
  rw [StrLaws.sliceText_from ⟨by omega, by simp; omega⟩]
  have e : (((S l).cps.toList.length : Int) - (i : Int)).toNat = (l.drop i).length := by simp
  rw [e, Int.toNat_natCast]
  show (⟨((l.drop i).take (l.drop i).length).toArray⟩ : Str) = _
  rw [List.take_length]
theorem slice_to (l : List Nat) (j : Nat) (h : j ≤ l.length) : Txt.slice (S l) none (some (j : Int)) = S (l.take j) := by
  show StrLaws.sliceText (S l) none (some (j : Int)) = _
  rw [StrLaws.sliceText_to ⟨by omega, by simp; omega⟩]
  simp
theorem slice_toneg (l : List Nat) (j : Nat) (h0 : 0 < j) (h : j ≤ l.length) : Txt.slice (S l) none (some (-(j : Int))) = S (l.take (l.length - j)) := by
  show StrLaws.sliceText (S l) none (some (-(j : Int))) = _
  rw [StrLaws.sliceText_to_neg (by omega) (by rw [S_len]; omega)]
  have e : (-(j : Int) + ((S l).length : Int) - 0).toNat = l.length - j := by rw [S_len, Int.sub_zero, Int.add_comm]; exact Int.toNat_sub _ _
  rw [e]
  simp
theorem slice_mid (l : List Nat) (i j : Nat) (hi : i ≤ j) (h : j ≤ l.length) : Txt.slice (S l) (some (i : Int)) (some (j : Int)) = S ((l.drop i).take (j - i)) := by
  show StrLaws.sliceText (S l) (some (i : Int)) (some (j : Int)) = _
  rw [StrLaws.sliceText_plain ⟨by omega, by omega, by simp; omega⟩]
  have e : ((j : Int) - (i : Int)).toNat = j - i := Int.toNat_sub _ _
  rw [e]
  simp
theorem slice_all (l : List Nat) : Txt.slice (S l) none none = S l := by
  show StrLaws.sliceText (S l) none none = _
  rw [show StrLaws.sliceText (S l) none none = StrLaws.sliceText (S l) (some ((0 : Nat) : Int)) none by unfold StrLaws.sliceText; rw [StrLaws.sliceIdx_none_lo]; rfl]
  exact slice_from l 0 (Nat.zero_le _)
section
variable {prog : Program} {w : World} {A : Around} {E : Value → Shared → Prop} {s : Shared} {value slice : PySem.Expr} {l : List Nat} {t : Tok} {Q : Value → Shared → Prop} {h₀ : Heap} {L : Addr} {m : Str → Option Value} {news : Nws}
theorem tail_from {i : Nat} {ui : Tok} (hF : Fr h₀ L s.heap m) (hN : News h₀ L s.heap news) (hi : i ≤ l.length) (hl : l.length ≤ 1000) (h : ∀ h' t' k, Fr h₀ L h' m → News h₀ L h' news → Q (.str (S (l.drop i)) t') { s with heap := h', toks := k })
    (hs : subscripted slice false (.str (S l) t) (.ref s.heap.objs.size) = operate [.ref s.heap.objs.size, .str (S l) t] (getItem (.str (S l) t) (.ref s.heap.objs.size)) := by with_unfolding_all rfl)
    (ht : ∀ r, letTemporaryGo value (.str (S l) t) r = pure () := by intro _; with_unfolding_all rfl) :
    wpAny (model prog w) A (subscriptTail value slice (.str (S l) t) (.ref s.heap.objs.size)) Q E { s with heap := s.heap.push { cls := .type "slice", data := .fields #[.int (i : Int) ui, .none, .none] } } :=
  slice_strN_sn hF hN (fun h' t' k a b => by rw [slice_from l i hi]; exact h h' t' k a b) hs ht (by rw [S_len]; exact Nat.le_trans hl (by decide))
theorem tail_to {i : Nat} {ui : Tok} (hF : Fr h₀ L s.heap m) (hN : News h₀ L s.heap news) (hi : i ≤ l.length) (hl : l.length ≤ 1000) (h : ∀ h' t' k, Fr h₀ L h' m → News h₀ L h' news → Q (.str (S (l.take i)) t') { s with heap := h', toks := k })
    (hs : subscripted slice false (.str (S l) t) (.ref s.heap.objs.size) = operate [.ref s.heap.objs.size, .str (S l) t] (getItem (.str (S l) t) (.ref s.heap.objs.size)) := by with_unfolding_all rfl)
    (ht : ∀ r, letTemporaryGo value (.str (S l) t) r = pure () := by intro _; with_unfolding_all rfl) :
    wpAny (model prog w) A (subscriptTail value slice (.str (S l) t) (.ref s.heap.objs.size)) Q E { s with heap := s.heap.push { cls := .type "slice", data := .fields #[.none, .int (i : Int) ui, .none] } } :=
  slice_strN_ns hF hN (fun h' t' k a b => by rw [slice_to l i hi]; exact h h' t' k a b) hs ht (by rw [S_len]; exact Nat.le_trans hl (by decide))
theorem tail_toneg {i : Nat} {ui : Tok} (hF : Fr h₀ L s.heap m) (hN : News h₀ L s.heap news) (h0 : 0 < i) (hi : i ≤ l.length) (hl : l.length ≤ 1000) (h : ∀ h' t' k, Fr h₀ L h' m → News h₀ L h' news → Q (.str (S (l.take (l.length - i))) t') { s with heap := h', toks := k })
    (hs : subscripted slice false (.str (S l) t) (.ref s.heap.objs.size) = operate [.ref s.heap.objs.size, .str (S l) t] (getItem (.str (S l) t) (.ref s.heap.objs.size)) := by with_unfolding_all rfl)
    (ht : ∀ r, letTemporaryGo value (.str (S l) t) r = pure () := by intro _; with_unfolding_all rfl) :
    wpAny (model prog w) A (subscriptTail value slice (.str (S l) t) (.ref s.heap.objs.size)) Q E { s with heap := s.heap.push { cls := .type "slice", data := .fields #[.none, .int (-(i : Int)) ui, .none] } } :=
  slice_strN_ns hF hN (fun h' t' k a b => by rw [slice_toneg l i h0 hi]; exact h h' t' k a b) hs ht (by rw [S_len]; exact Nat.le_trans hl (by decide))
theorem tail_all (hF : Fr h₀ L s.heap m) (hN : News h₀ L s.heap news) (hl : l.length ≤ 1000) (h : ∀ h' t' k, Fr h₀ L h' m → News h₀ L h' news → Q (.str (S l) t') { s with heap := h', toks := k })
    (hs : subscripted slice false (.str (S l) t) (.ref s.heap.objs.size) = operate [.ref s.heap.objs.size, .str (S l) t] (getItem (.str (S l) t) (.ref s.heap.objs.size)) := by with_unfolding_all rfl)
    (ht : ∀ r, letTemporaryGo value (.str (S l) t) r = pure () := by intro _; with_unfolding_all rfl) :
    wpAny (model prog w) A (subscriptTail value slice (.str (S l) t) (.ref s.heap.objs.size)) Q E { s with heap := s.heap.push { cls := .type "slice", data := .fields #[.none, .none, .none] } } :=
  slice_strN_nn hF hN (fun h' t' k a b => by rw [slice_all l]; exact h h' t' k a b) hs ht (by rw [S_len]; exact Nat.le_trans hl (by decide))
theorem tail_mid {i j : Nat} {ui uj : Tok} (hF : Fr h₀ L s.heap m) (hN : News h₀ L s.heap news) (hi : i ≤ j) (hj : j ≤ l.length) (hl : l.length ≤ 1000) (h : ∀ h' t' k, Fr h₀ L h' m → News h₀ L h' news → Q (.str (S ((l.drop i).take (j - i))) t') { s with heap := h', toks := k })
    (hs : subscripted slice false (.str (S l) t) (.ref s.heap.objs.size) = operate [.ref s.heap.objs.size, .str (S l) t] (getItem (.str (S l) t) (.ref s.heap.objs.size)) := by with_unfolding_all rfl)
    (ht : ∀ r, letTemporaryGo value (.str (S l) t) r = pure () := by intro _; with_unfolding_all rfl) :
    wpAny (model prog w) A (subscriptTail value slice (.str (S l) t) (.ref s.heap.objs.size)) Q E { s with heap := s.heap.push { cls := .type "slice", data := .fields #[.int (i : Int) ui, .int (j : Int) uj, .none] } } :=
  slice_strN_ss hF hN (fun h' t' k a b => by rw [slice_mid l i j hi hj]; exact h h' t' k a b) hs ht (by rw [S_len]; exact Nat.le_trans hl (by decide))
end
end
section -- R1
open PySem PySem.W PyProof.Rows PySem.Calls
set_option maxRecDepth 100000
namespace Rx
open Sre
abbrev C : Array Nat := #[14, 8, 1, 2, 4294967295, 1, 1, 46, 0, 16, 46, 24, 9, 1, 4294967295, 13, 4, 8, 0, 0, 1, 6, 5, 1]
noncomputable def mk (T : Array Nat) (s : Nat) (seen : Sre.Seen) (o : Bool) : M :=
  { code := C, text := T, lim := T.size, start := s, lastStart := T.size, pc := 9, pos := s, handed := s, outermost := o, marks := #[], frames := [{ wait := .nextStart, pc := 9, pos := s, outermost := o }], weight := 1, seen := seen }
/-- the state after the try at s has failed -/
noncomputable def mf (T : Array Nat) (s : Nat) (seen : Sre.Seen) (o : Bool) (pc pos : Nat) : M := { mk T s seen o with pc := pc, pos := pos, answer := some false }
noncomputable def me (T : Array Nat) (s : Nat) (seen : Sre.Seen) (o : Bool) : M := { mk T s seen o with pc := 9, pos := s, frames := [], weight := 0, answer := some false }
noncomputable def mm (T : Array Nat) (s : Nat) (seen : Sre.Seen) (o : Bool) : M := { mk T s seen o with pc := 11, pos := s + 1 }
theorem exec1 (T : Array Nat) (s : Nat) (seen : Sre.Seen) (o : Bool) : (mk T s seen o).step =
    if s ≥ T.size then mf T s (seen.add 16) o 9 s else bif T.getD s 0 == 46 then mm T s (seen.add 16) o else mf T s (seen.add 16) o 9 s := by
  by_cases h : s ≥ T.size
  · rw [if_pos h]
    show (if s ≥ T.size then _ else _) = _
    rw [if_pos h]; rfl
  · rw [if_neg h]
    show (if s ≥ T.size then _ else _) = _
    rw [if_neg h]
    have e : accepts C 9 (T.getD s 0) (seen.add 16) = .ok (T.getD s 0 == 46, seen.add 16) := rfl
    cases hc : (T.getD s 0 == 46)
    · rw [hc] at e
      show (match accepts C 9 (T.getD s 0) (seen.add 16) with | .error why => (_ : M) | .ok (false, seen) => _ | .ok (true, seen) => _) = _
      rw [e]; rfl
    · rw [hc] at e
      show (match accepts C 9 (T.getD s 0) (seen.add 16) with | .error why => (_ : M) | .ok (false, seen) => _ | .ok (true, seen) => _) = _
      rw [e]; rfl
theorem acc_in (c : Nat) (seen : Sre.Seen) (hc : isDigit c = false) : ∃ seen', accepts C 15 c seen = .ok (false, seen') := by
  have e : category 0 c = .ok false := by
    show Except.map (fun x => x != (0 % 2 == 1)) (Except.ok (isDigit c)) = _
    rw [hc]; rfl
  have e2 : accepts C 15 c seen = (category 0 c >>= fun b => if b = true then pure (true, ((seen.add 8).add 55)) else .ok (false, ((seen.add 8).add 55).add 0)) := rfl
  rw [e2, e]
  exact ⟨_, rfl⟩
theorem exec2 (T : Array Nat) (s : Nat) (seen : Sre.Seen) (o : Bool) (hd : ∀ i, isDigit (T.getD i 0) = false) : ∃ seen', (mm T s seen o).step = mf T s seen' o 11 (s + 1) := by
  by_cases h : ((1 : Nat) : Int) > ((T.size : Nat) : Int) - ((s + 1 : Nat) : Int)
  · refine ⟨seen.add 24, ?_⟩
    show (if ((1 : Nat) : Int) > ((T.size : Nat) : Int) - ((s + 1 : Nat) : Int) then _ else _) = _
    rw [if_pos h]; rfl
  · have e : ∃ seen', Sre.run C T 15 (min 4294967295 (((T.size : Nat) : Int) - ((s + 1 : Nat) : Int)).toNat) (s + 1) 0 ((seen.add 24).add 13) = .ok (0, seen') := by
      obtain ⟨k, hk⟩ : ∃ k, min 4294967295 (((T.size : Nat) : Int) - ((s + 1 : Nat) : Int)).toNat = k + 1 := ⟨min 4294967295 (((T.size : Nat) : Int) - ((s + 1 : Nat) : Int)).toNat - 1, by omega⟩
      rw [hk]
      unfold Sre.run
      obtain ⟨s', e⟩ := acc_in (T.getD (s + 1) 0) ((seen.add 24).add 13) (hd _)
      rw [e]
      exact ⟨s', rfl⟩
    obtain ⟨s', e⟩ := e
    refine ⟨s', ?_⟩
    show (if ((1 : Nat) : Int) > ((T.size : Nat) : Int) - ((s + 1 : Nat) : Int) then _ else _) = _
    rw [if_neg h]
    show (match Sre.run C T 15 (min 4294967295 (((T.size : Nat) : Int) - ((s + 1 : Nat) : Int)).toNat) (s + 1) 0 ((seen.add 24).add 13) with | .error why => _ | .ok (n, seen) => _) = _
    rw [e]
    rfl
theorem step3 (T : Array Nat) (s : Nat) (seen : Sre.Seen) (o : Bool) (pc pos : Nat) (h : s < T.size) : (mf T s seen o pc pos).step = mk T (s + 1) seen false := by
  show (if s < T.size then _ else _) = _
  rw [if_pos h]
  rfl
theorem step3e (T : Array Nat) (s : Nat) (seen : Sre.Seen) (o : Bool) (pc pos : Nat) (h : ¬ s < T.size) : (mf T s seen o pc pos).step = me T s seen o := by
  show (if s < T.size then _ else _) = _
  rw [if_neg h]
  rfl
theorem step4 (T : Array Nat) (s : Nat) (seen : Sre.Seen) (o : Bool) : (me T s seen o).step.outcome = some .failed := rfl
theorem runFor_add (a b : Nat) (m : M) : M.runFor (a + b) m = M.runFor b (M.runFor a m) := by
  induction a generalizing m with
  | zero => rw [Nat.zero_add]; rfl
  | succ a ih =>
    rw [Nat.succ_add]
    show (if m.outcome.isSome then m else M.runFor (a + b) m.step) = M.runFor b (if m.outcome.isSome then m else M.runFor a m.step)
    by_cases h : m.outcome.isSome = true
    · rw [if_pos h, if_pos h]
      cases b with
      | zero => rfl
      | succ b => show _ = if m.outcome.isSome then m else _; rw [if_pos h]
    · rw [if_neg h, if_neg h, ih]
theorem runFor_one (m : M) (h : m.outcome = none) : M.runFor 1 m = m.step := by
  show (if m.outcome.isSome then m else m.step) = _
  rw [h]; rfl
theorem runs (T : Array Nat) (hd : ∀ i, isDigit (T.getD i 0) = false) : ∀ (k s : Nat) (seen : Sre.Seen) (o : Bool), s + k = T.size → ∃ N, N ≤ 3 * k + 4 ∧ (M.runFor N (mk T s seen o)).outcome = some .failed
  | 0, s, seen, o, hs => by
    refine ⟨3, by omega, ?_⟩
    rw [show (3 : Nat) = 1 + (1 + 1) from rfl, runFor_add, runFor_one (mk T s seen o) rfl, exec1, if_pos (by omega), runFor_add, runFor_one (mf T s (seen.add 16) o 9 s) rfl, step3e _ _ _ _ _ _ (by omega), runFor_one (me T s (seen.add 16) o) rfl, step4]
  | k + 1, s, seen, o, hs => by
    have lt : s < T.size := by omega
    cases hc : (T.getD s 0 == 46)
    · obtain ⟨N, hN, e⟩ := runs T hd k (s + 1) (seen.add 16) false (by omega)
      refine ⟨1 + (1 + N), by omega, ?_⟩
      rw [runFor_add, runFor_one _ rfl, exec1, if_neg (by omega), hc]
      show (M.runFor (1 + N) (mf T s (seen.add 16) o 9 s)).outcome = _
      rw [runFor_add, runFor_one _ rfl, step3 _ _ _ _ _ _ lt, e]
    · obtain ⟨s2, e2⟩ := exec2 T s (seen.add 16) o hd
      obtain ⟨N, hN, e⟩ := runs T hd k (s + 1) s2 false (by omega)
      refine ⟨1 + (1 + (1 + N)), by omega, ?_⟩
      rw [runFor_add, runFor_one _ rfl, exec1, if_neg (by omega), hc]
      show (M.runFor (1 + (1 + N)) (mm T s (seen.add 16) o)).outcome = _
      rw [runFor_add, runFor_one _ rfl, e2, runFor_add, runFor_one _ rfl, step3 _ _ _ _ _ _ lt, e]
theorem search (T : Array Nat) (hd : ∀ i, isDigit (T.getD i 0) = false) : ∃ N, N ≤ 3 * T.size + 4 ∧ (M.runFor N (forSearch C T 0 0 T.size false)).outcome = some .failed := by
  by_cases h : T.size < 2
  · refine ⟨1, by omega, ?_⟩
    have e : forSearch C T 0 0 T.size false = ({ code := C, text := T, lim := T.size, start := 0, pc := 9, pos := 0, handed := 0, marks := #[], mustAdvance := false, seen := ({} : Sre.Seen).add 14, answer := some false } : M) := by
      show (if (decide (0 > T.size) || decide (T.size - 0 < 2)) = true then _ else _) = _
      rw [if_pos (by simp; omega)]
      rfl
    rw [e]
    rfl
  · have e : forSearch C T 0 0 T.size false = mk T 0 (({} : Sre.Seen).add 14) true := by
      show (if (decide (0 > T.size) || decide (T.size - 0 < 2)) = true then _ else _) = _
      rw [if_neg (by simp; omega)]
      rfl
    rw [e]
    exact runs T hd T.size 0 _ true (by omega)
end Rx
end
section -- R2
open PySem PySem.W PyProof.Rows PySem.Calls
set_option maxRecDepth 100000
namespace Rx
theorem slot_search : Slot "re.Pattern" "search" "re.Pattern.search" :=
  .of (owner := "re.Pattern") (n := "search") (by rw [typeLookup_type, builtinLookup_eq_fast]; kernel_rfl) (by decide +kernel) (by decide +kernel) (by decide +kernel)
    (by first | exact .inl (by decide +kernel) | exact .inr (by decide +kernel)) (by rw [isSubtype_type]; kernel_rfl)
theorem type_search : typeOf (.builtin "re.Pattern.search") = pure (.type "method_descriptor") := by show builtinType _ = _; rw [builtinType_eq_fast]; kernel_rfl
theorem entry_search : entryFor table "re.Pattern.search" = some Builtin.«re.Pattern.search» := entryFor_of_tree (by kernel_rfl)
theorem owner_re : Manifest.owners.lookup (String.ofList ['n', 'r', 'e', 't', 't', 'a', 'P', '.', 'e', 'r'].reverse) = some Manifest.sig_re_Pattern := by kernel_rfl
theorem args_search (a b : Value) : argsOk "re.Pattern.search" ⟨[a, b], []⟩ := by
  unfold argsOk; rw [PySem.signature?_of (id := "re.Pattern.search") (n := ['h', 'c', 'r', 'a', 'e', 's']) (o := ['n', 'r', 'e', 't', 't', 'a', 'P', '.', 'e', 'r']) (by kernel_rfl) owner_re]; kernel_rfl
theorem re_getattribute : typeLookup (.type "re.Pattern") "__getattribute__" = pure (some (.builtin "object.__getattribute__")) := by rw [typeLookup_type, builtinLookup_eq_fast]; kernel_rfl
theorem re_getattr_none : typeLookup (.type "re.Pattern") "__getattr__" = pure none := by rw [typeLookup_type, builtinLookup_eq_fast]; kernel_rfl
theorem canon_obj : (Manifest.canonical "object.__getattribute__" != "object.__getattribute__") = false := by decide +kernel
section
variable {M : Model} {A : Around} {E : Value → Shared → Prop} {s : Shared}
theorem getMethod_search {l : Addr} {o : Obj} {pl : Sem Bool} {Q : Value × List Value → Shared → Prop} (ho : s.heap.get? l = some o) (hc : o.cls = .type "re.Pattern") (hd : o.dict = none)
    (h : Q (.builtin "re.Pattern.search", [.ref l]) s) : wpAny M A (getMethod (.ref l) "search" pl) Q E s := by
  have hT : s.TypeIs (.ref l) "re.Pattern" := ⟨o, ho, hc⟩
  unfold getMethod
  refine wpAny_bind (wpAny_specialOf hT re_getattribute ?_)
  show wpAny M A (if (Manifest.canonical "object.__getattribute__" != "object.__getattribute__") = true then _ else _) Q E s
  rw [canon_obj, if_neg Bool.false_ne_true]
  refine wpAny_bind (wpAny_specialOf hT re_getattr_none ?_)
  refine wpAny_bind (wpAny_specialOf hT slot_search.lookup ?_)
  refine wpAny_bind (wpAny_of_eq type_search ?_)
  refine wpAny_bind (wpAny_load ho ?_)
  rw [hd]
  exact wpAny_bind (wpAny_rule (wpAny_pure h))
theorem drive {Q : Sre.M → Shared → Prop} : ∀ (t N : Nat) (m : Sre.M), N ≤ 4 * t → 0 < t → (Sre.M.runFor N m).outcome = some .failed → (∀ m', m'.outcome = some .failed → Q m' s) → wpAny M A (Builtin.Re.reDrive t m) Q E s
  | 0, _, _, _, h0, _, _ => absurd h0 (Nat.lt_irrefl _)
  | t + 1, N, m, hN, _, hf, hQ => by
    show wpAny M A (if (Sre.M.runFor 4 m).outcome.isSome = true then pure (Sre.M.runFor 4 m) else (rule "sre.turn" >>= fun _ => Builtin.Re.reDrive t (Sre.M.runFor 4 m))) Q E s
    by_cases h : (Sre.M.runFor 4 m).outcome.isSome = true
    · rw [if_pos h]
      refine wpAny_pure (hQ _ ?_)
      -- it is finished: what it would come to is what it is
      have fin : ∀ (k : Nat) (m : Sre.M), m.outcome.isSome = true → Sre.M.runFor k m = m := fun k m hm => by
        cases k with
        | zero => rfl
        | succ k => show (if m.outcome.isSome then m else _) = m; rw [if_pos hm]
      by_cases h4 : N ≤ 4
      · obtain ⟨d, e⟩ : ∃ d, 4 = N + d := ⟨4 - N, by omega⟩
        rw [e, runFor_add, fin _ _ (by rw [hf]; rfl)]; exact hf
      · obtain ⟨d, rfl⟩ : ∃ d, N = 4 + d := ⟨N - 4, by omega⟩
        rw [runFor_add, fin _ _ h] at hf; exact hf
    · rw [if_neg h]
      refine wpAny_bind (wpAny_rule ?_)
      have h4 : 4 < N := by
        refine Nat.lt_of_not_le fun q => h ?_
        obtain ⟨d, e⟩ : ∃ d, 4 = N + d := ⟨4 - N, by omega⟩
        have fin : ∀ (k : Nat) (m : Sre.M), m.outcome.isSome = true → Sre.M.runFor k m = m := fun k m hm => by
          cases k with
          | zero => rfl
          | succ k => show (if m.outcome.isSome then m else _) = m; rw [if_pos hm]
        rw [e, runFor_add, fin _ _ (by rw [hf]; rfl), hf]; rfl
      obtain ⟨d, rfl⟩ : ∃ d, N = 4 + d := ⟨N - 4, by omega⟩
      rw [runFor_add] at hf
      exact drive t d _ (by omega) (by omega) hf hQ
end
theorem named (v : Value) : Builtin.Re.reNamed "re.Pattern.search" "search" ["string", "pos", "endpos"] 1 [v] [] = pure [some v, none, none] := by
  with_unfolding_all rfl
theorem call_search {prog : Program} {w : World} {A : Around} {E : Value → Shared → Prop} {s : Shared} {p q : Addr} {x : Str} {t : Tok} {Q : Value → Shared → Prop} {od : Option Addr} {sl sl2 : Array (Option Value)} {v0 v1 : Value} {n : Nat}
    (ho : s.heap.get? p = some ⟨.type "re.Pattern", od, .fields #[v0, v1, .int 0 0, .none, .none, .ref q, .int 0 0], sl⟩)
    (hq : s.heap.get? q = some ⟨.type "tuple", none, .seq #[.int 14 0, .int 8 0, .int 1 0, .int 2 0, .int 4294967295 0, .int 1 0, .int 1 0, .int 46 0, .int 0 0, .int 16 0, .int 46 0, .int 24 0, .int 9 0, .int 1 0, .int 4294967295 0, .int 13 0, .int 4 0, .int 8 0, .int 0 0, .int 0 0, .int 1 0, .int 6 0, .int 5 0, .int 1 0] n, sl2⟩)
    (hx : x.length ≤ 1000) (hd : ∀ c ∈ x.cps.toList, Sre.isDigit c = false) (h : Q .none s) :
    wpAny (model prog w) A (call (.builtin "re.Pattern.search") [.ref p, .str x t]) Q E s := by
  have hT : s.TypeIs (.ref p) "re.Pattern" := ⟨_, ho, rfl⟩
  refine wpAny_call_entry slot_search hT entry_search ?_ (args_search _ _)
  unfold Builtin.«re.Pattern.search»
  refine wpAny_bind ?_
  unfold Builtin.Re.reTarget
  show wpAny _ _ (Builtin.Re.reNamed "re.Pattern.search" "search" ["string", "pos", "endpos"] 1 [.str x t] [] >>= _) _ _ _
  rw [named]
  refine wpAny_bind (wpAny_pure ?_)
  refine wpAny_bind (wpAny_pure ?_)
  refine wpAny_bind (wpAny_pure ?_)
  refine wpAny_bind (wpAny_fieldsOf ho rfl ?_)
  refine wpAny_bind (m := Builtin.Re.reTextOf (.str x t)) (wpAny_pure ?_)
  show wpAny _ _ (Builtin.Re.reNoCollectionInside (Value.str x t) 0 >>= fun _ => Builtin.Re.reRawItems (.ref q) >>= fun r =>
    (pure ({ pattern := Value.ref p, string := Value.str x t, code := Array.map (fun x => x.toNat) r, text := x.cps, kind := 0, groups := 0, pos := min (0 : Int).toNat x.cps.size, lim := min ((2 ^ 63 - 1 : Int)).toNat x.cps.size } : Builtin.Re.ReTarget) : Sem Builtin.Re.ReTarget)) _ _ _
  refine wpAny_bind (m := Builtin.Re.reNoCollectionInside (Value.str x t) 0) (wpAny_pure ?_)
  refine wpAny_bind (m := Builtin.Re.reRawItems (.ref q)) ?_
  unfold Builtin.Re.reRawItems
  refine wpAny_bind (wpAny_seqItems hq rfl (wpAny_pure (wpAny_pure ?_)))
  have hl : min ((2 ^ 63 - 1 : Int)).toNat x.cps.size = x.cps.size := by
    have : x.cps.size ≤ 1000 := hx
    omega
  have h0 : min (Int.toNat 0) x.cps.size = 0 := Nat.zero_min _
  rw [hl, h0]
  have hC : Array.map (fun x : Int => x.toNat) (Array.map Builtin.Re.reRawOf ((some #[Value.int 14 0, .int 8 0, .int 1 0, .int 2 0, .int 4294967295 0, .int 1 0, .int 1 0, .int 46 0, .int 0 0, .int 16 0, .int 46 0, .int 24 0, .int 9 0, .int 1 0, .int 4294967295 0, .int 13 0, .int 4 0, .int 8 0, .int 0 0, .int 0 0, .int 1 0, .int 6 0, .int 5 0, .int 1 0]).getD #[])) = C := by decide +kernel
  rw [hC]
  unfold Builtin.Re.reAnswer
  dsimp only
  have hT' : ∀ i, Sre.isDigit (x.cps.getD i 0) = false := fun i => by
    by_cases hi : i < x.cps.size
    · refine hd _ ?_
      rw [Array.getD, dif_pos hi]
      simp
    · rw [Array.getD, dif_neg hi]; rfl
  obtain ⟨N, hN, hf⟩ := search x.cps hT'
  refine wpAny_bind ?_
  unfold Builtin.Re.reRunToEnd
  refine wpAny_bind ?_
  have hx' : x.cps.size ≤ 1000 := hx
  obtain ⟨tt, ht⟩ : ∃ tt : Nat, tt = 2 ^ 64 := ⟨_, rfl⟩
  rw [← ht]
  have htt : 4000 ≤ tt := by rw [ht]; decide
  clear ht
  refine drive tt N _ (by omega) (by omega) hf fun m' hm' => ?_
  have loop : ∀ (l : List Nat) (Q' : PUnit → Shared → Prop), Q' PUnit.unit s → wpAny (model prog w) A.in1 (forIn l PUnit.unit fun i (_ : PUnit) => if m'.seen.has i = true then (do rule (Sre.names.getD i ""); pure (ForInStep.yield PUnit.unit)) else (pure (ForInStep.yield PUnit.unit) : Sem _)) Q' E s := by
    intro l
    induction l with
    | nil => intro Q' hq; rw [List.forIn_nil]; exact wpAny_pure hq
    | cons i l ih =>
      intro Q' hq
      rw [List.forIn_cons]
      refine wpAny_bind ?_
      split
      · exact wpAny_bind (wpAny_rule (wpAny_pure (ih Q' hq)))
      · exact wpAny_pure (ih Q' hq)
  refine wpAny_bind (loop _ _ ?_)
  rw [hm']
  exact wpAny_pure (wpAny_pure ⟨_, rfl, h⟩)
end Rx
end
section -- W1
open PySem PySem.W PyProof.Rows PySem.Calls
set_option maxRecDepth 100000
set_option maxHeartbeats 8000000
noncomputable def GoodH (l : List Nat) : Prop := l.length ≤ 900 ∧ (∀ c ∈ l, Sre.isDigit c = false) ∧ l ≠ [] ∧ l[0]? ≠ some 46 ∧ l.getLast? ≠ some 46
section
local macro_rules | `(tactic| walk_at "getMethod ref") => `(tactic| (k_here; (with_reducible show wpAny _ _ (getMethod (Value.ref 36) _ _) _ _ _); refine Rx.getMethod_search (Fr.keep (by assumption) 36 _ (by assumption)) rfl rfl ?_))
local macro_rules | `(tactic| walk_at "call builtin:re.Pattern.search") => `(tactic| (k_here; refine Rx.call_search (Fr.keep (by assumption) 36 _ (by assumption)) (Fr.keep (by assumption) 35 _ (by assumption)) (by assumption) (by assumption) ?_))
theorem hdn_tel (w : World) (l : List Nat) (t : Tok) (hg : GoodH l) :
    Tel w 43 1 [.str (S l) t] (fun _ => True) (fun v tl => tl = [] ∧ v = .bool true) := by
  obtain ⟨hl, hd, hne, hh, hla⟩ := hg
  w_top off
  refine' tel_plain [(Str.ofString "text", .str (S l) t)] ?ho ?hcd ?hb ?hl ?hc ?h1 ?h2 ?h3 ?h
  walk_at "MyPlain"
  intro mean mg mb dp un gd outer A₀ base g L s B F X N T hpre hd0 hu
  have e36 := X 36 _ (by k_dflt k_is)
  have e35 := X 35 _ (by k_dflt k_is)
  have hl' : (S l).length ≤ 1000 := by rw [S_len]; omega
  have hd' : ∀ c ∈ (S l).cps.toList, Sre.isDigit c = false := hd
  obtain ⟨c0, hc0⟩ : ∃ c, l[0]? = some c := by cases l with | nil => exact absurd rfl hne | cons a r => exact ⟨a, rfl⟩
  obtain ⟨c1, hc1⟩ : ∃ c, l.getLast? = some c := by cases h : l.getLast? with | none => simp at h; exact absurd h hne | some a => exact ⟨a, rfl⟩
  have i0 : (Txt.item (S l) 0 == Str.ofString ".") = false := by
    rw [item_S0 l c0 hc0, dot_S, S_beq, decide_eq_false_iff_not]
    intro e; rw [hc0] at hh; exact hh (by rw [List.cons.inj e |>.1])
  have i1 : (Txt.item (S l) (-1) == Str.ofString ".") = false := by
    rw [item_Slast l c1 hc1, dot_S, S_beq, decide_eq_false_iff_not]
    intro e; rw [hc1] at hla; exact hla (by rw [List.cons.inj e |>.1])
  have i2 : (S l == Str.ofString "") = false := by
    rw [empty_S, S_beq, decide_eq_false_iff_not]; exact hne
  k_steps
  all_goals first | exact FinC.nil (by assumption) ⟨rfl, rfl⟩ | (exfalso; first | exact Bool.false_ne_true (i0.symm.trans (by assumption)) | exact Bool.false_ne_true (i1.symm.trans (by assumption)) | exact Bool.false_ne_true (i2.symm.trans (by assumption)))
end
end
section -- W2
open PySem PySem.W PyProof.Rows PySem.Calls
set_option maxRecDepth 100000
set_option maxHeartbeats 8000000
theorem hdn_telE (w : World) (x : Str) (l : List Nat) (t : Tok) (hx : x = S l) (hg : GoodH l) :
    Tel w 43 1 [.str x t] (fun _ => True) (fun v tl => tl = [] ∧ v = .bool true) := by subst hx; exact hdn_tel w l t hg
theorem lower_S {prog : Program} {w : World} {A : Around} {E : Value → Shared → Prop} {s : Shared} {a : List Nat} {t : Tok} {Q : Value → Shared → Prop} (ha : asc a) (hl : a.length ≤ 1000) (h : ∀ t', Q (.str (S (a.map lo)) t') { s with toks := s.toks + 1 }) :
    wpAny (model prog w) A (call (.builtin "str.lower") [.str (S a) t]) Q E s :=
  SCL.lower (by rw [S_len]; omega) (fun _ => by rw [S_lower ha]; exact h _)
section
local macro_rules | `(tactic| walk_at "MyNo") => `(tactic| skip)
local macro_rules | `(tactic| walk_at "call builtin:str.lower") => `(tactic| (k_here; refine lower_S (by assumption) (by assumption) ?_; intro _))
local macro_rules | `(tactic| walk_at "call ref") => `(tactic| (k_here; with_reducible refine' Tel.use (hdn_telE _ _ _ _ ?a2 ?a1) ?k1 ?k2 ?k3 ?k4 ?k5 ?k6 trivial ?k7 ?k8 ?_; walk_at "MyK"; (case a2 => first | assumption | exact rfl); (case a1 => assumption); walk_at "MyX"))
theorem dm_tel (w : World) (a b b2 : List Nat) (ta tb : Tok) (ha : asc a) (hb : asc b) (hb2 : b.map lo = 46 :: b2) (g1 : GoodH (a.map lo)) (g2 : GoodH b2) :
    Tel w 50 2 [.str (S a) ta, .str (S b) tb] (fun _ => True) (fun v tl => tl = [] ∧ v = .bool (decide (b.map lo <:+: a.map lo))) := by
  w_top off
  refine' tel_plain [(Str.ofString "A", .str (S a) ta), (Str.ofString "B", .str (S b) tb)] ?ho ?hcd ?hb ?hl ?hc ?h1 ?h2 ?h3 ?h
  walk_at "MyPlain"
  intro mean mg mb dp un gd outer A₀ base g L s B F X N T hpre hd0 hu
  have hla : a.length ≤ 1000 := by have := g1.1; simp at this; omega
  have hlb : b.length ≤ 1000 := by have := g2.1; have := congrArg List.length hb2; simp at this; omega
  have hlb1 : 1 ≤ (b.map lo).length := by rw [hb2]; simp
  have hlb2 : (b.map lo).length ≤ 1000 := by simpa using hlb
  have dr : Txt.slice (S (b.map lo)) (some 1) none = S b2 := by
    rw [show (1 : Int) = ((1 : Nat) : Int) from rfl, slice_from _ _ hlb1, hb2]; rfl
  have q1 : Txt.startswith (S (b.map lo)) (Str.ofString ".") = true := by
    rw [dot_S, starts_S, hb2]; simp
  have q2 : Txt.rfind (S (a.map lo)) (S (b.map lo)) = -1 → decide (b.map lo <:+: a.map lo) = false := fun e => by
    rcases rfind_S (a.map lo) (b.map lo) with ⟨_, h⟩ | ⟨i, h, _⟩
    · simpa using h
    · omega
  have q3 : Txt.rfind (S (a.map lo)) (S (b.map lo)) ≠ -1 → decide (b.map lo <:+: a.map lo) = true := fun e => by
    rcases rfind_S (a.map lo) (b.map lo) with ⟨h, _⟩ | ⟨i, _, h1, h2⟩
    · exact absurd h e
    · rw [decide_eq_true_eq, inf_iff]; exact ⟨i, h1, h2⟩
  have q4 : Txt.rfind (S (a.map lo)) (S (b.map lo)) ≠ 0 := fun e => by
    rcases rfind_S (a.map lo) (b.map lo) with ⟨h, _⟩ | ⟨i, h, h1, h2⟩
    · omega
    · obtain rfl : i = 0 := by omega
      refine g1.2.2.2.1 ?_
      have e1 := congrArg (fun l => l[0]?) h2
      simp only [hb2, List.drop_zero] at e1
      rw [List.getElem?_take_of_lt (by simp)] at e1
      simpa using e1
  have q5 : (S (a.map lo) == S (b.map lo)) = true → decide (b.map lo <:+: a.map lo) = true := fun e => by
    rw [S_beq, decide_eq_true_eq] at e
    rw [e, decide_eq_true_eq]; exact List.infix_refl _
  k_steps
  all_goals first
    | exact FinC.nil (by assumption) ⟨rfl, congrArg Value.bool (q5 (by assumption)).symm⟩
    | exact FinC.nil (by assumption) ⟨rfl, congrArg Value.bool (q2 (by assumption)).symm⟩
    | exact FinC.nil (by assumption) ⟨rfl, congrArg Value.bool (q3 (by assumption)).symm⟩
    | exact absurd (by assumption) q4
    | exact absurd (q1.symm.trans (by assumption)) (by decide)
end
end
open LCg
section -- C1
open PySem PySem.W PyProof.Rows PySem.Calls LCg
set_option maxRecDepth 100000
set_option maxHeartbeats 2000000
structure Short (l : List Nat) : Prop where
  asc : asc l
  len : l.length ≤ 1000
section
variable {prog : Program} {w : World} {A : Around} {E : Value → Shared → Prop} {s : Shared} {h₀ : Heap} {L : Addr} {m : Str → Option Value} {env : Env}
/-- what an element's evaluation hands back: the ledger as it stood, the value by R -/
noncomputable def EltOk (h₀ : Heap) (L : Addr) (m : Str → Option Value) (all : Nws) (s : Shared) (R : Value → Prop) (y : Value) (s' : Shared) : Prop :=
  ∃ h' tk', s' = { s with heap := h', toks := tk' } ∧ Fr h₀ L h' m ∧ News h₀ L h' all ∧ R y
theorem EltOk.intro {m : Str → Option Value} {all : Nws} {s : Shared} {R : Value → Prop} {y : Value} {h' : Heap} {tk' : Nat} (F : Fr h₀ L h' m) (N : News h₀ L h' all) (r : R y) : EltOk h₀ L m all s R y { s with heap := h', toks := tk' } := ⟨h', tk', rfl, F, N, r⟩
theorem rest_all {elt : Expr} {x : Str} {scope : Scope} {cl : List (Str × Addr)} {S : Nws → Prop} {P : Nat → Value → Prop} {Fin : List Value → Nws → Prop} {news : Nws} (R : Nat → Value → Prop) (hS : S news)
    (he : ∀ i v I oI C oC D m₂ ys h tk (E' : Value → Shared → Prop), P i v → NsObj oC m₂ → m₂ x = some v → Fr h₀ L h m → News h₀ L h ((I, oI) :: (C, oC) :: (D, lst ys) :: news) → Off3 I C D news → ((@Ne Nat I C) ∧ (@Ne Nat I D) ∧ (@Ne Nat C D)) →
      wpAny (model prog w) A (eval elt (compEnvC scope cl C env)) (EltOk h₀ L m ((I, oI) :: (C, oC) :: (D, lst ys) :: news) { s with heap := h, toks := tk } (R i)) E' { s with heap := h, toks := tk }) :
    ∀ (k i : Nat) (ys : List Value), ys.length = i → (∀ j y, ys[j]? = some y → R j y) → (∀ ys, ys.length = i + k → (∀ j y, ys[j]? = some y → R j y) → Fin ys news) → CompRest prog w A h₀ L m env elt x scope cl s S P Fin k i ys news
  | 0, i, ys, hl, hy, hf => .zero (hf ys hl hy)
  | k + 1, i, ys, hl, hy, hf => by
    refine .succ fun v I oI C oC D m₂ h tk E' hP hN hm F N off ne => ?_
    refine wpAny_mono (he i v I oI C oC D m₂ ys h tk E' hP hN hm F N off ne) (fun y s' hq => ?_) fun _ _ e => e
    obtain ⟨h', tk', rfl, F', N', r⟩ := hq
    refine CompEnd.intro F' N' news (fun _ h => h) off hS ?_
    refine rest_all R hS he k (i + 1) (ys ++ [y]) (by simp [hl]) (fun j z hz => ?_) (fun zs hzs hr => hf zs (by omega) hr)
    rw [List.getElem?_append] at hz
    split at hz
    · exact hy j z hz
    · rename_i hj
      rw [List.getElem?_singleton] at hz
      split at hz
      · obtain rfl : j = i := by omega
        cases hz; exact r
      · cases hz
/-- a comprehension over a text's signs -/
theorem comp_str {elt iter : Expr} {x : Str} {px : Pos} {scope : Scope} {cl : List (Str × Addr)} {pos : Pos} {Q : Value → Shared → Prop} (R : List Nat → Nat → Value → Prop) (_F₀ : Fr h₀ L s.heap m)
    (hclos : closureFor scope env = pure cl) (hcell : ∀ y ∈ scope.names, y.2 ≠ .cell) (hkind : scope.kind = .function)
    (hnames : ∀ y ∈ scope.names, y.2 = .local → scope.names.lookup y.1 = some .local) (hx : scope.names.lookup x = some .local) (hh : A.handled = none)
    (h : wpAny (model prog w) A (eval iter env) (fun xv s₁ => ∃ l t news, xv = .str (S l) t ∧ Short l ∧ Fr h₀ L s₁.heap m ∧ News h₀ L s₁.heap news ∧
      (∀ i c u I oI C oC D m₂ ys h tk (E' : Value → Shared → Prop), l[i]? = some c → NsObj oC m₂ → m₂ x = some (.str (S [c]) u) → Fr h₀ L h m → News h₀ L h ((I, oI) :: (C, oC) :: (D, lst ys) :: news) → Off3 I C D news → ((@Ne Nat I C) ∧ (@Ne Nat I D) ∧ (@Ne Nat C D)) →
        wpAny (model prog w) A (eval elt (compEnvC scope cl C env)) (EltOk h₀ L m ((I, oI) :: (C, oC) :: (D, lst ys) :: news) { s₁ with heap := h, toks := tk } (R l i)) E' { s₁ with heap := h, toks := tk }) ∧
      (∀ D h tk ys, ys.length = l.length → (∀ j y, ys[j]? = some y → R l j y) → Fr h₀ L h m → News h₀ L h ((D, lst ys) :: news) → Off1 D news → Q (.ref D) { s₁ with heap := h, toks := tk })) E s)
    (hs : ∀ x, foldedSetIterable iter env x = pure x := by intro _; rfl) :
    wpAny (model prog w) A (eval (.ListComp elt [⟨.Name x px, iter, [], 0⟩] scope pos) env) Q E s := by
  rw [eval_ListComp]
  refine wpAny_comprehension_free (use := none) rfl hs hclos hkind hnames (wpAny_mono h (fun xv s₁ h₁ => ?_) fun _ _ e => e)
  obtain ⟨l, t, news, rfl, ⟨ha, hl⟩, F, N, he, hQ⟩ := h₁
  have hall : (S l).cps.all (· < 128) = true := by
    rw [← Array.all_toList]
    exact List.all_eq_true.mpr fun c hc => by simpa using ha c hc
  refine wpAny_pyIter_ascii hall ?_
  have W : Walks prog w A s₁.heap.objs.size [s₁.heap.objs.size] [s₁.heap.objs.size] (S l).cps.size (SignAt (S l)) _ := Walks.strAscii hh s₁.heap.objs.size (S l) t
  have hsz : (S l).cps.size = l.length := S_len l
  rw [hsz] at W
  refine block_U (S := fun _ => True) (RR := compPost _ _ _ _ _) W (Nat.le_trans hl (by decide)) (fun i h st => by obtain ⟨o, e, _⟩ := st; exact ⟨o, e⟩) (fun i h h' o nw st e e' _ _ _ => W.frame _ _ _ st fun b hb o' q => by
      rw [List.mem_singleton.mp hb] at q ⊢; rw [e] at q; cases q; exact e') hcell hkind hx ⟨_, Heap.get?_push_size _ rfl, rfl, rfl⟩ (fun b hb => ?_)
    (F.keeps fun _ _ e => Heap.get?_push_of_some _ e) (N.grown fun _ _ e => Heap.get?_push_of_some _ e) (Nat.ne_of_lt F.ns.lt) (next_is_new F) (fun p hp => Nat.ne_of_lt (Heap.lt_size (N p hp).1)) trivial
    (rest_all (s := { s₁ with heap := _ }) (R l) trivial (fun i v I oI C oC D m₂ ys h tk E' hP hN hm F N off ne => ?_) l.length 0 [] rfl (fun j y hy => by simp at hy)
      (Fin := fun ys nw => ∀ D h tk, Fr h₀ L h m → News h₀ L h ((D, lst ys) :: nw) → Off1 D nw → Q (.ref D) { s₁ with heap := h, toks := tk }) (fun ys hys hr D h tk F N o1 => hQ D h tk ys (by omega) hr F N o1)) ?_
  · rw [List.mem_singleton.mp hb]
    show s₁.heap.objs.size < (s₁.heap.push _).objs.size
    rw [Heap.size_push]; exact Nat.lt_succ_self _
  · obtain ⟨c, u, hc, rfl⟩ := hP
    exact he i c u I oI C oC D m₂ ys h tk E' (by simpa using hc) hN hm F N off ne
  · intro D C h tk m' ys news' F' N' o1 hn hC₀ hD₀ hCL hDL hCD offC fin
    refine ⟨m', hn, fun h'' hs'' => fin D h'' tk (F'.change hs'' hCL hC₀) (fun p hp => ?_) o1⟩
    refine ⟨hs''.extBut _ _ ?_ (N' p hp).1, (N' p hp).2⟩
    rcases List.mem_cons.mp hp with rfl | hp
    · exact Ne.symm hCD
    · exact offC p hp
theorem strs_of {ys : List Value} : ∀ {ws : List Str}, ys.length = ws.length → (∀ (j : Nat) (y : Value), ys[j]? = some y → ∃ w t, ws[j]? = some w ∧ y = Value.str w t) → StrsAre ys ws := by
  induction ys with
  | nil => intro ws h _; cases ws with | nil => exact .nil | cons a r => simp at h
  | cons y ys ih =>
    intro ws h hr
    cases ws with
    | nil => simp at h
    | cons a r =>
      obtain ⟨w, t, h1, rfl⟩ := hr 0 y rfl
      cases h1
      exact .cons _ _ (ih (by simpa using h) fun j z hz => hr (j + 1) z hz)
theorem join_S (ws : List (List Nat)) : Txt.join (S []) (ws.map S) = S ws.flatten := by
  show Builtin.Str.glued (S []) (ws.map S) = _
  rw [StrLaws.glued_eq_join]
  induction ws with
  | nil => rfl
  | cons a r ih =>
    cases r with
    | nil => simp [Str.join]
    | cons b r =>
      show Str.join (S []) (S a :: S b :: r.map S) = _
      show S a ++ S [] ++ Str.join (S []) (S b :: r.map S) = _
      have ih' : Str.join (S []) (S b :: r.map S) = S (b :: r).flatten := ih
      have e1 : S a ++ S [] = S a := by rw [S_app a [], List.append_nil]
      rw [ih', e1, S_app a]; rfl
theorem call_join {D : Addr} {ys : List Value} {ws : List (List Nat)} {t : Tok} {Q : Value → Shared → Prop} (hl : s.heap.IsList D ys.toArray) (hi : StrsAre ys (ws.map S)) (hw : ws.flatten.length + ws.length ≤ 1000)
    (h : ∀ t' k, Q (.str (S ws.flatten) t') { s with toks := k }) : wpAny (model prog w) A (call (.builtin "str.join") [.str (S []) t, .ref D]) Q E s := by
  refine join_listW (ys := ws.map S) hl hi (by rw [S_len]; decide) ?_ (fun t' k => by rw [join_S]; exact h t' k)
  have e : ((ws.map S).map (·.length)).sum = ws.flatten.length := by
    rw [List.map_map, List.length_flatten]
    exact congrArg List.sum (List.map_congr_left fun a _ => S_len a)
  rw [e, List.length_map]
  omega
theorem add_S {a b : List Nat} {t u : Tok} {Q : Value → Shared → Prop} (ha : a.length ≤ 1000) (hb : b.length ≤ 1000) (h : ∀ t' tk, Q (.str (S (a ++ b)) t') { s with toks := tk }) :
    wpAny (model prog w) A (binaryOp .Add (.str (S a) t) (.str (S b) u)) Q E s :=
  PyProof.Rows.add_str (fun t' tk => by rw [S_app]; exact h t' tk) (by rw [S_len, S_len]; exact Nat.le_trans (Nat.add_le_add ha hb) (by decide))
theorem z_S : Str.ofString "z" = S [122] := by decide +kernel
theorem dots3_S : Str.ofString "..." = S [46, 46, 46] := by decide +kernel
theorem add_SE {x y : Str} {a b : List Nat} {t u : Tok} {Q : Value → Shared → Prop} (hx : x = S a) (hy : y = S b) (ha : a.length ≤ 1000) (hb : b.length ≤ 1000) (h : ∀ t' tk, Q (.str (S (a ++ b)) t') { s with toks := tk }) :
    wpAny (model prog w) A (binaryOp .Add (.str x t) (.str y u)) Q E s := by subst hx; subst hy; exact add_S ha hb h
theorem joins_dots {l : List Nat} {ys : List Value} (hl : ys.length = l.length) (hr : ∀ (j : Nat) (y : Value), ys[j]? = some y → ∃ c t, l[j]? = some c ∧ y = Value.str (S [46, c]) t) : StrsAre ys ((l.map fun c => [46, c]).map S) := by
  refine strs_of (by simpa using hl) fun j y hy => ?_
  obtain ⟨c, t, hc, rfl⟩ := hr j y hy
  exact ⟨_, t, by simp [hc], rfl⟩
theorem call_join_dots {D : Addr} {ys : List Value} {l : List Nat} {x : Str} {t : Tok} {Q : Value → Shared → Prop} {h₀ : Heap} {L : Addr} {news : Nws} (hx : x = S []) (N : News h₀ L s.heap ((D, lst ys) :: news)) (hl : ys.length = l.length) (hr : ∀ (j : Nat) (y : Value), ys[j]? = some y → ∃ c t, l[j]? = some c ∧ y = Value.str (S [46, c]) t) (hw : l.length ≤ 300)
    (h : ∀ t' k, News h₀ L s.heap news → Q (.str (S (l.flatMap fun c => [46, c])) t') { s with toks := k }) : wpAny (model prog w) A (call (.builtin "str.join") [.str x t, .ref D]) Q E s := by
  subst hx
  refine call_join ⟨_, (N _ (.head _)).1, rfl, _, rfl⟩ (joins_dots hl hr) ?_ (fun t' k => by simpa [List.flatMap] using h t' k fun p hp => N p (.tail _ hp))
  have : ∀ l : List Nat, ((l.map fun c => [46, c]).flatten).length = 2 * l.length := fun l => by
    induction l with
    | nil => rfl
    | cons a r ih => simp at ih ⊢; omega
  rw [this, List.length_map]; omega
end
end
section -- C2
open PySem PySem.W PyProof.Rows PySem.Calls LCg
set_option maxRecDepth 100000
set_option maxHeartbeats 2000000
/-- a frame of which the names of ps are known -/
noncomputable def frm (ps : List (Str × Value)) (u : Str → Option Value) (y : Str) : Option Value := match ps.lookup y with
  | some v => some v
  | none => u y
theorem lookup_mem {ps : List (Str × Value)} {y : Str} {v : Value} (h : ps.lookup y = some v) : (y, v) ∈ ps := by
  induction ps with
  | nil => cases h
  | cons p r ih =>
    obtain ⟨a, b⟩ := p
    rw [List.lookup_cons] at h
    split at h
    · rename_i hb
      cases h
      rw [beq_iff_eq.mp hb]; exact .head _
    · exact .tail _ (ih h)
/-- the names of ps are known in m -/
noncomputable def Kn (m : Str → Option Value) : List (Str × Value) → Prop
  | [] => True
  | p :: r => m p.1 = some p.2 ∧ Kn m r
theorem Kn.mem {m : Str → Option Value} : ∀ {ps : List (Str × Value)}, Kn m ps → ∀ p ∈ ps, m p.1 = some p.2
  | _ :: _, h, p, hp => (List.mem_cons.mp hp).elim (fun e => e ▸ h.1) (Kn.mem h.2 p)
theorem frm_self {ps : List (Str × Value)} {m : Str → Option Value} (h : Kn m ps) : m = frm ps m := by
  funext y
  unfold frm
  split
  · rename_i v e
    exact h.mem _ (lookup_mem e)
  · rfl
section
variable {prog : Program} {w : World} {A : Around} {E : Value → Shared → Prop} {s : Shared} {env : Env} {h₀ : Heap} {x : Str} {body : List Stmt} {Q : Flow → Shared → Prop}
theorem loop_str {l : List Nat} {t : Tok} {m₀ : Str → Option Value} {news : Nws} (J : Nat → (Str → Option Value) → Nws → Prop)
    (hh : A.handled = none) (ha : asc l) (F : Fr h₀ env.locals s.heap m₀) (N : News h₀ env.locals s.heap news) (hj : J 0 m₀ news)
    (turn : ∀ i c u m₁ nx h tk own, l[i]? = some c → OwnOff own (nx.map (·.1)) → J i m₁ nx → Fr h₀ env.locals h (fun y => if y = x then some (.str (S [c]) u) else m₁ y) → News h₀ env.locals h (nx ++ own) →
      wpAny (model prog w) A (execs body env) (InvPostG h₀ env.locals (J (i + 1)) own { s with heap := h, toks := tk } Q) E { s with heap := h, toks := tk })
    (done : ∀ m₁ nx h tk, J l.length m₁ nx → Fr h₀ env.locals h m₁ → News h₀ env.locals h nx → Q .next { s with heap := h, toks := tk }) :
    wpAny (model prog w) A (pyIter (.str (S l) t)) (fun it s₂ => LoopAtV prog w A h₀ env x body Q E it s₂) E s := by
  have hall : (S l).cps.all (· < 128) = true := by
    rw [← Array.all_toList]
    exact List.all_eq_true.mpr fun c hc => by simpa using ha c hc
  refine wpAny_pyIter_ascii hall ?_
  have W : Walks prog w A s.heap.objs.size [s.heap.objs.size] [s.heap.objs.size] (S l).cps.size (SignAt (S l)) _ := Walks.strAscii hh s.heap.objs.size (S l) t
  have hsz : (S l).cps.size = l.length := S_len l
  rw [hsz] at W
  refine kdr_loop (s := { s with heap := _ }) J W (fun _ h => h) (fun _ h => h) ?_ ?_ ?_ ?_ ⟨_, Heap.get?_push_size _ rfl, rfl, rfl⟩ (F.push _) (fun p hp => ⟨Heap.get?_push_of_some _ (N p hp).1, (N p hp).2⟩) hj ?_ ?_
  · intro i h hi b hb
    rw [List.mem_singleton.mp hb]
    obtain ⟨o, e, _⟩ := hi
    exact ⟨o, e⟩
  · intro hm
    exact absurd F.ns.lt ((List.mem_singleton.mp hm) ▸ Nat.lt_irrefl _)
  · intro b hb
    rw [List.mem_singleton.mp hb]
    exact next_is_new F
  · intro p hp hI
    exact absurd (Heap.lt_size (N p hp).1) ((List.mem_singleton.mp hI) ▸ Nat.lt_irrefl _)
  · rintro i v m₁ nx h tk own hi ⟨c, u, hc, rfl⟩ hoff hJ F₁ N₁
    exact turn i c u m₁ nx h tk own (by simpa using hc) hoff hJ F₁ N₁
  · intro m₁ nx h tk hJ F₁ N₁
    exact done m₁ nx h tk hJ F₁ N₁
/-- over range(a, a + n) -/
theorem loop_range {r : Addr} {a b : Int} {t₀ u₀ v₀ : Tok} {n : Nat} {m₀ : Str → Option Value} {news : Nws} (J : Nat → (Str → Option Value) → Nws → Prop)
    (hh : A.handled = none) (hr : IsRange s.heap r a b 1 t₀ u₀ v₀) (hsmall : Builtin.Range.small a b 1 = true) (hsz : Builtin.Range.rangeSize a b 1 = (n : Int)) (F : Fr h₀ env.locals s.heap m₀) (N : News h₀ env.locals s.heap news) (hj : J 0 m₀ news)
    (turn : ∀ i u m₁ nx h tk own, i < n → OwnOff own (nx.map (·.1)) → J i m₁ nx → Fr h₀ env.locals h (fun y => if y = x then some (.int (a + (i : Nat)) u) else m₁ y) → News h₀ env.locals h (nx ++ own) →
      wpAny (model prog w) A (execs body env) (InvPostG h₀ env.locals (J (i + 1)) own { s with heap := h, toks := tk } Q) E { s with heap := h, toks := tk })
    (done : ∀ m₁ nx h tk, J n m₁ nx → Fr h₀ env.locals h m₁ → News h₀ env.locals h nx → Q .next { s with heap := h, toks := tk }) :
    wpAny (model prog w) A (pyIter (.ref r)) (fun it s₂ => LoopAtV prog w A h₀ env x body Q E it s₂) E s := by
  refine wpAny_pyIter_range hr hsmall ?_
  have W := range_walks (prog := prog) (w := w) (I := s.heap.objs.size) hh a n
  have hst : IsRangeIter (s.heap.push { cls := .type "range_iterator", data := .fields #[rawInt a, rawInt (Builtin.Range.rangeSize a b 1), rawInt 1] }) s.heap.objs.size (a + ((0 : Nat) : Int) * 1) ((n : Int) - ((0 : Nat) : Int)) 1 := by
    show Heap.get? _ _ = some _
    rw [hsz]; simpa using Heap.get?_push_size _ rfl
  refine kdr_loop (s := { s with heap := _ }) J W (fun _ h => h) (fun _ h => h) ?_ ?_ ?_ ?_ hst (F.push _) (fun p hp => ⟨Heap.get?_push_of_some _ (N p hp).1, (N p hp).2⟩) hj ?_ ?_
  · intro i h hi b hb
    rw [List.mem_singleton.mp hb]
    exact ⟨_, hi⟩
  · intro hm
    exact absurd F.ns.lt ((List.mem_singleton.mp hm) ▸ Nat.lt_irrefl _)
  · intro b hb
    rw [List.mem_singleton.mp hb]
    exact next_is_new F
  · intro p hp hI
    exact absurd (Heap.lt_size (N p hp).1) ((List.mem_singleton.mp hI) ▸ Nat.lt_irrefl _)
  · rintro i v m₁ nx h tk own hi ⟨u, rfl⟩ hoff hJ F₁ N₁
    exact turn i u m₁ nx h tk own hi hoff hJ F₁ N₁
  · intro m₁ nx h tk hJ F₁ N₁
    exact done m₁ nx h tk hJ F₁ N₁
/-- the walk halts here -/
noncomputable def Stop (p : Prop) : Prop := p
theorem For_stop {m : Str → Option Value} {px pos : Pos} {iter : PySem.Expr} (_F : Fr h₀ env.locals s.heap m) (hx : env.kindOf x = some .local)
    (hp : (env.scope.kind == .class || (env.scope.kind == .module && env.locals != env.globals)) = false)
    (hs : ∀ x, foldedSetIterable iter env x = pure x)
    (hE : PassesOwn (model prog w) A env E)
    (h : wpAny (model prog w) A (eval iter env) (fun xv s₁ => Stop (wpAny (model prog w) A (pyIter xv) (fun it s₂ => LoopAtV prog w A h₀ env x body Q E it s₂) E s₁)) E s) :
    wpAny (model prog w) A (exec (.For (.Name x px) iter body [] pos) env) Q E s := For_invVF _F hx hp h hs hE
end
end
local macro_rules | `(tactic| walk_at "MyFor") => `(tactic| (k_here; (rename Fr _ _ _ _ => lF'); with_unfolding_all refine' For_stop lF' ?k1 ?k2 ?k3 ?k4 ?_; (case k1 => k_dflt rfl); (case k2 => k_dflt rfl); (case k3 => k_dflt exact fun _ => rfl); (case k4 => passes_own); k_whole))
section -- C3
open PySem PySem.W PyProof.Rows PySem.Calls LCg
set_option maxRecDepth 100000
set_option maxHeartbeats 2000000
section
variable {prog : Program} {w : World} {A : Around} {E : Value → Shared → Prop} {s : Shared} {h₀ : Heap} {L D : Addr} {m : Str → Option Value} {news news' : Nws} {ys : List Value} {n : Nat}
theorem isl (N : News h₀ L s.heap news) (hm : (D, W.listOf ys.toArray n) ∈ news) : s.heap.IsList D ys.toArray := ⟨_, (N _ hm).1, rfl, _, rfl⟩
theorem item_last {value slice : PySem.Expr} {u : Tok} {v : Value} {Q : Value → Shared → Prop} (N : News h₀ L s.heap news) (hm : (D, W.listOf ys.toArray n) ∈ news) (hv : ys.getLast? = some v) (h : Q v s)
    (hb : subscripted slice false (.ref D) (.int (-1) u) = operate [.ref D, .int (-1) u] (getItem (.ref D) (.int (-1) u)) := by with_unfolding_all rfl) :
    wpAny (model prog w) A (subscriptTail value slice (.ref D) (.int (-1) u)) Q E s := by
  have hl := isl N hm
  have h0 : 0 < ys.length := by cases ys with | nil => cases hv | cons a r => simp
  refine tail_any hl.typeIs slot_list_getitem.lookup (wpAny_getItem_list_neg hl (by decide) (by simp; omega) (by decide) ?_ h) hb
  have e : ((-1 : Int) + (ys.toArray.size : Int)).toNat = ys.length - 1 := by rw [List.size_toArray]; exact an3 _
  rw [e, ← hv, List.getLast?_eq_getElem?]
  simp
theorem item_at {value slice : PySem.Expr} {i : Nat} {u : Tok} {v : Value} {Q : Value → Shared → Prop} (N : News h₀ L s.heap news) (hm : (D, W.listOf ys.toArray n) ∈ news) (hv : ys[i]? = some v) (hi : i < 1000) (h : Q v s)
    (hb : subscripted slice false (.ref D) (.int (i : Int) u) = operate [.ref D, .int (i : Int) u] (getItem (.ref D) (.int (i : Int) u)) := by with_unfolding_all rfl) :
    wpAny (model prog w) A (subscriptTail value slice (.ref D) (.int (i : Int) u)) Q E s := by
  have hl := isl N hm
  refine tail_any hl.typeIs slot_list_getitem.lookup (wpAny_getItem_list hl (by omega) (by omega) ?_ h) hb
  simpa using hv
theorem wpAny_setItem_list_neg {l : Addr} {items : Array Value} {k : Int} {t : Tok} {v : Value} {j : Nat} {Q : Unit → Shared → Prop} (hl : s.heap.IsList l items)
    (h0 : k < 0) (h1 : -(items.size : Int) ≤ k) (hfit : -(2 ^ 63) ≤ k) (hj : (k + items.size).toNat = j)
    (hQ : ∀ h' o', h'.get? l = some o' → (∀ o, s.heap.get? l = some o → o' = Obj.mapSeq (·.setIfInBounds j v) o) → Heap.SameBut l s.heap h' → Q () { s with heap := h' }) :
    wpAny (model prog w) A (setItem (.ref l) (.int k t) v) Q E s := by
  obtain ⟨o, ho, hc, ne, hd⟩ := id hl
  unfold setItem
  try with_reducible refine wpAny_holding ?_
  first | refine wpAny_bind (wpAny_pure ?_) | skip
  refine wpAny_bind (wpAny_sequenceKey hl.typeIs (by decide) ?_)
  refine wpAny_bind (wpAny_callSpecial?_slot (name := Str.ofString "__setitem__") hl.typeIs slot_list_setitem
    (wpAny_call_entry slot_list_setitem hl.typeIs entry_list_setitem ?_ (args_list_setitem _ _ _)))
  show wpAny _ _ (Builtin.List.listSubscript? (.int k t) >>= _) _ _ s
  refine wpAny_bind (wpAny_listSubscript_int (fitsIndex_neg h0 hfit) ?_)
  clear hfit
  have hidx : seqIndex? k items.size = some j := by rw [PySem.seqIndex_neg h0 h1, hj]
  have hj' : j < items.size := by omega
  have hx' : items[j]? = some items[j] := Array.getElem?_eq_getElem hj'
  obtain ⟨i, rfl⟩ : ∃ i : Nat, k = Int.negSucc i := by
    cases k with
    | ofNat n => exact absurd h0 (Int.not_lt.mpr (Int.natCast_nonneg n))
    | negSucc n => exact ⟨n, rfl⟩
  show wpAny _ _ ((Builtin.List.listItems (.ref l) >>= fun xs => pure ((seqIndex? (Int.negSucc i) xs.size).bind fun i => xs[i]?.map (i, ·))) >>= _) _ _ s
  refine wpAny_bind (wpAny_bind ?_)
  show wpAny _ _ (seqItems? (.ref l) >>= _) _ _ s
  refine wpAny_bind (wpAny_seqItems ho hd (wpAny_pure (wpAny_pure ?_)))
  rw [hidx]
  simp only [Option.bind_some, hx', Option.map_some]
  show wpAny _ _ (setSeqItemAt l j v >>= _) _ _ s
  obtain ⟨n', hd'⟩ := Obj.data_mapSeq hd (·.setIfInBounds j v)
  refine wpAny_bind (wpAny_setSeqItemAt ho hd ?_)
  have fin : Q () { s with heap := s.heap.update l (Obj.mapSeq (·.setIfInBounds j v)) } :=
    hQ _ _ (Heap.get?_update_self _ ho (Obj.isFreed_of_seq hd')) (fun o' e => by rw [ho] at e; cases e; rfl) (Heap.SameBut.update ..)
  first
    | exact wpAny_bind (wpAny_pure (wpAny_pure ⟨.none, rfl, wpAny_pure fin⟩))
    | exact wpAny_pure ⟨.none, rfl, wpAny_pure fin⟩
theorem set_at_neg {zs : List Value} {v₀ v : Value} {t : Tok} {Q : Unit → Shared → Prop} (F : Fr h₀ L s.heap m) (N : News h₀ L s.heap news) (U : Upd D (W.listOf (zs ++ [v₀]).toArray n) (W.listOf (zs ++ [v]).toArray n) news news')
    (h : ∀ h', Fr h₀ L h' m → News h₀ L h' news' → Q () { s with heap := h' }) : wpAny (model prog w) A (setItem (.ref D) (.int (-1) t) v) Q E s := by
  obtain ⟨pre, post, rfl, rfl, a, b⟩ := U.split
  have z := N (D, W.listOf (zs ++ [v₀]).toArray n) (List.mem_append.mpr (.inr (.head _)))
  have hl : s.heap.IsList D (zs ++ [v₀]).toArray := PySem.IsL.isList (n := n) z.1
  refine wpAny_setItem_list_neg (j := zs.length) hl (by decide) (by simp; omega) (by decide) (by simp only [List.size_toArray, List.length_append, List.length_singleton]; exact an3 _) fun h' o' e1 e2 hs => ?_
  have e3 := e2 _ z.1
  refine h h' (F.change hs z.2.1 z.2.2) (news_set N a b hs ?_)
  rw [e1, e3]
  have e4 : Obj.mapSeq (fun x => x.setIfInBounds zs.length v) (W.listOf (zs ++ [v₀]).toArray n) = W.listOf (((zs ++ [v₀]).toArray).setIfInBounds zs.length v) (if ((((zs ++ [v₀]).toArray).setIfInBounds zs.length v).size == ((zs ++ [v₀]).toArray).size) = true then n else n + 1) := rfl
  show some (Obj.mapSeq (fun x => x.setIfInBounds zs.length v) (W.listOf (zs ++ [v₀]).toArray n)) = _
  rw [e4, if_pos (by simp)]
  simp
theorem set_at_pos {i : Nat} {v : Value} {t : Tok} {Q : Unit → Shared → Prop} (F : Fr h₀ L s.heap m) (N : News h₀ L s.heap news) (hi : i < ys.length) (hi2 : i < 1000) (U : Upd D (W.listOf ys.toArray n) (W.listOf (ys.set i v).toArray n) news news')
    (h : ∀ h', Fr h₀ L h' m → News h₀ L h' news' → Q () { s with heap := h' }) : wpAny (model prog w) A (setItem (.ref D) (.int (i : Int) t) v) Q E s := by
  obtain ⟨pre, post, rfl, rfl, a, b⟩ := U.split
  have z := N (D, W.listOf ys.toArray n) (List.mem_append.mpr (.inr (.head _)))
  refine ki_setAt z.1 (by omega) (by omega) (by simp; omega) (h _ (F.change (Heap.SameBut.update ..) z.2.1 z.2.2) (ki_turn _ N a b ?_ ?_))
  · simp
  · simp
end
end
section -- D1
open PySem PySem.W PyProof.Rows PySem.Calls LCg
set_option maxRecDepth 100000
/-- the letters -/
noncomputable def letter (c : Nat) : Prop := c = 97 ∨ c = 98 ∨ c = 66 ∨ c = 99
noncomputable def Word (l : List Nat) : Prop := (∀ c ∈ l, letter c) ∧ l.length ≤ 5
abbrev dots (l : List Nat) : List Nat := l.flatMap fun c => [46, c]
abbrev host (l : List Nat) : List Nat := [122] ++ dots l
theorem letter.asc {c : Nat} (h : letter c) : c < 128 := by rcases h with rfl | rfl | rfl | rfl <;> decide
theorem Word.asc {l : List Nat} (h : Word l) : asc l := fun c hc => (h.1 c hc).asc
theorem letter.lo_ne {c : Nat} (h : letter c) : lo c ≠ 46 := by rcases h with rfl | rfl | rfl | rfl <;> decide
theorem letter.lo_dig {c : Nat} (h : letter c) : Sre.isDigit (lo c) = false := by rcases h with rfl | rfl | rfl | rfl <;> decide
theorem dots_len (l : List Nat) : (dots l).length = 2 * l.length := by
  induction l with
  | nil => rfl
  | cons a r ih => simp only [dots, List.flatMap_cons, List.length_append, List.length_cons, List.length_nil] at ih ⊢; omega
theorem dots_lo (l : List Nat) : (dots l).map lo = dots (l.map lo) := by
  induction l with
  | nil => rfl
  | cons a r ih => simp only [dots, List.flatMap_cons, List.map_append, List.map_cons, List.map_nil] at ih ⊢; rw [ih]; rfl
theorem dots_inj : ∀ {a b : List Nat}, dots a = dots b → a = b
  | [], [], _ => rfl
  | [], _ :: _, h => by simp [dots] at h
  | _ :: _, [], h => by simp [dots] at h
  | a :: r, b :: q, h => by
    simp only [dots, List.flatMap_cons, List.cons_append, List.nil_append, List.cons.injEq, true_and] at h
    rw [h.1, dots_inj h.2]
theorem dots_drop (l : List Nat) (k : Nat) : (dots l).drop (2 * k) = dots (l.drop k) := by
  induction k generalizing l with
  | zero => rfl
  | succ k ih =>
    cases l with
    | nil => simp [dots]
    | cons a r =>
      rw [show 2 * (k + 1) = 2 * k + 1 + 1 by omega]
      show (46 :: a :: dots r).drop (2 * k + 1 + 1) = _
      rw [List.drop_succ_cons, List.drop_succ_cons, ih]; rfl
theorem dots_take (l : List Nat) (k : Nat) : (dots l).take (2 * k) = dots (l.take k) := by
  induction k generalizing l with
  | zero => rfl
  | succ k ih =>
    cases l with
    | nil => simp [dots]
    | cons a r =>
      rw [show 2 * (k + 1) = 2 * k + 1 + 1 by omega]
      show (46 :: a :: dots r).take (2 * k + 1 + 1) = _
      rw [List.take_succ_cons, List.take_succ_cons, ih]; rfl
/-- the head of what is left at an even place is no dot -/
theorem dots_odd (l : List Nat) (hl : ∀ c ∈ l, c ≠ 46) (k : Nat) : ((dots l).drop (2 * k + 1))[0]? ≠ some 46 := by
  rw [show (dots l).drop (2 * k + 1) = ((dots l).drop (2 * k)).drop 1 by rw [List.drop_drop], dots_drop]
  cases h : l.drop k with
  | nil => simp [dots]
  | cons a r =>
    have ha : a ∈ l := List.mem_of_mem_drop (i := k) (by rw [h]; exact .head _)
    simpa [dots] using hl a ha
theorem dots_inf {q r : List Nat} (hq : q ≠ []) (hr : ∀ c ∈ r, c ≠ 46) : dots q <:+: 122 :: dots r ↔ q <:+: r := by
  constructor
  · intro h
    obtain ⟨i, h1, h2⟩ := (inf_iff _ _).mp h
    rw [dots_len] at h1 h2
    have hq0 : 0 < q.length := by cases q with | nil => exact absurd rfl hq | cons a r => simp
    have hd : ((122 :: dots r).drop i)[0]? = some 46 := by
      have e := congrArg (fun l => l[0]?) h2
      rw [List.getElem?_take_of_lt (by omega)] at e
      rw [e]
      cases q with
      | nil => exact absurd rfl hq
      | cons a r => rfl
    cases i with
    | zero => simp at hd
    | succ i =>
      rw [List.drop_succ_cons] at hd h2
      rcases Nat.mod_two_eq_zero_or_one i with he | ho
      · obtain ⟨k, rfl⟩ : ∃ k, i = 2 * k := ⟨i / 2, by omega⟩
        rw [dots_drop, dots_take] at h2
        rw [List.length_cons, dots_len] at h1
        exact (inf_iff _ _).mpr ⟨k, by omega, dots_inj h2⟩
      · obtain ⟨k, rfl⟩ : ∃ k, i = 2 * k + 1 := ⟨i / 2, by omega⟩
        exact absurd hd (dots_odd r hr k)
  · rintro ⟨a, b, rfl⟩
    exact ⟨122 :: dots a, dots b, by simp [dots]⟩
theorem dots_last {l : List Nat} (hl : ∀ c ∈ l, c ≠ 46) (x : Nat) (hx : x ≠ 46) : (x :: dots l).getLast? ≠ some 46 := by
  induction l generalizing x with
  | nil => simpa [dots] using hx
  | cons a r ih =>
    show (x :: 46 :: a :: dots r).getLast? ≠ _
    rw [List.getLast?_cons_cons, List.getLast?_cons_cons]
    exact ih (fun c hc => hl c (.tail _ hc)) a (hl a (.head _))
theorem dots_dig {l : List Nat} (hl : ∀ c ∈ l, Sre.isDigit c = false) : ∀ c ∈ dots l, Sre.isDigit c = false := by
  intro c hc
  obtain ⟨a, ha, hc⟩ := List.mem_flatMap.mp hc
  rcases List.mem_cons.mp hc with rfl | hc
  · rfl
  · rw [List.mem_singleton.mp hc]; exact hl a ha
theorem good_dots {l : List Nat} (hd : ∀ c ∈ l, Sre.isDigit c = false) (hl : ∀ c ∈ l, c ≠ 46) (hn : l.length ≤ 200) (x : Nat) (hx : x ≠ 46) (hxd : Sre.isDigit x = false) : GoodH (x :: dots l) := by
  refine ⟨by rw [List.length_cons, dots_len]; omega, fun c hc => ?_, by simp, by simpa using hx, dots_last hl x hx⟩
  rcases List.mem_cons.mp hc with rfl | hc
  · exact hxd
  · exact dots_dig hd c hc
theorem dots_asc {l : List Nat} (h : asc l) : asc (dots l) := by
  intro c hc
  obtain ⟨a, ha, hc⟩ := List.mem_flatMap.mp hc
  rcases List.mem_cons.mp hc with rfl | hc
  · decide
  · rw [List.mem_singleton.mp hc]; exact h a ha
theorem dmp_tel (w : World) (b p : List Nat) (ta tb : Tok) (hb : Word b) (hp : Word p) (hn : p ≠ []) :
    Tel w 50 2 [.str (S (host b)) ta, .str (S (dots p)) tb] (fun _ => True) (fun v tl => tl = [] ∧ v = .bool (decide (p.map lo <:+: b.map lo))) := by
  cases p with
  | nil => exact absurd rfl hn
  | cons c r =>
    have hl : ∀ (l : List Nat), (∀ c ∈ l, letter c) → ∀ c ∈ l.map lo, c ≠ 46 := fun l h c hc => by
      obtain ⟨a, ha, rfl⟩ := List.mem_map.mp hc; exact (h a ha).lo_ne
    have hg : ∀ (l : List Nat), (∀ c ∈ l, letter c) → ∀ c ∈ l.map lo, Sre.isDigit c = false := fun l h c hc => by
      obtain ⟨a, ha, rfl⟩ := List.mem_map.mp hc; exact (h a ha).lo_dig
    have e1 : (host b).map lo = 122 :: dots (b.map lo) := by rw [← dots_lo]; rfl
    have e2 : (dots (c :: r)).map lo = 46 :: lo c :: dots (r.map lo) := by rw [dots_lo]; rfl
    have hcr : ∀ x ∈ r, letter x := fun x hx => hp.1 x (.tail _ hx)
    have h := dm_tel w (host b) (dots (c :: r)) (lo c :: dots (r.map lo)) ta tb
      (fun x hx => (List.mem_cons.mp hx).elim (fun e => by rw [e]; decide) (fun hx => dots_asc hb.asc x hx)) (dots_asc hp.asc) e2
      (by rw [e1]; exact good_dots (hg b hb.1) (hl b hb.1) (by rw [List.length_map]; have := hb.2; omega) 122 (by decide) (by decide))
      (good_dots (hg r hcr) (hl r hcr) (by rw [List.length_map]; have := hp.2; simp at this; omega) (lo c) (hp.1 c (.head _)).lo_ne (hp.1 c (.head _)).lo_dig)
    have e3 : decide ((dots (c :: r)).map lo <:+: (host b).map lo) = decide ((c :: r).map lo <:+: b.map lo) := by
      rw [e1, dots_lo]
      exact decide_eq_decide.mpr (dots_inf (by simp) (hl b hb.1))
    rw [e3] at h
    exact h
end
section -- C4
open PySem PySem.W PyProof.Rows PySem.Calls LCg
set_option maxRecDepth 100000
set_option maxHeartbeats 2000000
theorem offLt {D : Addr} {l : Nws} (h : AllLt D l) : OwnOff l [D] := by
  induction l with
  | nil => intro p hp; cases hp
  | cons q r ih =>
    intro p hp b hb
    rw [List.mem_singleton.mp hb]
    rcases List.mem_cons.mp hp with rfl | hp
    · exact Nat.ne_of_lt h.1
    · exact ih h.2 p hp D (.head _)
theorem off_join {a b : Nws} {l : List Addr} (h1 : OwnOff a l) (h2 : OwnOff b l) : OwnOff (a ++ b) l := fun p hp c hc =>
  (List.mem_append.mp hp).elim (fun h => h1 p h c hc) fun h => h2 p h c hc
theorem off_cons {a : Nws} {x : Addr} {l : List Addr} (h1 : OwnOff a [x]) (h2 : OwnOff a l) : OwnOff a (x :: l) := fun p hp c hc =>
  (List.mem_cons.mp hc).elim (fun h => h1 p hp c (h ▸ .head _)) fun h => h2 p hp c h
theorem off_sub {a : Nws} {l l' : List Addr} (h : OwnOff a l) (hs : ∀ x ∈ l', x ∈ l) : OwnOff a l' := fun p hp c hc => h p hp c (hs c hc)
theorem itemS {prog : Program} {w : World} {A : Around} {E : Value → Shared → Prop} {s : Shared} {value slice : PySem.Expr} {l : List Nat} {t u : Tok} {k : Int} {Q : Value → Shared → Prop} (h0 : 0 ≤ k) (h1 : k < l.length) (hl : l.length ≤ 1000) (h : ∀ t', Q (.str (S [l.getD k.toNat 0]) t') { s with toks := s.toks + 1 })
    (hs : subscripted slice false (.str (S l) t) (.int k u) = operate [.str (S l) t, .int k u] (getItem (.str (S l) t) (.int k u)) := by with_unfolding_all rfl)
    (ht : ∀ r, letTemporaryGo value (.str (S l) t) r = pure () := by intro _; with_unfolding_all rfl) : wpAny (model prog w) A (subscriptTail value slice (.str (S l) t) (.int k u)) Q E s := by
  obtain ⟨i, rfl⟩ := Int.eq_ofNat_of_zero_le h0
  have hi : i < l.length := by omega
  refine item_str (fitsSsize_of (N := 9223372036854775808) (by omega) (by omega) (Int.le_refl _)) (by rw [S_len]; omega) (by rw [S_len]; omega) (fun _ => ?_) hs ht
  rw [item_S l i l[i] (by simp [hi])]
  have := h s.toks
  simpa [List.getD, hi] using this
/-- a fact that the walk does not look at -/
structure Hid (p : Prop) : Prop where
  out : p
/-- the least of a list -/
noncomputable def minL (l : List Int) : Int := l.min?.getD 0
theorem minL_of {l : List Int} {x : Int} (h1 : x ∈ l) (h2 : ∀ a ∈ l, x ≤ a) : minL l = x := by
  unfold minL
  rw [List.min?_eq_some_iff.mpr ⟨h1, h2⟩]; rfl
/-- the greatest of a list -/
noncomputable def maxL (l : List Int) : Int := l.max?.getD 0
theorem maxL_of {l : List Int} {x : Int} (h1 : x ∈ l) (h2 : ∀ a ∈ l, a ≤ x) : maxL l = x := by
  unfold maxL
  rw [List.max?_eq_some_iff.mpr ⟨h1, h2⟩]; rfl
theorem ints_snoc {vs : List Value} {ns : List Int} {i : Int} {t : Tok} (h : IntsAre vs ns) : IntsAre (vs ++ [Value.int i t]) (ns ++ [i]) := IntsAre.append h (.cons _ _ .nil)
section
variable {prog : Program} {w : World} {A : Around} {E : Value → Shared → Prop} {s : Shared} {h₀ : Heap} {L : Addr} {m : Str → Option Value} {news : Nws}
theorem min3N {a b c : Int} {t u x : Tok} {Q : Value → Shared → Prop} (hh : A.handled = none) (F : Fr h₀ L s.heap m) (N : News h₀ L s.heap news)
    (h : ∀ h' tk t', Fr h₀ L h' m → News h₀ L h' news → Q (.int (min (min a b) c) t') { s with heap := h', toks := tk }) :
    wpAny (model prog w) A (call (.builtin "min") [.int a t, .int b u, .int c x]) Q E s :=
  min_three_ints hh fun h' tk hk => by
    have k := fun t' => h h' tk t' (F.grownK hk) (N.grown hk)
    by_cases h1 : b < a
    · by_cases h2 : c < b
      · rw [if_pos h1, if_pos h2]; have := k x; rwa [show min (min a b) c = c by omega] at this
      · rw [if_pos h1, if_neg h2]; have := k u; rwa [show min (min a b) c = b by omega] at this
    · by_cases h2 : c < a
      · rw [if_neg h1, if_pos h2]; have := k x; rwa [show min (min a b) c = c by omega] at this
      · rw [if_neg h1, if_neg h2]; have := k t; rwa [show min (min a b) c = a by omega] at this
theorem min2N {a b : Int} {t u : Tok} {Q : Value → Shared → Prop} (hh : A.handled = none) (F : Fr h₀ L s.heap m) (N : News h₀ L s.heap news)
    (h : ∀ h' tk t', Fr h₀ L h' m → News h₀ L h' news → Q (.int (min a b) t') { s with heap := h', toks := tk }) :
    wpAny (model prog w) A (call (.builtin "min") [.int a t, .int b u]) Q E s :=
  PyProof.Rows.min_two_N hh F N fun h' tk F' N' => by
    by_cases h1 : b < a
    · rw [if_pos h1, if_pos h1]; have := h h' tk u F' N'; rwa [show min a b = b by omega] at this
    · rw [if_neg h1, if_neg h1]; have := h h' tk t F' N'; rwa [show min a b = a by omega] at this
end
theorem ints_snoc' {vs : List Value} {ns : List Int} {i j : Int} {t : Tok} (h : IntsAre vs ns) (e : i = j) : IntsAre (vs ++ [Value.int i t]) (ns ++ [j]) := e ▸ ints_snoc h
theorem ints_range {vs : List Value} {f : Nat → Int} {n : Nat} {i : Int} {t : Tok} (h : IntsAre vs ((List.range n).map f)) (e : i = f n) : IntsAre (vs ++ [Value.int i t]) ((List.range (n + 1)).map f) := by
  rw [List.range_succ, List.map_append]; exact ints_snoc' h e
theorem sub2 {x y : Addr × Obj} {a b : Nws} : ∀ p ∈ x :: y :: a, p ∈ x :: y :: (a ++ b) := fun p hp => by
  rcases List.mem_cons.mp hp with h | hp
  · exact List.mem_cons.mpr (.inl h)
  rcases List.mem_cons.mp hp with h | hp
  · exact List.mem_cons.mpr (.inr (List.mem_cons.mpr (.inl h)))
  · exact List.mem_cons.mpr (.inr (List.mem_cons.mpr (.inr (List.mem_append.mpr (.inl hp)))))
theorem sub2r {x y : Addr × Obj} {a b : Nws} : ∀ p ∈ b, p ∈ x :: y :: (a ++ b) := fun p hp =>
  List.mem_cons.mpr (.inr (List.mem_cons.mpr (.inr (List.mem_append.mpr (.inr hp)))))
theorem sub1 {x : Addr × Obj} {a b : Nws} : ∀ p ∈ x :: a, p ∈ x :: (a ++ b) := fun p hp => by
  rcases List.mem_cons.mp hp with h | hp
  · exact List.mem_cons.mpr (.inl h)
  · exact List.mem_cons.mpr (.inr (List.mem_append.mpr (.inl hp)))
theorem sub1r {x : Addr × Obj} {a b : Nws} : ∀ p ∈ b, p ∈ x :: (a ++ b) := fun p hp => List.mem_cons.mpr (.inr (List.mem_append.mpr (.inr hp)))
theorem subT {d : Addr × Obj} {a b : Nws} (h : ∀ p ∈ a, p ∈ b) : ∀ p ∈ a, p ∈ d :: b := fun p hp => List.mem_cons.mpr (.inr (h p hp))
end
local macro_rules | `(tactic| walk_at "MyItemS") => `(tactic| (k_here; with_reducible refine' itemS ?h0 ?h1 ?hl ?_ ?hs ?ht; k_dflt ((case h0 => with_reducible first | assumption | exact az0 _ | omega); (case h1 => with_reducible first | assumption | exact az1 (by assumption) | omega); (case hl => first | assumption | omega); (case hs => with_unfolding_all rfl); (case ht => (intro _; with_unfolding_all rfl))); intro _))
section -- C5
open PySem PySem.W PyProof.Rows PySem.Calls LCg
set_option maxRecDepth 100000
set_option maxHeartbeats 2000000
section
variable {prog : Program} {w : World} {A : Around} {E : Value → Shared → Prop} {s : Shared} {env : Env} {h₀ : Heap} {x : Str} {px : Pos} {body : List Stmt} {Q : Flow → Shared → Prop}
/-- a turn's end, of a loop whose name is a cell -/
noncomputable def EndT (h₀ : Heap) (L : Addr) (J : (Str → Option Value) → Nws → Prop) (own : Nws) (s₁ : Shared) (f : Flow) (s₂ : Shared) : Prop := f = .next ∧ InvEndG h₀ L J own s₁ s₂
theorem For_stopT {m : Str → Option Value} {target iter : PySem.Expr} {pos : Pos} (_F : Fr h₀ env.locals s.heap m)
    (hs : ∀ x, foldedSetIterable iter env x = pure x)
    (hE : PassesOwn (model prog w) A env E)
    (h : wpAny (model prog w) A (eval iter env) (fun xv s₁ => Stop (wpAny (model prog w) A (pyIter xv) (fun it s₂ => LoopAtT prog w A h₀ env target body Q E it s₂) E s₁)) E s) :
    wpAny (model prog w) A (exec (.For target iter body [] pos) env) Q E s := For_invTF _F h hs hE
theorem loopT {I : Addr} {fp wr : List Addr} {n : Nat} {P : Nat → Value → Prop} {St : Nat → Heap → Prop} {m₀ : Str → Option Value} {news : Nws} (J : Nat → (Str → Option Value) → Nws → Prop)
    (W : Walks prog w A I fp wr n P St) (hfw : ∀ a ∈ fp, a ∈ wr) (hwf : ∀ b ∈ wr, b ∈ fp) (hob : ∀ i h, St i h → ∀ b ∈ wr, ∃ o, h.get? b = some o) (hLf : env.locals ∉ fp) (hwr : ∀ b ∈ wr, h₀.get? b = none) (hnw : ∀ p ∈ news, p.1 ∉ wr) (hst : St 0 s.heap)
    (F : Fr h₀ env.locals s.heap m₀) (N : News h₀ env.locals s.heap news) (hj : J 0 m₀ news)
    (turn : ∀ i v m₁ nx (s₁ : Shared) own, i < n → P i v → OwnOff own (nx.map (·.1)) → J i m₁ nx → Fr h₀ env.locals s₁.heap m₁ → News h₀ env.locals s₁.heap (nx ++ own) →
      wpAny (model prog w) A (storeName env x v) (fun _ s₃ => wpAny (model prog w) A (execs body env) (EndT h₀ env.locals (J (i + 1)) own s₁) E s₃) E s₁)
    (done : ∀ m₁ nx h tk, J n m₁ nx → Fr h₀ env.locals h m₁ → News h₀ env.locals h nx → Q .next { s with heap := h, toks := tk }) :
    LoopAtT prog w A h₀ env (.Name x px) body Q E (.ref I) s := by
  refine ⟨I, fp, wr, n, P, St, m₀, news, fun i m nx => J i m nx, rfl, W, hLf, hwr, hnw, hst, F, N, fun i s' v Q' _ hq => wpAny_of_eq (a := ()) rfl hq, hj, ?_, ?_⟩
  · intro i v m₁ nx s₁ own hin hP hJ hoff hown _ hmem hst' F₁ N₁
    have hsep : OwnOff own (nx.map (·.1)) := by
      intro p hp b hb e
      obtain ⟨q, hq, rfl⟩ := List.mem_map.mp hb
      exact hoff q hq (hfw _ (e ▸ hown p hp))
    have N₂ : News h₀ env.locals s₁.heap (nx ++ own) := fun p hp => N₁ p ((List.mem_append.mp hp).elim (fun h => List.mem_append.mpr (.inr h)) fun h => List.mem_append.mpr (.inl h))
    refine wpAny_assign_Name (wpAny_mono (turn i v m₁ nx s₁ own hin hP hsep hJ F₁ N₂) (fun _ s₃ h₃ => wpAny_mono h₃ (fun f s₂ p => ?_) fun _ _ e => e) fun _ _ e => e)
    obtain ⟨rfl, h', tk, m', news', nx', e, F', N', hn, ho, ha, hm⟩ := p
    refine ⟨rfl, h', tk, m', nx', e, F', fun p hp => N' p ((List.mem_append.mp hp).elim (ho p) (hn p)), fun p hp hq => ?_, hm⟩
    obtain ⟨o, hbo⟩ := hob _ _ hst' _ hq
    exact ha _ (hmem _ (hwf _ hq) (hwr _ hq) o hbo) p.1 (List.mem_map.mpr ⟨p, hp, rfl⟩) rfl
  · intro h' tk m' news' F' N' _ hJ
    exact done m' news' h' tk hJ F' N'
theorem loopT_range {r : Addr} {a b : Int} {t₀ u₀ v₀ : Tok} {n : Nat} {m₀ : Str → Option Value} {news : Nws} (J : Nat → (Str → Option Value) → Nws → Prop)
    (hh : A.handled = none) (hr : IsRange s.heap r a b 1 t₀ u₀ v₀) (hsmall : Builtin.Range.small a b 1 = true) (hsz : Builtin.Range.rangeSize a b 1 = (n : Int)) (F : Fr h₀ env.locals s.heap m₀) (N : News h₀ env.locals s.heap news) (hj : J 0 m₀ news)
    (turn : ∀ i u m₁ nx (s₁ : Shared) own, i < n → OwnOff own (nx.map (·.1)) → J i m₁ nx → Fr h₀ env.locals s₁.heap m₁ → News h₀ env.locals s₁.heap (nx ++ own) →
      wpAny (model prog w) A (storeName env x (.int (a + (i : Nat)) u)) (fun _ s₃ => wpAny (model prog w) A (execs body env) (EndT h₀ env.locals (J (i + 1)) own s₁) E s₃) E s₁)
    (done : ∀ m₁ nx h tk, J n m₁ nx → Fr h₀ env.locals h m₁ → News h₀ env.locals h nx → Q .next { s with heap := h, toks := tk }) :
    wpAny (model prog w) A (pyIter (.ref r)) (fun it s₂ => LoopAtT prog w A h₀ env (.Name x px) body Q E it s₂) E s := by
  refine wpAny_pyIter_range hr hsmall ?_
  have W := range_walks (prog := prog) (w := w) (I := s.heap.objs.size) hh a n
  have hst : IsRangeIter (s.heap.push { cls := .type "range_iterator", data := .fields #[rawInt a, rawInt (Builtin.Range.rangeSize a b 1), rawInt 1] }) s.heap.objs.size (a + ((0 : Nat) : Int) * 1) ((n : Int) - ((0 : Nat) : Int)) 1 := by
    show Heap.get? _ _ = some _
    rw [hsz]; simpa using Heap.get?_push_size _ rfl
  refine loopT (s := { s with heap := _ }) J W (fun _ h => h) (fun _ h => h) ?_ ?_ ?_ ?_ hst (F.push _) (fun p hp => ⟨Heap.get?_push_of_some _ (N p hp).1, (N p hp).2⟩) hj ?_ ?_
  · intro i h hi b hb
    rw [List.mem_singleton.mp hb]
    exact ⟨_, hi⟩
  · intro hm
    exact absurd F.ns.lt ((List.mem_singleton.mp hm) ▸ Nat.lt_irrefl _)
  · intro b hb
    rw [List.mem_singleton.mp hb]
    exact next_is_new F
  · intro p hp hI
    exact absurd (Heap.lt_size (N p hp).1) ((List.mem_singleton.mp hI) ▸ Nat.lt_irrefl _)
  · rintro i v m₁ nx s₁ own hi ⟨u, rfl⟩ hoff hJ F₁ N₁
    exact turn i u m₁ nx s₁ own hi hoff hJ F₁ N₁
  · intro m₁ nx h tk hJ F₁ N₁
    exact done m₁ nx h tk hJ F₁ N₁
end
end
local macro_rules | `(tactic| walk_at "MyForT") => `(tactic| (k_here; (rename Fr _ _ _ _ => lF'); with_unfolding_all refine' For_stopT lF' ?k3 ?k4 ?_; (case k3 => k_dflt exact fun _ => rfl); (case k4 => passes_own); k_whole))
section -- C6
open PySem PySem.W PyProof.Rows PySem.Calls LCg LCt
set_option maxRecDepth 100000
set_option maxHeartbeats 2000000
section
variable {prog : Program} {w : World} {A : Around} {E : Value → Shared → Prop} {s : Shared} {h₀ : Heap} {L : Addr} {m : Str → Option Value} {env : Env}
theorem restT_all {ct elt : PySem.Expr} {x : Str} {scope : Scope} {cl : List (Str × Addr)} {S : Nws → Prop} {P : Nat → Value → Prop} {Fin : List Value → Nws → Prop} {news : Nws} (p : Nat → Bool) (R : Nat → Value → Prop) (hS : S news) (n : Nat)
    (he : ∀ i v I oI C oC D m₂ ys h tk (E' : Value → Shared → Prop), i < n → P i v → NsObj oC m₂ → m₂ x = some v → Fr h₀ L h m → News h₀ L h ((I, oI) :: (C, oC) :: (D, lst ys) :: news) → Off3 I C D news → ((@Ne Nat I C) ∧ (@Ne Nat I D) ∧ (@Ne Nat C D)) →
      wpAny (model prog w) A (isTrue ct (compEnvC scope cl C env) (eval ct (compEnvC scope cl C env))) (fun ok s' => if ok = true then
        p i = true ∧ wpAny (model prog w) A (eval elt (compEnvC scope cl C env)) (EltOk h₀ L m ((I, oI) :: (C, oC) :: (D, lst ys) :: news) { s with heap := h, toks := tk } (R i)) E' s'
        else p i = false ∧ EltOk h₀ L m ((I, oI) :: (C, oC) :: (D, lst ys) :: news) { s with heap := h, toks := tk } (fun _ => True) .none s') E' { s with heap := h, toks := tk }) :
    ∀ (k i : Nat) (ys : List Value) (is : List Nat), i + k = n → is = (List.range i).filter p → ys.length = is.length → (∀ (j : Nat) (y : Value), ys[j]? = some y → ∃ i, is[j]? = some i ∧ R i y) →
      (∀ ys, ys.length = ((List.range n).filter p).length → (∀ (j : Nat) (y : Value), ys[j]? = some y → ∃ i, ((List.range n).filter p)[j]? = some i ∧ R i y) → Fin ys news) → CompRestT prog w A h₀ L m env ct elt x scope cl s S P Fin k i ys news
  | 0, i, ys, is, hi, his, hl, hy, hf => by
    obtain rfl : i = n := by omega
    subst his
    exact .zero (hf ys hl hy)
  | k + 1, i, ys, is, hi, his, hl, hy, hf => by
    refine .succ fun v I oI C oC D m₂ h tk E' hP hN hm F N off ne => ?_
    refine wpAny_mono (he i v I oI C oC D m₂ ys h tk E' (by omega) hP hN hm F N off ne) (fun ok s' hq => ?_) fun _ _ e => e
    cases ok with
    | true =>
      simp only [if_true] at hq ⊢
      obtain ⟨hp, hq⟩ := hq
      refine wpAny_mono hq (fun y s'' hq => ?_) fun _ _ e => e
      obtain ⟨h', tk', rfl, F', N', r⟩ := hq
      refine CompEnd.intro F' N' news (fun _ h => h) off hS ?_
      refine restT_all p R hS n he k (i + 1) (ys ++ [y]) (is ++ [i]) (by omega) (by rw [List.range_succ, List.filter_append, ← his]; simp [hp]) (by simp [hl]) (fun j z hz => ?_) hf
      rw [List.getElem?_append] at hz
      split at hz
      · obtain ⟨i', h1, h2⟩ := hy j z hz
        exact ⟨i', by rw [List.getElem?_append_left (by omega)]; exact h1, h2⟩
      · rename_i hj
        rw [List.getElem?_singleton] at hz
        split at hz
        · obtain rfl : j = is.length := by omega
          cases hz; exact ⟨i, by simp, r⟩
        · cases hz
    | false =>
      simp only [Bool.false_eq_true, if_false] at hq ⊢
      obtain ⟨hp, h', tk', rfl, F', N', _⟩ := hq
      refine CompEnd.intro F' N' news (fun _ h => h) off hS ?_
      exact restT_all p R hS n he k (i + 1) ys is (by omega) (by rw [List.range_succ, List.filter_append, ← his]; simp [hp]) hl hy hf
/-- the object is range(n) -/
noncomputable def RangeTo (h : Heap) (r : Addr) (n : Nat) : Prop := ∃ b t u v, IsRange h r 0 b 1 t u v ∧ b = (n : Int)
theorem RangeTo.mk {h : Heap} {r : Addr} {n : Nat} {b : Int} {t u v : Tok} (hr : IsRange h r 0 b 1 t u v) (e : b = (n : Int)) : RangeTo h r n := ⟨b, t, u, v, hr, e⟩
/-- a comprehension with a test, over a range -/
theorem comp_testR {ct elt iter : PySem.Expr} {x : Str} {px : Pos} {scope : Scope} {cl : List (Str × Addr)} {pos : Pos} {Q : Value → Shared → Prop} (n : Nat) (hn : n ≤ 1000) (p : Nat → Bool) (R : Nat → Value → Prop) (F₀ : Fr h₀ L s.heap m)
    (hclos : closureFor scope env = pure cl) (hcell : ∀ y ∈ scope.names, y.2 ≠ .cell) (hkind : scope.kind = .function)
    (hnames : ∀ y ∈ scope.names, y.2 = .local → scope.names.lookup y.1 = some .local) (hx : scope.names.lookup x = some .local) (hh : A.handled = none)
    (h : wpAny (model prog w) A (eval iter env) (fun xv s₁ => ∃ r news, xv = .ref r ∧ RangeTo s₁.heap r n ∧ Fr h₀ L s₁.heap m ∧ News h₀ L s₁.heap news ∧
      (∀ i u I oI C oC D m₂ ys h tk (E' : Value → Shared → Prop), i < n → NsObj oC m₂ → m₂ x = some (.int (0 + (i : Int)) u) → Fr h₀ L h m → News h₀ L h ((I, oI) :: (C, oC) :: (D, lst ys) :: news) → Off3 I C D news → ((@Ne Nat I C) ∧ (@Ne Nat I D) ∧ (@Ne Nat C D)) →
        wpAny (model prog w) A (isTrue ct (compEnvC scope cl C env) (eval ct (compEnvC scope cl C env))) (fun ok s' => if ok = true then
          p i = true ∧ wpAny (model prog w) A (eval elt (compEnvC scope cl C env)) (EltOk h₀ L m ((I, oI) :: (C, oC) :: (D, lst ys) :: news) { s₁ with heap := h, toks := tk } (R i)) E' s'
          else p i = false ∧ EltOk h₀ L m ((I, oI) :: (C, oC) :: (D, lst ys) :: news) { s₁ with heap := h, toks := tk } (fun _ => True) .none s') E' { s₁ with heap := h, toks := tk }) ∧
      (∀ D h tk ys, ys.length = ((List.range n).filter p).length → (∀ (j : Nat) (y : Value), ys[j]? = some y → ∃ i, ((List.range n).filter p)[j]? = some i ∧ R i y) → Fr h₀ L h m → News h₀ L h ((D, lst ys) :: news) → Off1 D news → Stop (Q (.ref D) { s₁ with heap := h, toks := tk }))) E s)
    (hs : ∀ x, foldedSetIterable iter env x = pure x := by intro _; rfl) :
    wpAny (model prog w) A (eval (.ListComp elt [⟨.Name x px, iter, [ct], 0⟩] scope pos) env) Q E s := by
  refine ListComp_T F₀ hclos hcell hkind hnames hx (wpAny_mono h (fun xv s₁ h₁ => ?_) fun _ _ e => e) hs
  obtain ⟨r, news, rfl, ⟨b, t, u, v, hr, rfl⟩, F, N, he, hQ⟩ := h₁
  refine CompSrcT.range (n := n) hh F N hr (small_one (by omega) (by omega) (by omega) (by omega)) (by rw [rangeSize_nat]; simp) (Nat.le_trans hn (by decide)) fun g => ?_
  refine restT_all p R trivial n (fun i v I oI C oC D m₂ ys h tk E' hi hP hN hm F N off ne => ?_) n 0 [] [] (by omega) rfl rfl (fun j y hy => by simp at hy) (fun ys hl hr => ?_)
  · obtain ⟨t, rfl⟩ := hP
    exact he i t I oI C oC D m₂ ys h tk E' hi hN hm F N off ne
  · intro D h tk F N o1
    exact hQ D h tk ys hl hr F N o1
theorem ints_of {ys : List Value} : ∀ {ns : List Int}, ys.length = ns.length → (∀ (j : Nat) (y : Value), ys[j]? = some y → ∃ n t, ns[j]? = some n ∧ y = Value.int n t) → IntsAre ys ns := by
  induction ys with
  | nil => intro ns h _; cases ns with | nil => exact .nil | cons a r => simp at h
  | cons y ys ih =>
    intro ns h hr
    cases ns with
    | nil => simp at h
    | cons a r =>
      obtain ⟨w, t, h1, rfl⟩ := hr 0 y rfl
      cases h1
      exact .cons _ _ (ih (by simpa using h) fun j z hz => hr (j + 1) z hz)
theorem ints_filter {ys : List Value} {is : List Nat} {f : Nat → Int} (hl : ys.length = is.length) (hr : ∀ (j : Nat) (y : Value), ys[j]? = some y → ∃ i, is[j]? = some i ∧ ∃ t, y = Value.int (f i) t) : IntsAre ys (is.map f) := by
  refine ints_of (by simpa using hl) fun j y hy => ?_
  obtain ⟨i, h1, t, rfl⟩ := hr j y hy
  exact ⟨f i, t, by simp [h1], rfl⟩
theorem stop_of {p : Prop} (h : Stop p) : p := h
end
end
section -- C7
open PySem PySem.W PyProof.Rows PySem.Calls LCg LCt
set_option maxRecDepth 100000
set_option maxHeartbeats 2000000
theorem news_tl {h₀ h : Heap} {L : Addr} {p : Addr × Obj} {news : Nws} (N : News h₀ L h (p :: news)) : News h₀ L h news := fun q hq => N q (.tail _ hq)
section
variable {prog : Program} {w : World} {A : Around} {E : Value → Shared → Prop} {s : Shared} {h₀ : Heap} {L : Addr} {m : Str → Option Value} {env : Env}
/-- a comprehension over range(n), without a test -/
theorem comp_R {elt iter : PySem.Expr} {x : Str} {px : Pos} {scope : Scope} {cl : List (Str × Addr)} {pos : Pos} {Q : Value → Shared → Prop} (n : Nat) (hn : n ≤ 1000) (R : Nat → Value → Prop) (_F₀ : Fr h₀ L s.heap m)
    (hclos : closureFor scope env = pure cl) (hcell : ∀ y ∈ scope.names, y.2 ≠ .cell) (hkind : scope.kind = .function)
    (hnames : ∀ y ∈ scope.names, y.2 = .local → scope.names.lookup y.1 = some .local) (hx : scope.names.lookup x = some .local) (hh : A.handled = none)
    (h : wpAny (model prog w) A (eval iter env) (fun xv s₁ => ∃ r news, xv = .ref r ∧ RangeTo s₁.heap r n ∧ Fr h₀ L s₁.heap m ∧ News h₀ L s₁.heap news ∧
      (∀ i u I oI C oC D m₂ ys h tk (E' : Value → Shared → Prop), i < n → NsObj oC m₂ → m₂ x = some (.int (0 + (i : Int)) u) → Fr h₀ L h m → News h₀ L h ((I, oI) :: (C, oC) :: (D, lst ys) :: news) → Off3 I C D news → ((@Ne Nat I C) ∧ (@Ne Nat I D) ∧ (@Ne Nat C D)) →
        wpAny (model prog w) A (eval elt (compEnvC scope cl C env)) (EltOk h₀ L m ((I, oI) :: (C, oC) :: (D, lst ys) :: news) { s₁ with heap := h, toks := tk } (R i)) E' { s₁ with heap := h, toks := tk }) ∧
      (∀ D h tk ys, ys.length = n → (∀ (j : Nat) (y : Value), ys[j]? = some y → R j y) → Fr h₀ L h m → News h₀ L h ((D, lst ys) :: news) → Off1 D news → Stop (Q (.ref D) { s₁ with heap := h, toks := tk }))) E s)
    (hs : ∀ x, foldedSetIterable iter env x = pure x := by intro _; rfl) :
    wpAny (model prog w) A (eval (.ListComp elt [⟨.Name x px, iter, [], 0⟩] scope pos) env) Q E s := by
  rw [eval_ListComp]
  refine wpAny_comprehension_free (use := none) rfl hs hclos hkind hnames (wpAny_mono h (fun xv s₁ h₁ => ?_) fun _ _ e => e)
  obtain ⟨r, news, rfl, ⟨b, t, u, v, hr, rfl⟩, F, N, he, hQ⟩ := h₁
  refine wpAny_pyIter_range hr (small_one (by omega) (by omega) (by omega) (by omega)) ?_
  have W := (range_walks (prog := prog) (w := w) (I := s₁.heap.objs.size) hh 0 n).bound
  have hsz : Builtin.Range.rangeSize 0 (n : Int) 1 = (n : Int) := by rw [rangeSize_nat]; simp
  have hst : IsRangeIter (s₁.heap.push { cls := .type "range_iterator", data := .fields #[rawInt 0, rawInt (Builtin.Range.rangeSize 0 (n : Int) 1), rawInt 1] }) s₁.heap.objs.size (0 + ((0 : Nat) : Int) * 1) ((n : Int) - ((0 : Nat) : Int)) 1 := by
    show Heap.get? _ _ = some _
    rw [hsz]; simpa using Heap.get?_push_size _ rfl
  refine block_U (S := fun _ => True) (RR := compPost _ _ _ _ _) W (Nat.le_trans hn (by decide)) (fun i h st => ⟨_, st⟩) (fun i h h' o nw st e e' _ _ _ => W.frame _ _ _ st fun b hb o' q => by
      rw [List.mem_singleton.mp hb] at q ⊢; rw [e] at q; cases q; exact e') hcell hkind hx hst (fun b hb => ?_)
    (F.keeps fun _ _ e => Heap.get?_push_of_some _ e) (N.grown fun _ _ e => Heap.get?_push_of_some _ e) (Nat.ne_of_lt F.ns.lt) (next_is_new F) (fun p hp => Nat.ne_of_lt (Heap.lt_size (N p hp).1)) trivial
    (rest_all (s := { s₁ with heap := _ }) (P := fun i v => i < n ∧ ∃ t, v = Value.int (0 + (i : Int)) t) R trivial (fun i v I oI C oC D m₂ ys h tk E' hP hN hm F N off ne => ?_) n 0 [] rfl (fun j y hy => by simp at hy)
      (Fin := fun ys nw => ∀ D h tk, Fr h₀ L h m → News h₀ L h ((D, lst ys) :: nw) → Off1 D nw → Q (.ref D) { s₁ with heap := h, toks := tk }) (fun ys hys hr D h tk F N o1 => hQ D h tk ys (by omega) hr F N o1)) ?_
  · rw [List.mem_singleton.mp hb]
    show s₁.heap.objs.size < (s₁.heap.push _).objs.size
    rw [Heap.size_push]; exact Nat.lt_succ_self _
  · obtain ⟨hi, t, rfl⟩ := hP
    exact he i t I oI C oC D m₂ ys h tk E' hi hN hm F N off ne
  · intro D C h tk m' ys news' F' N' o1 hn hC₀ hD₀ hCL hDL hCD offC fin
    refine ⟨m', hn, fun h'' hs'' => fin D h'' tk (F'.change hs'' hCL hC₀) (fun p hp => ?_) o1⟩
    refine ⟨hs''.extBut _ _ ?_ (N' p hp).1, (N' p hp).2⟩
    rcases List.mem_cons.mp hp with rfl | hp
    · exact Ne.symm hCD
    · exact offC p hp
end
end
local macro_rules | `(tactic| walk_at "Fr") => `(tactic| k_dflt assumption)
local macro_rules | `(tactic| walk_at "News") => `(tactic| k_dflt assumption)
local macro_rules | `(tactic| walk_at "EltOk") => `(tactic| (refine EltOk.intro (by assumption) (by first | assumption | exact news_tl (by assumption)) ?_))
section -- W3
open PySem PySem.W PyProof.Rows PySem.Calls LCg
set_option maxRecDepth 100000
set_option maxHeartbeats 8000000
noncomputable def pstep (b : List Nat) (st : List (List Nat) × List Nat) (c : Nat) : List (List Nat) × List Nat := if (st.2 ++ [c]).map lo <:+: b.map lo then (st.1, st.2 ++ [c]) else (st.1 ++ [st.2], [])
noncomputable def pfold (b a : List Nat) : List (List Nat) × List Nat := a.foldl (pstep b) ([], [])
noncomputable def pieces (b a : List Nat) : List (List Nat) := (pfold b a).1 ++ [(pfold b a).2]
theorem pfold_snoc (b a : List Nat) (c : Nat) : pfold b (a ++ [c]) = pstep b (pfold b a) c := by simp [pfold]
theorem pfold_word {b a : List Nat} (ha : Word a) : Word (pfold b a).2 := by
  suffices h : ∀ (l pre : List Nat), (∀ c ∈ l, letter c) → ∀ st : List (List Nat) × List Nat, ((∀ c ∈ st.2, letter c) ∧ st.2.length ≤ pre.length) → (∀ c ∈ (l.foldl (pstep b) st).2, letter c) ∧ (l.foldl (pstep b) st).2.length ≤ pre.length + l.length by
    have := h a [] ha.1 ([], []) ⟨by simp, by simp⟩
    exact ⟨this.1, Nat.le_trans this.2 (by simpa using ha.2)⟩
  intro l
  induction l with
  | nil => intro pre _ st h; simpa using h
  | cons c r ih =>
    intro pre hl st h
    have h2 := ih (pre ++ [c]) (fun x hx => hl x (.tail _ hx)) (pstep b st c) (by
      unfold pstep
      split
      · refine ⟨fun x hx => ?_, by simp; exact h.2⟩
        rcases List.mem_append.mp hx with hx | hx
        · exact h.1 x hx
        · rw [List.mem_singleton.mp hx]; exact hl c (.head _)
      · exact ⟨by simp, by simp⟩)
    rw [List.foldl_cons]
    refine ⟨h2.1, Nat.le_trans h2.2 (by simp; omega)⟩
theorem pfold_len (b a : List Nat) : (pfold b a).1.length + (pfold b a).2.length ≤ a.length := by
  suffices h : ∀ (l : List Nat) (st : List (List Nat) × List Nat), (l.foldl (pstep b) st).1.length + (l.foldl (pstep b) st).2.length ≤ st.1.length + st.2.length + l.length by simpa [pfold] using h a ([], [])
  intro l
  induction l with
  | nil => intro st; simp
  | cons c r ih =>
    intro st
    rw [List.foldl_cons]
    refine Nat.le_trans (ih _) ?_
    unfold pstep
    split <;> simp <;> omega
theorem strs_snoc {vs : List Value} {ds : List (List Nat)} {cur : List Nat} {t : Tok} (h : StrsAre vs (ds.map S)) : StrsAre (vs ++ [Value.str (S cur) t]) ((ds ++ [cur]).map S) := by
  rw [List.map_append]
  exact h.append' (.cons _ _ .nil)
theorem strs_length {vs : List Value} {ys : List Str} (h : StrsAre vs ys) : vs.length = ys.length := by
  induction h with
  | nil => rfl
  | cons y t h ih => simp [ih]
section
variable {prog : Program} {w : World} {A : Around} {E : Value → Shared → Prop} {s : Shared} {h₀ : Heap} {L D : Addr} {m : Str → Option Value} {news news' : Nws} {ys : List Value} {n : Nat}
theorem append_L {x : Value} {Q : Value → Shared → Prop} (F : Fr h₀ L s.heap m) (N : News h₀ L s.heap news) (U : Upd D (W.listOf ys.toArray n) (W.listOf (ys ++ [x]).toArray (n + 1)) news news') (hl : ys.length ≤ 1000)
    (h : ∀ h', Fr h₀ L h' m → News h₀ L h' news' → Q .none { s with heap := h' }) : wpAny (model prog w) A (call (.builtin "list.append") [.ref D, x]) Q E s := by
  have e : W.listOf (ys ++ [x]).toArray (n + 1) = W.listOf (ys.toArray.push x) (n + 1) := by simp
  rw [e] at U
  exact append_K F N U h (by simp; exact Nat.le_trans hl (by decide))
end
section
local macro_rules | `(tactic| walk_at "eval ListComp") => `(tactic| (k_here; k_dflt (refine' comp_str (fun l i y => ∃ c t, l[i]? = some c ∧ y = Value.str (S [46, c]) t) ?k0 ?k1 ?k2 ?k3 ?k4 ?k5 ?k6 ?_ ?k7; (case k0 => k_asm); (case k1 => rfl); (case k2 => decide); (case k3 => rfl); (case k4 => decide); (case k5 => rfl); (case k6 => rfl); (case k7 => exact fun _ => rfl))))
local macro_rules | `(tactic| walk_at "Short") => `(tactic| assumption)
local macro_rules | `(tactic| walk_at "binaryOp Add str str") => `(tactic| (k_here; refine' add_SE ?hx ?hy ?ha ?hb ?_; (case hx => first | exact dot_S | exact z_S | exact empty_S | with_reducible exact rfl); (case hy => first | exact dot_S | exact z_S | exact empty_S | with_reducible exact rfl); (case ha => first | assumption | exact Short.len (by assumption) | exact Nat.le_of_ble_eq_true rfl); (case hb => first | assumption | exact Short.len (by assumption) | exact Nat.le_of_ble_eq_true rfl)))
local macro_rules | `(tactic| walk_at "call builtin:str.join") => `(tactic| (k_here; refine' call_join_dots ?hx ?N ?hl ?hr ?hw ?_; (case hx => exact empty_S); (case N => k_dflt assumption); (case hl => assumption); (case hr => assumption); (case hw => assumption); intro _ _ _))
local macro_rules | `(tactic| walk_at "exec For") => `(tactic| (k_here; (rename Fr _ _ _ _ => lF'); with_unfolding_all refine' For_stop lF' ?k1 ?k2 ?k3 ?k4 ?_; (case k1 => k_dflt rfl); (case k2 => k_dflt rfl); (case k3 => k_dflt exact fun _ => rfl); (case k4 => passes_own); k_whole))
local macro_rules | `(tactic| walk_at "call ref") => `(tactic| (k_here; with_reducible refine' Tel.use (dmp_tel _ _ _ _ _ ?a1 ?a2 ?a3) ?k1 ?k2 ?k3 ?k4 ?k5 ?k6 trivial ?k7 ?k8 ?_; k_dflt (walk_at "MyK"; walk_at "MyA"; (case a3 => assumption)); walk_at "MyX"))
local macro_rules | `(tactic| walk_at "subscriptTail") => `(tactic| (k_here; with_reducible refine' item_last ?N ?hm ?hv ?_ ?hb; k_dflt ((case N => k_asm); (case hm => k_mem); (case hv => exact List.getLast?_concat); (case hb => with_unfolding_all rfl))))
local macro_rules | `(tactic| walk_at "setItem ref int") => `(tactic| (k_here; k_dflt (refine' set_at_neg ?F ?N ?U ?_; (case F => k_asm); (case N => k_asm); (case U => k_upd)); intro _ _ _; (try k_sweep)))
local macro_rules | `(tactic| walk_at "call builtin:list.append") => `(tactic| (k_here; k_dflt (refine' append_L ?F ?N ?U ?hl ?_; (case F => k_asm); (case N => k_asm); (case U => k_upd); (case hl => first | assumption | exact Nat.le_of_ble_eq_true rfl)); intro _ _ _; (try k_sweep)))
noncomputable def piecesJ (a b : List Nat) (ta tb : Tok) (i : Nat) (m : Str → Option Value) (nx : Nws) : Prop :=
  ∃ D th ds cur ys t n, pfold b (a.take i) = (ds, cur) ∧ StrsAre ys (ds.map S) ∧ nx = [(D, W.listOf (ys ++ [Value.str (S cur) t]).toArray n)] ∧
    Kn m [(Str.ofString "outer", Value.str (S a) ta), (Str.ofString "inner", .str (S b) tb), (Str.ofString "host", .str (S (host b)) th), (Str.ofString "pieces", .ref D)]
theorem pieces_tel (w : World) (a b : List Nat) (ta tb : Tok) (ha : Word a) (hb : Word b) :
    Tel w 81 3 [.str (S a) ta, .str (S b) tb] (fun _ => True) (fun v tl => ∃ D ys n, v = .ref D ∧ tl = [(D, W.listOf ys.toArray n)] ∧ StrsAre ys ((pieces b a).map S)) := by
  w_top off
  refine' tel_plain [(Str.ofString "outer", .str (S a) ta), (Str.ofString "inner", .str (S b) tb)] ?ho ?hcd ?hb ?hl ?hc ?h1 ?h2 ?h3 ?h
  walk_at "MyPlain"
  intro mean mg mb dp un gd outer A₀ base g L s B F X N T hpre hd0 hu
  have sb : Short b := ⟨hb.asc, Nat.le_trans hb.2 (by decide)⟩
  have lb : b.length ≤ 300 := Nat.le_trans hb.2 (by decide)
  have hbD : (b.flatMap fun c => [46, c]).length ≤ 1000 := by have h1 := dots_len b; have h2 := hb.2; unfold dots at h1; omega
  k_steps
  rename Fr _ _ _ _ => F1
  rename News _ _ _ _ => N1
  unfold Stop
  rw [empty_S] at N1
  refine loop_str (piecesJ a b ta tb) rfl ha.asc F1 (fun p hp => N1 p (List.mem_cons.mpr (.inl (List.mem_singleton.mp hp)))) ?j0 ?turn ?done
  · exact ⟨_, _, [], [], [], _, _, rfl, .nil, rfl, rfl, rfl, rfl, rfl, trivial⟩
  · intro i c u m₁ nx h tk own hc off hJ F2 N2
    obtain ⟨D, th, ds, cur, ys, t, n, hp, hs, rfl, hk⟩ := hJ
    rw [frm_self hk] at F2
    clear hk F1 N1
    change Fr g L h _ at F2
    change News g L h _ at N2
    simp only [List.cons_append, List.nil_append] at N2
    simp only [List.map_cons, List.map_nil] at off
    have hcl : letter c := ha.1 c (List.mem_of_getElem? hc)
    have hi : i < a.length := by
      have := List.getElem?_eq_some_iff.mp hc; exact this.1
    have hcur : Word cur := by
      have := pfold_word (b := b) (a := a.take i) ⟨fun x hx => ha.1 x (List.mem_of_mem_take hx), by have := ha.2; simp; omega⟩
      rw [hp] at this; exact this
    have hw : Word (cur ++ [c]) := by
      have := pfold_snoc b (a.take i) c
      rw [hp] at this
      refine ⟨fun x hx => (List.mem_append.mp hx).elim (hcur.1 x) (fun h => by rw [List.mem_singleton.mp h]; exact hcl), ?_⟩
      have h1 := pfold_len b (a.take i)
      rw [hp] at h1
      have := ha.2
      simp at h1 ⊢; omega
    have lc : cur.length ≤ 1000 := Nat.le_trans hcur.2 (by decide)
    have sw : Short (cur ++ [c]) := ⟨hw.asc, Nat.le_trans hw.2 (by decide)⟩
    have lw : (cur ++ [c]).length ≤ 300 := Nat.le_trans hw.2 (by decide)
    have nw : cur ++ [c] ≠ [] := by simp
    have ly : (ys ++ [Value.str (S cur) t]).length ≤ 1000 := by
      have h1 := pfold_len b (a.take i)
      rw [hp] at h1
      have h2 := strs_length hs
      have := ha.2
      simp at h1 h2 ⊢; omega
    have e := pfold_snoc b (a.take i) c
    have et : a.take (i + 1) = a.take i ++ [c] := by rw [List.take_add_one, hc]; rfl
    rw [← et, hp] at e
    k_steps
    · refine InvEndG.intro (by assumption) (by assumption) ⟨D, th, ds, cur ++ [c], ys, _, n, ?_, hs, rfl, rfl, rfl, rfl, rfl, trivial⟩ off (fun p hp => List.mem_cons.mpr (.inl (List.mem_singleton.mp hp))) (fun p hp => List.mem_cons.mpr (.inr hp))
      rw [e]; unfold pstep; rw [if_pos (by assumption)]
    · rename News _ _ _ _ => N3
      rw [empty_S] at N3
      refine InvEndG.intro (by assumption) N3 ⟨D, th, ds ++ [cur], [], ys ++ [Value.str (S cur) t], _, n + 1, ?_, strs_snoc hs, rfl, rfl, rfl, rfl, rfl, trivial⟩ off (fun p hp => List.mem_cons.mpr (.inl (List.mem_singleton.mp hp))) (fun p hp => List.mem_cons.mpr (.inr hp))
      rw [e]; unfold pstep; rw [if_neg (by assumption)]
  · intro m₁ nx h tk hJ F2 N2
    obtain ⟨D, th, ds, cur, ys, t, n, hp, hs, rfl, hk⟩ := hJ
    rw [frm_self hk] at F2
    rw [List.take_length] at hp
    clear hk F1 N1
    change Fr g L h _ at F2
    change News g L h _ at N2
    (try dsimp only)
    k_steps
    refine FinC.intro (by assumption) (by assumption) ⟨D, _, n, rfl, rfl, ?_⟩
    have : pieces b a = ds ++ [cur] := by unfold pieces; rw [hp]
    rw [this]; exact strs_snoc hs
end
end
local macro_rules | `(tactic| walk_at "call builtin:list.append") => `(tactic| (k_here; k_dflt (refine' append_L ?F ?N ?U ?hl ?_; (case F => k_asm); (case N => k_asm); (case U => k_upd); (case hl => first | assumption | exact Nat.le_of_ble_eq_true rfl)); intro _ _ _; (try k_sweep)))
local macro_rules | `(tactic| walk_at "exec For Name Name cons nil") => `(tactic| walk_at "MyFor")
local macro_rules | `(tactic| walk_at "exec For Name Call cons nil") => `(tactic| walk_at "MyFor")
local macro_rules | `(tactic| walk_at "subscriptTail Name BinOp str int") => `(tactic| walk_at "MyItemS")
local macro_rules | `(tactic| walk_at "subscriptTail Name Name str int") => `(tactic| walk_at "MyItemS")
section -- W4
open PySem PySem.W PyProof.Rows PySem.Calls LCg
set_option maxRecDepth 100000
set_option maxHeartbeats 8000000
section
noncomputable def holesJ (a b : List Nat) (ta tb : Tok) (H : Nat → List Int) (i : Nat) (m : Str → Option Value) (nx : Nws) : Prop :=
  ∃ R ys n, IntsAre ys (H i) ∧ nx = [(R, W.listOf ys.toArray n)] ∧ Kn m [(Str.ofString "outer", Value.str (S a) ta), (Str.ofString "inner", .str (S b) tb), (Str.ofString "row", .ref R)]
noncomputable def holesJ2 (a b : List Nat) (ta tb u : Tok) (c : Nat) (R : Addr) (ysR : List Value) (nR : Nat) (own : Nws) (H : Nat → List Int) (j : Nat) (m : Str → Option Value) (nx : Nws) : Prop :=
  ∃ Lt ys n, @LT.lt Nat _ R Lt ∧ AllLt Lt own ∧ IntsAre ys (H j) ∧ nx = (Lt, W.listOf ys.toArray n) :: (R, W.listOf ysR.toArray nR) :: own ∧ Kn m [(Str.ofString "outer", Value.str (S a) ta), (Str.ofString "inner", .str (S b) tb), (Str.ofString "row", .ref R), (Str.ofString "sign", .str (S [c]) u), (Str.ofString "later", .ref Lt)]
noncomputable def hcell (b : List Nat) (row : List Int) (c k : Nat) : Int :=
  if 0 < k ∧ b.getD (k - 1) 0 = c then min (1 + minL (row.take (k + 1))) (row.getD (k - 1) 0) else 1 + minL (row.take (k + 1))
noncomputable def hstep (b : List Nat) (row : List Int) (c : Nat) : List Int := (List.range row.length).map (hcell b row c)
noncomputable def hrow (b a : List Nat) : List Int := a.foldl (hstep b) (0 :: List.replicate b.length 9)
theorem hrow_snoc (b a : List Nat) (c : Nat) : hrow b (a ++ [c]) = hstep b (hrow b a) c := by simp [hrow]
theorem hrow_len (b a : List Nat) : (hrow b a).length = b.length + 1 := by
  suffices h : ∀ (l : List Nat) (row : List Int), row.length = b.length + 1 → (l.foldl (hstep b) row).length = b.length + 1 from h a _ (by simp)
  intro l
  induction l with
  | nil => intro row h; exact h
  | cons c r ih => intro row h; exact ih _ (by simp [hstep, h])
theorem holes_tel (w : World) (a b : List Nat) (ta tb : Tok) (ha : Word a) (hb : Word b) :
    Tel w 98 2 [.str (S a) ta, .str (S b) tb] (fun _ => True) (fun v tl => tl = [] ∧ ∃ t, v = .int ((hrow b a).getD b.length 0) t) := by
  w_top off
  refine' tel_plain [(Str.ofString "outer", .str (S a) ta), (Str.ofString "inner", .str (S b) tb)] ?ho ?hcd ?hb ?hl ?hc ?h1 ?h2 ?h3 ?h
  walk_at "MyPlain"
  intro mean mg mb dp un gd outer A₀ base g L s B F X N T hpre hd0 hu
  have lb : b.length ≤ 5 := hb.2
  have lb2 : (S b).length ≤ 5 := by rw [S_len]; exact hb.2
  k_steps
  rename Fr _ _ _ _ => F1
  rename News _ _ _ _ => N1
  unfold Stop
  refine loop_str (holesJ a b ta tb (fun i => hrow b (a.take i))) rfl ha.asc F1 (fun p hp => N1 p (List.mem_cons.mpr (.inl (List.mem_singleton.mp hp)))) ?j0 ?turn ?done
  · refine ⟨_, _, _, ?_, rfl, rfl, rfl, rfl, trivial⟩
    have e : hrow b (a.take 0) = [0] ++ (List.replicate (↑(S b).length : Int).toNat [(9 : Int)]).flatten := by
      rw [S_len, Int.toNat_natCast]
      show (0 : Int) :: List.replicate b.length 9 = [0] ++ _
      simp
    change IntsAre _ (hrow b (a.take 0))
    rw [e]; assumption
  · intro i c u m₁ nx h tk own hc off hJ F2 N2
    obtain ⟨R, ys, n, hys, rfl, hk⟩ := hJ
    rw [frm_self hk] at F2
    clear hk F1 N1
    change Fr g L h _ at F2
    change News g L h _ at N2
    simp only [List.cons_append, List.nil_append] at N2
    simp only [List.map_cons, List.map_nil] at off
    have hH := hrow_len b (a.take i)
    change IntsAre ys (hrow b (a.take i)) at hys
    generalize hrw : hrow b (a.take i) = row at hys hH
    have hyl := hys.length
    have hid : Hid (row.length = b.length + 1 ∧ b.length ≤ 5) := ⟨hH, lb⟩
    have hyl5 : row.length ≤ 1000 := by omega
    have hyl6 : ys.length ≤ 1000 := by omega
    clear lb lb2 hH
    k_steps
    rename Fr _ _ _ _ => F1
    rename News _ _ _ _ => N1
    rename R < _ ∧ _ => hlt
    unfold Stop
    refine loop_range (n := row.length) (holesJ2 a b ta tb u c R ys n own (fun j => (List.range j).map (hcell b row c))) rfl (by assumption) ?sm ?rs F1 N1 ?j1 ?turn1 ?done1
    · exact small_one (by omega) (by omega) (by omega) (by omega)
    · rw [rangeSize_nat]; simp
    · exact ⟨_, [], 0, hlt.1, hlt.2, .nil, rfl, rfl, rfl, rfl, rfl, rfl, trivial⟩
    · intro j v m₂ nx2 h2 tk2 own2 hj off2 hJ2 F3 N3
      obtain ⟨Lt, ys2, n2, hlt1, hlt2, hys2, rfl, hk2⟩ := hJ2
      rw [frm_self hk2] at F3
      clear hk2 F1 N1
      change Fr g L h2 _ at F3
      change News g L h2 _ at N3
      simp only [List.cons_append, List.nil_append] at N3
      simp only [List.map_cons, List.map_nil] at off2
      have offB := off_join (off_cons (offLt hlt2) off) (off_sub off2 (fun x hx => by simp at hx ⊢; rcases hx with h | h <;> simp [h]))
      have hjb : j ≤ b.length := by have := hid.out.1; omega
      have lbb : b.length ≤ 1000 := by have := hid.out.2; omega
      have ly2 : ys2.length ≤ 1000 := by have := hys2.length; simp at this; omega
      have hrow := hid.out.1
      clear hid
      have tk1 : (0 + (j : Int) + 1).toNat = j + 1 := an1 j
      have e2 : (0 + (j : Int) - 1).toNat = j - 1 := an2 j
      k_steps
      all_goals (
        (rename ∀ a, a ∈ List.take _ row → _ ≤ a => hmin)
        (rename _ ∈ List.take _ row => hmem)
        rw [tk1] at hmin hmem
        have hm := minL_of hmem hmin
        refine InvEndG.intro (by assumption) (by assumption) ⟨Lt, _, n2 + 1, hlt1, hlt2, ints_range hys2 ?_, rfl, rfl, rfl, rfl, rfl, rfl, trivial⟩ off2 (subT sub2) (subT sub2r)
        unfold hcell
        rw [hm])
      · rename (S _ == S _) = true => he
        rw [S_beq, e2, decide_eq_true_eq] at he
        have hj0 : 0 < j := by omega
        have hcn : 0 < j ∧ b.getD (j - 1) 0 = c := ⟨hj0, (List.cons.inj he).1⟩
        rw [if_pos hcn, e2]
        split <;> omega
      · rename (S _ == S _) = false => he
        rw [S_beq, e2, decide_eq_false_iff_not] at he
        rw [if_neg (fun q => he (by rw [q.2]))]
      · rename ¬ (0 < 0 + (j : Int)) => he
        rw [if_neg (fun q => he (by have := q.1; omega))]
    · intro m₂ nx2 h2 tk2 hJ2 F3 N3
      obtain ⟨Lt, ys2, n2, hlt1, hlt2, hys2, rfl, hk2⟩ := hJ2
      rw [frm_self hk2] at F3
      clear hk2 F1 N1
      change Fr g L h2 _ at F3
      change News g L h2 _ at N3
      (try dsimp only)
      k_steps
      refine InvEndG.intro (by assumption) (by assumption) ⟨Lt, _, n2, ?_, rfl, rfl, rfl, rfl, trivial⟩ (offLt hlt2) (fun p hp => List.mem_cons.mpr (.inl (List.mem_singleton.mp hp))) (fun p hp => List.mem_cons.mpr (.inr (List.mem_cons.mpr (.inr hp))))
      change IntsAre ys2 (hrow b (a.take (i + 1)))
      have et : a.take (i + 1) = a.take i ++ [c] := by rw [List.take_add_one, hc]; rfl
      rw [et, hrow_snoc, hrw]
      exact hys2
  · intro m₁ nx h tk hJ F2 N2
    obtain ⟨R, ys, n, hys, rfl, hk⟩ := hJ
    rw [frm_self hk] at F2
    change IntsAre ys (hrow b (a.take a.length)) at hys
    rw [List.take_length] at hys
    clear hk F1 N1
    change Fr g L h _ at F2
    change News g L h _ at N2
    (try dsimp only)
    have hl := hrow_len b a
    have hyl := hys.length
    have hlast : ys.getLast? = ys[b.length]? := by rw [List.getLast?_eq_getElem?]; congr 1; omega
    clear lb lb2
    k_steps
    have e3 : (-1 + ((hrow b a).length : Int)).toNat = b.length := by rw [hl]; exact an3 _
    rw [e3]
    exact FinC.nil (by assumption) ⟨rfl, _, rfl⟩
end
end
local macro_rules | `(tactic| walk_at "call builtin:str.lower") => `(tactic| (k_here; refine lower_S (by assumption) (by exact Nat.le_of_ble_eq_true rfl) ?_; intro _))
section -- W5
open PySem PySem.W PyProof.Rows PySem.Calls LCg
set_option maxRecDepth 100000
set_option maxHeartbeats 8000000
section
noncomputable def priceJ (a b : List Nat) (ta tb : Tok) (H : Nat → List Int) (i : Nat) (m : Str → Option Value) (nx : Nws) : Prop :=
  ∃ R ys n, IntsAre ys (H i) ∧ nx = [(R, W.listOf ys.toArray n)] ∧ Kn m [(Str.ofString "outer", Value.str (S a) ta), (Str.ofString "inner", .str (S b) tb), (Str.ofString "row", .ref R)]
noncomputable def priceJ2 (a b : List Nat) (ta tb u : Tok) (c : Nat) (R : Addr) (ysR : List Value) (nR : Nat) (own : Nws) (H : Nat → List Int) (j : Nat) (m : Str → Option Value) (nx : Nws) : Prop :=
  ∃ Lt ys n, @LT.lt Nat _ R Lt ∧ AllLt Lt own ∧ IntsAre ys (H j) ∧ nx = (Lt, W.listOf ys.toArray n) :: (R, W.listOf ysR.toArray nR) :: own ∧ Kn m [(Str.ofString "outer", Value.str (S a) ta), (Str.ofString "inner", .str (S b) tb), (Str.ofString "row", .ref R), (Str.ofString "sign", .str (S [c]) u), (Str.ofString "later", .ref Lt)]
noncomputable def csub (c d : Nat) : Int := if c = d then 0 else if lo c = lo d then 1 else 2
noncomputable def prowN (b : List Nat) (row : List Int) (c : Nat) : Nat → List Int
  | 0 => [row.getD 0 0 + 2]
  | k + 1 => prowN b row c k ++ [min (min ((prowN b row c k).getD k 0 + 2) (row.getD (k + 1) 0 + 2)) (row.getD k 0 + csub c (b.getD k 0))]
theorem prowN_len (b : List Nat) (row : List Int) (c k : Nat) : (prowN b row c k).length = k + 1 := by
  induction k with
  | zero => rfl
  | succ k ih => simp [prowN, ih]
noncomputable def pstep2 (b : List Nat) (row : List Int) (c : Nat) : List Int := prowN b row c b.length
noncomputable def prow (b a : List Nat) : List Int := a.foldl (pstep2 b) ((List.range (b.length + 1)).map fun k : Nat => 2 * (k : Int))
theorem prow_snoc (b a : List Nat) (c : Nat) : prow b (a ++ [c]) = pstep2 b (prow b a) c := by simp [prow]
theorem prow_len (b a : List Nat) : (prow b a).length = b.length + 1 := by
  suffices h : ∀ (l : List Nat) (row : List Int), row.length = b.length + 1 → (l.foldl (pstep2 b) row).length = b.length + 1 from h a _ (by simp)
  intro l
  induction l with
  | nil => intro row h; exact h
  | cons c r ih => intro row h; exact ih _ (prowN_len ..)
local macro_rules | `(tactic| walk_at "call builtin:min") => `(tactic| (k_here; with_reducible refine' min3N ?hh ?F ?N ?_; k_dflt ((case hh => rfl); (case F => k_asm); (case N => k_asm)); intro _ _ _ _ _; (try k_sweep)))
theorem price_tel (w : World) (a b : List Nat) (ta tb : Tok) (ha : Word a) (hb : Word b) :
    Tel w 103 2 [.str (S a) ta, .str (S b) tb] (fun _ => True) (fun v tl => tl = [] ∧ ∃ t, v = .int ((prow b a).getD b.length 0) t) := by
  w_top off
  refine' tel_plain [(Str.ofString "outer", .str (S a) ta), (Str.ofString "inner", .str (S b) tb)] ?ho ?hcd ?hb ?hl ?hc ?h1 ?h2 ?h3 ?h
  walk_at "MyPlain"
  intro mean mg mb dp un gd outer A₀ base g L s B F X N T hpre hd0 hu
  have lb : b.length ≤ 5 := hb.2
  have lb2 : (S b).length ≤ 5 := by rw [S_len]; exact hb.2
  k_steps
  rename Fr _ _ _ _ => F1
  rename News _ _ _ _ => N1
  unfold Stop
  refine loop_str (priceJ a b ta tb (fun i => prow b (a.take i))) rfl ha.asc F1 (fun p hp => N1 p (List.mem_cons.mpr (.inl (List.mem_singleton.mp hp)))) ?j0 ?turn ?done
  · refine ⟨_, _, _, ?_, rfl, rfl, rfl, rfl, trivial⟩
    have e : prow b (a.take 0) = List.map (fun k' => 2 * k') (rangeKs 0 (↑(S b).length + 1 - 0 : Int).toNat) := by
      rw [S_len, rangeKs, List.map_map]
      show List.map _ _ = List.map _ _
      rw [show ((b.length : Int) + 1 - 0).toNat = b.length + 1 by omega]
      refine List.map_congr_left fun k _ => ?_
      show 2 * (k : Int) = 2 * (0 + (k : Int))
      omega
    change IntsAre _ (prow b (a.take 0))
    rw [e]; assumption
  · intro i c u m₁ nx h tk own hc off hJ F2 N2
    obtain ⟨R, ys, n, hys, rfl, hk⟩ := hJ
    rw [frm_self hk] at F2
    clear hk F1 N1
    change Fr g L h _ at F2
    change News g L h _ at N2
    simp only [List.cons_append, List.nil_append] at N2
    simp only [List.map_cons, List.map_nil] at off
    have hH := prow_len b (a.take i)
    change IntsAre ys (prow b (a.take i)) at hys
    generalize hrw : prow b (a.take i) = row at hys hH
    have hyl := hys.length
    have hid : Hid (row.length = b.length + 1 ∧ b.length ≤ 5) := ⟨hH, lb⟩
    have hyl5 : 0 < row.length ∧ row.length ≤ 1000 := by omega
    have hyl6 : ys.length ≤ 1000 := by omega
    have lb3 : b.length ≤ 1000 := by omega
    have lb4 : (S b).length ≤ 1000 := by omega
    have ac : asc [c] := fun x hx => by rw [List.mem_singleton.mp hx]; exact (ha.1 c (List.mem_of_getElem? hc)).asc
    clear lb lb2 hH
    k_steps
    rename Fr _ _ _ _ => F1
    rename News _ _ _ _ => N1
    rename R < _ ∧ _ => hlt
    unfold Stop
    refine loop_range (n := b.length) (priceJ2 a b ta tb u c R ys n own (fun j => prowN b row c j)) rfl (by assumption) ?sm ?rs F1 N1 ?j1 ?turn1 ?done1
    · exact small_one (by omega) (by omega) (by omega) (by omega)
    · rw [rangeSize_nat, S_len]; simp
    · exact ⟨_, _, 0, hlt.1, hlt.2, .cons _ _ .nil, rfl, rfl, rfl, rfl, rfl, rfl, trivial⟩
    · intro j v m₂ nx2 h2 tk2 own2 hj off2 hJ2 F3 N3
      obtain ⟨Lt, ys2, n2, hlt1, hlt2, hys2, rfl, hk2⟩ := hJ2
      rw [frm_self hk2] at F3
      clear hk2 F1 N1
      change Fr g L h2 _ at F3
      change News g L h2 _ at N3
      change IntsAre ys2 (prowN b row c j) at hys2
      simp only [List.cons_append] at N3
      simp only [List.map_cons] at off2
      have offB := off_join (off_cons (offLt hlt2) off) (off_sub off2 (fun x hx => by simp at hx ⊢; rcases hx with h | h <;> simp [h]))
      have hpl := prowN_len b row c j
      have hyl2 := hys2.length
      have ly2 : ys2.length ≤ 1000 := by omega
      have hrow := hid.out.1
      have ac2 : asc [b.getD (0 + (j : Int)).toNat 0] := fun x hx => by
        rw [List.mem_singleton.mp hx, show (0 + (j : Int)).toNat = j from az2 j]
        exact (hb.1 _ (by simp [List.getD, hj])).asc
      clear hid
      have e0 : (0 + (j : Int)).toNat = j := az2 j
      have e1 : (0 + (j : Int) + 1).toNat = j + 1 := an1 j
      k_steps
      all_goals (
        refine InvEndG.intro (by assumption) (by assumption) ⟨Lt, _, n2 + 1, hlt1, hlt2, show IntsAre _ (prowN b row c j ++ [_]) from ints_snoc' hys2 ?_, rfl, rfl, rfl, rfl, rfl, rfl, trivial⟩ off2 sub2 sub2r
        rw [e0, e1]
        unfold csub
        congr 2)
      · rename (S [c] == S _) = true => he
        rw [S_beq, e0, decide_eq_true_eq] at he
        rw [if_pos (List.cons.inj he).1]
      · rename (S [c] == S _) = false => he
        rename (S _ == S _) = true => he2
        rw [S_beq, e0, decide_eq_false_iff_not] at he
        rw [S_beq, e0, decide_eq_true_eq] at he2
        rw [if_neg (fun q => he (by rw [q])), if_pos (List.cons.inj he2).1]
      · rename (S _ == S _) = false => he2
        rw [S_beq, e0, decide_eq_false_iff_not] at he2
        rw [if_neg (fun q => he2 (by rw [q])), if_neg (fun q => he2 (by simp [q]))]
    · intro m₂ nx2 h2 tk2 hJ2 F3 N3
      obtain ⟨Lt, ys2, n2, hlt1, hlt2, hys2, rfl, hk2⟩ := hJ2
      rw [frm_self hk2] at F3
      clear hk2 F1 N1
      change Fr g L h2 _ at F3
      change News g L h2 _ at N3
      (try dsimp only)
      k_steps
      refine InvEndG.intro (by assumption) (by assumption) ⟨Lt, _, n2, ?_, rfl, rfl, rfl, rfl, trivial⟩ (offLt hlt2) (fun p hp => List.mem_cons.mpr (.inl (List.mem_singleton.mp hp))) (fun p hp => List.mem_cons.mpr (.inr (List.mem_cons.mpr (.inr hp))))
      change IntsAre ys2 (prow b (a.take (i + 1)))
      have et : a.take (i + 1) = a.take i ++ [c] := by rw [List.take_add_one, hc]; rfl
      rw [et, prow_snoc, hrw]
      exact hys2
  · intro m₁ nx h tk hJ F2 N2
    obtain ⟨R, ys, n, hys, rfl, hk⟩ := hJ
    rw [frm_self hk] at F2
    change IntsAre ys (prow b (a.take a.length)) at hys
    rw [List.take_length] at hys
    clear hk F1 N1
    change Fr g L h _ at F2
    change News g L h _ at N2
    (try dsimp only)
    have hl := prow_len b a
    have hyl := hys.length
    clear lb lb2
    k_steps
    have e3 : (-1 + ((prow b a).length : Int)).toNat = b.length := by rw [hl]; exact an3 _
    rw [e3]
    exact FinC.nil (by assumption) ⟨rfl, _, rfl⟩
end
end
section -- W6
open PySem PySem.W PyProof.Rows PySem.Calls LCg
set_option maxRecDepth 100000
set_option maxHeartbeats 8000000
section

theorem sub_tel (w : World) (x y : Nat) (tx ty : Tok) (hx : letter x) (hy : letter y) : Tel w 64 1 [.str (S [x]) tx, .str (S [y]) ty] (fun _ => True) (fun v tl => tl = [] ∧ ∃ t, v = .int (csub x y) t) := by
  w_top off
  refine' tel_plain [(Str.ofString "ch_a", .str (S [x]) tx), (Str.ofString "ch_b", .str (S [y]) ty)] ?ho ?hcd ?hb ?hl ?hc ?h1 ?h2 ?h3 ?h
  walk_at "MyPlain"
  intro mean mg mb dp un gd outer A₀ base g L s B F X N T hpre hd0 hu
  have ax : asc [x] := fun z hz => by rw [List.mem_singleton.mp hz]; exact hx.asc
  have ay : asc [y] := fun z hz => by rw [List.mem_singleton.mp hz]; exact hy.asc
  k_steps
  all_goals (refine FinC.nil (by assumption) ⟨rfl, _, congrArg (fun i => Value.int i _) ?_⟩; unfold csub)
  · rename (S [x] == S [y]) = true => he
    rw [S_beq, decide_eq_true_eq] at he
    rw [if_pos (List.cons.inj he).1]
  · rename (S [x] == S [y]) = false => he
    rename (S _ == S _) = true => he2
    rw [S_beq, decide_eq_false_iff_not] at he
    rw [S_beq, decide_eq_true_eq] at he2
    rw [if_neg (fun q => he (by rw [q])), if_pos (List.cons.inj he2).1]
  · rename (S _ == S _) = false => he2
    rw [S_beq, decide_eq_false_iff_not] at he2
    rw [if_neg (fun q => he2 (by simp [q])), if_neg (fun q => he2 (by simp [q]))]
end
end
open LCt
local macro_rules | `(tactic| walk_at "RangeTo") => `(tactic| (refine RangeTo.mk (by assumption) ?_; omega))
local macro_rules | `(tactic| walk_at "eval ListComp") => `(tactic| (k_here; refine stop_of ?_))
section -- W7
open PySem PySem.W PyProof.Rows PySem.Calls LCg LCt
set_option maxRecDepth 100000
set_option maxHeartbeats 8000000
section
local macro_rules | `(tactic| walk_at "exec For Name Call cons nil") => `(tactic| walk_at "MyForT")
theorem sub5 {a b c d e : Addr × Obj} {own : Nws} : ∀ p ∈ [a, b, c, d, e], p ∈ a :: b :: c :: d :: e :: own := fun p hp => by
  simp only [List.mem_cons, List.not_mem_nil, or_false] at hp ⊢
  rcases hp with h | h | h | h | h <;> simp [h]
theorem sub5r {a b c d e : Addr × Obj} {own : Nws} : ∀ p ∈ own, p ∈ a :: b :: c :: d :: e :: own := fun p hp => by simp [hp]
noncomputable def fgood (a b : List Nat) (e k : Nat) : Bool := !decide ((a.drop k).take (e - k) <:+: b)
noncomputable def fvals (a b : List Nat) : Nat → List Int
  | 0 => [0]
  | e + 1 => fvals a b e ++ [maxL ([(fvals a b e).getD e 0] ++ ((List.range (e + 1)).filter (fgood a b (e + 1))).map fun k => (fvals a b e).getD k 0 + 1)]
theorem fvals_len (a b : List Nat) (e : Nat) : (fvals a b e).length = e + 1 := by
  induction e with
  | zero => rfl
  | succ e ih => simp [fvals, ih]
noncomputable def foreignJ (a b : List Nat) (ta tb : Tok) (L : Addr) (i : Nat) (_m : Str → Option Value) (nx : Nws) : Prop :=
  ∃ (D : Addr) (ys : List Value) (n : Nat) (oE oM oI oO : Obj) (vE : Option Value), @LT.lt Nat _ (L + 1 + 1 + 1 + 1) D ∧ IntsAre ys (fvals a b i) ∧ oE.data = .cell vE ∧ oM.data = .cell (some (.ref D)) ∧ oI.data = .cell (some (.str (S b) tb)) ∧ oO.data = .cell (some (.str (S a) ta)) ∧
    nx = [(D, W.listOf ys.toArray n), (L + 1 + 1 + 1 + 1, oE), (L + 1 + 1 + 1, oM), (L + 1 + 1, oI), (L + 1, oO)]
theorem foreign_tel (w : World) (a b : List Nat) (ta tb : Tok) (ha : Word a) (hb : Word b) :
    Tel w 86 2 [.str (S a) ta, .str (S b) tb] (fun _ => True) (fun v tl => tl = [] ∧ ∃ t, v = .int ((fvals a b a.length).getD a.length 0) t) := by
  w_top off
  refine' tel_cells [(Str.ofString "outer", .str (S a) ta), (Str.ofString "inner", .str (S b) tb)] ?ho ?hcd ?hb ?hkk ?hnd ?h1 ?h2 ?h3 ?h
  walk_at "MyCells"
  intro mean mg mb dp un gd outer A₀ base g L s cells B F X N Y T hpre hd0 hu
  k_cells Y
  try simp only [List.cons_append, List.nil_append] at N
  try dsimp only
  have la : a.length ≤ 1000 := Nat.le_trans ha.2 (by decide)
  have la2 : (S a).length ≤ 1000 := by rw [S_len]; exact la
  k_steps
  rename Fr _ _ _ _ => F1
  rename News _ _ _ _ => N1
  unfold Stop
  refine loopT_range (n := a.length) (foreignJ a b ta tb L) rfl (by assumption) ?sm ?rs F1 N1 ?j0 ?turn ?done
  · exact small_one (by omega) (by omega) (by omega) (by omega)
  · rw [rangeSize_nat, S_len]; omega
  · rename L + 1 + 1 + 1 + 1 < _ ∧ _ => hlt
    exact ⟨_, _, _, _, _, _, _, _, hlt.1, .cons _ _ .nil, by assumption, by assumption, by assumption, by assumption, rfl⟩
  · intro i u m₁ nx s₁ own hi off hJ F2 N2
    obtain ⟨D, ys, n, oE, oM, oI, oO, vE, hlt, hys, hE, hM, hI, hO, rfl⟩ := hJ
    clear F1 N1
    change Fr g L s₁.heap _ at F2
    change News g L s₁.heap _ at N2
    simp only [List.cons_append, List.nil_append] at N2
    simp only [List.map_cons, List.map_nil] at off
    have hfl := fvals_len a b i
    have hyl := hys.length
    k_steps
    unfold Stop
    refine comp_testR (i + 1) (by omega) (fgood a b (i + 1)) (fun k y => ∃ t, y = Value.int ((fun k : Nat => (fvals a b i).getD (0 + (k : Int)).toNat 0 + 1) k) t) (by assumption) rfl (by decide) rfl (by decide) rfl rfl ?_
    have hfg : ∀ k : Nat, k < i + 1 → (Builtin.Str.occurrences (S b) (Txt.slice (S a) (some (0 + (k : Int))) (some (1 + (i : Int)))) 0 (S b).length 1).isEmpty = fgood a b (i + 1) k := fun k hk => by
      rw [show (0 : Int) + (k : Int) = (k : Int) from Int.zero_add _, show (1 : Int) + (i : Int) = ((i + 1 : Nat) : Int) by omega, slice_mid a k (i + 1) (by omega) (by omega), occ_S]
      rfl
    k_steps
    · exact (hfg _ (by assumption)).symm.trans (by assumption)
    · exact (hfg _ (by assumption)).symm.trans (by assumption)
    · trivial
    · unfold Stop
      rename _ = List.length (List.filter _ _) => hl
      rename ∀ (j : Nat) (y : Value), _ → _ => hr
      have hIx := ints_filter hl hr
      have hIl := hIx.length
      have hll : (List.filter (fgood a b (i + 1)) (List.range (i + 1))).length ≤ i + 1 := by
        have := List.length_filter_le (fgood a b (i + 1)) (List.range (i + 1))
        simpa using this
      have ly : ys.length ≤ 1000 := by omega
      rename Off1 _ _ => o1
      simp only [Off1] at o1
      (try dsimp only)
      (try k_fold)
      k_steps
      rename ∀ a : Int, a ∈ _ → a ≤ _ => hmax
      rename _ ∈ _ ++ _ => hmem
      have hMx := maxL_of hmem hmax
      have e1 : (-1 + ((fvals a b i).length : Int)).toNat = i := by rw [fvals_len]; exact an3 _
      have e2 : (fun k : Nat => (fvals a b i).getD (0 + (k : Int)).toNat 0 + 1) = fun k => (fvals a b i).getD k 0 + 1 := by
        funext k; rw [show (0 + (k : Int)).toNat = k from az2 k]
      rw [e1, e2] at hMx
      refine ⟨rfl, InvEndG.intro (by assumption) (by assumption) ⟨D, _, n + 1, _, oM, oI, oO, _, hlt, ints_snoc' hys hMx.symm, by assumption, hM, hI, hO, rfl⟩ off (subT (subT (subT sub5))) (subT (subT (subT sub5r)))⟩
  · intro m₁ nx h tk hJ F2 N2
    obtain ⟨D, ys, n, oE, oM, oI, oO, vE, hlt, hys, hE, hM, hI, hO, rfl⟩ := hJ
    clear F1 N1
    change Fr g L h _ at F2
    change News g L h _ at N2
    have hfl := fvals_len a b a.length
    have hyl := hys.length
    (try dsimp only)
    k_steps
    have e1 : (-1 + ((fvals a b a.length).length : Int)).toNat = a.length := by rw [fvals_len]; exact an3 _
    rw [e1]
    exact FinC.nil (by assumption) ⟨rfl, _, rfl⟩
end
end
section -- M1
theorem mincast (x y d c : Nat) : min (min (x : Int) (y : Int) + 2) ((d : Int) + (c : Int)) = ((min (min (y + 2) (x + 2)) (d + c) : Nat) : Int) := by
  rw [Nat.min_comm (y + 2), Nat.add_min_add_right]
  have e (m n : Nat) : ((min m n : Nat) : Int) = min (m : Int) (n : Int) := by omega
  rw [e, Int.natCast_add, Int.natCast_add, e]
  rfl
theorem mincast0 (x y c : Nat) (h : c ≤ 2) : min (min (2 * (x : Int)) (y : Int) + 2) (((2 * x : Nat) : Int) + (c : Int)) = ((min (min (y + 2) (2 * (x + 1) + 2)) (2 * x + c) : Nat) : Int) := by
  have e : min (min (y + 2) (2 * (x + 1) + 2)) (2 * x + c) = min (min (y + 2) (2 * x + 2)) (2 * x + c) := by
    rw [Nat.min_assoc, Nat.min_assoc, Nat.min_eq_right (a := 2 * (x + 1) + 2) (by omega), Nat.min_eq_right (a := 2 * x + 2) (by omega)]
  rw [e, ← mincast]; rfl
noncomputable def csubN (c d : Nat) : Nat := if c = d then 0 else if lo c = lo d then 1 else 2
theorem csubN_le (c d : Nat) : csubN c d ≤ 2 := by unfold csubN; split <;> (try split) <;> omega
theorem csubN_self (c : Nat) : csubN c c = 0 := by simp [csubN]
theorem csubN_comm (c d : Nat) : csubN c d = csubN d c := by
  unfold csubN
  by_cases h : c = d
  · rw [if_pos h, if_pos h.symm]
  · rw [if_neg h, if_neg (show ¬ d = c from fun q => h q.symm)]
    by_cases h2 : lo c = lo d
    · rw [if_pos h2, if_pos h2.symm]
    · rw [if_neg h2, if_neg (show ¬ lo d = lo c from fun q => h2 q.symm)]
/-- an edit of x into y, its price -/
inductive Al : List Nat → List Nat → Nat → Prop
  | nil : Al [] [] 0
  | del {x y n} (c : Nat) : Al x y n → Al (c :: x) y (n + 2)
  | ins {x y n} (d : Nat) : Al x y n → Al x (d :: y) (n + 2)
  | sub {x y n} (c d : Nat) : Al x y n → Al (c :: x) (d :: y) (n + csubN c d)
noncomputable def ED : List Nat → List Nat → Nat
  | [], y => 2 * y.length
  | c :: x, [] => 2 * (c :: x).length
  | c :: x, d :: y => min (min (ED x (d :: y) + 2) (ED (c :: x) y + 2)) (ED x y + csubN c d)
theorem Al.insAll (y : List Nat) : Al [] y (2 * y.length) := by
  induction y with
  | nil => exact .nil
  | cons d y ih => exact (show 2 * (d :: y).length = 2 * y.length + 2 by simp; omega) ▸ .ins d ih
theorem Al.delAll (x : List Nat) : Al x [] (2 * x.length) := by
  induction x with
  | nil => exact .nil
  | cons d y ih => exact (show 2 * (d :: y).length = 2 * y.length + 2 by simp; omega) ▸ .del d ih
theorem ED_al : ∀ x y : List Nat, Al x y (ED x y)
  | [], y => by unfold ED; exact .insAll y
  | c :: x, [] => by unfold ED; exact .delAll _
  | c :: x, d :: y => by
    have h1 := ED_al x (d :: y)
    have h2 := ED_al (c :: x) y
    have h3 := ED_al x y
    unfold ED
    rcases Nat.le_total (min (ED x (d :: y) + 2) (ED (c :: x) y + 2)) (ED x y + csubN c d) with h | h
    · rw [Nat.min_eq_left h]
      rcases Nat.le_total (ED x (d :: y) + 2) (ED (c :: x) y + 2) with h' | h'
      · rw [Nat.min_eq_left h']; exact .del c h1
      · rw [Nat.min_eq_right h']; exact .ins d h2
    · rw [Nat.min_eq_right h]; exact .sub c d h3
theorem ED_nil (y : List Nat) : ED [] y = 2 * y.length := by unfold ED; rfl
theorem ED_nil' (x : List Nat) : ED x [] = 2 * x.length := by cases x <;> (unfold ED; rfl)
theorem ED_cons (c d : Nat) (x y : List Nat) : ED (c :: x) (d :: y) = min (min (ED x (d :: y) + 2) (ED (c :: x) y + 2)) (ED x y + csubN c d) := by
  conv => lhs; unfold ED
theorem ED_consL (c : Nat) (x y : List Nat) : ED (c :: x) y ≤ ED x y + 2 := by
  cases y with
  | nil => rw [ED_nil', ED_nil']; simp; omega
  | cons d y => rw [ED_cons]; exact Nat.le_trans (Nat.min_le_left _ _) (Nat.min_le_left _ _)
theorem ED_consR (d : Nat) (x y : List Nat) : ED x (d :: y) ≤ ED x y + 2 := by
  cases x with
  | nil => rw [ED_nil, ED_nil]; simp; omega
  | cons c x => rw [ED_cons]; exact Nat.le_trans (Nat.min_le_left _ _) (Nat.min_le_right _ _)
theorem Al.le {x y : List Nat} {n : Nat} (h : Al x y n) : ED x y ≤ n := by
  induction h with
  | nil => rw [ED_nil]; simp
  | del c h ih => exact Nat.le_trans (ED_consL c _ _) (by omega)
  | ins d h ih => exact Nat.le_trans (ED_consR d _ _) (by omega)
  | sub c d h ih => rw [ED_cons]; exact Nat.le_trans (Nat.min_le_right _ _) (Nat.add_le_add_right ih _)
theorem Al.append {x y : List Nat} {n : Nat} (h : Al x y n) {x' y' : List Nat} {m : Nat} (h' : Al x' y' m) : Al (x ++ x') (y ++ y') (n + m) := by
  induction h with
  | nil => simpa using h'
  | @del _ _ k c h ih => rw [show k + 2 + m = (k + m) + 2 by omega]; exact Al.del c ih
  | @ins _ _ k d h ih => rw [show k + 2 + m = (k + m) + 2 by omega]; exact Al.ins d ih
  | @sub _ _ k c d h ih => rw [show k + csubN c d + m = (k + m) + csubN c d by omega]; exact Al.sub c d ih
theorem Al.reverse {x y : List Nat} {n : Nat} (h : Al x y n) : Al x.reverse y.reverse n := by
  induction h with
  | nil => exact .nil
  | del c h ih => simpa using ih.append (Al.del c .nil)
  | ins d h ih => simpa using ih.append (Al.ins d .nil)
  | sub c d h ih => simpa using ih.append (Al.sub c d .nil)
theorem Al.swap {x y : List Nat} {n : Nat} (h : Al x y n) : Al y x n := by
  induction h with
  | nil => exact .nil
  | del c h ih => exact .ins c ih
  | ins d h ih => exact .del d ih
  | sub c d h ih => rw [csubN_comm]; exact .sub d c ih
theorem ED_comm (x y : List Nat) : ED x y = ED y x := Nat.le_antisymm (ED_al y x).swap.le (ED_al x y).swap.le
theorem ED_reverse (x y : List Nat) : ED x.reverse y.reverse = ED x y := by
  refine Nat.le_antisymm (ED_al x y).reverse.le ?_
  have := (ED_al x.reverse y.reverse).reverse.le
  simpa using this
theorem ED_snoc (c d : Nat) (x y : List Nat) : ED (x ++ [c]) (y ++ [d]) = min (min (ED x (y ++ [d]) + 2) (ED (x ++ [c]) y + 2)) (ED x y + csubN c d) := by
  rw [← ED_reverse (x ++ [c]) (y ++ [d]), ← ED_reverse x (y ++ [d]), ← ED_reverse (x ++ [c]) y, ← ED_reverse x y]
  simp only [List.reverse_append, List.reverse_cons, List.reverse_nil, List.nil_append, List.singleton_append]
  exact ED_cons c d _ _
theorem ED_lipL (c : Nat) (x y : List Nat) : ED x y ≤ ED (c :: x) y + 2 := by
  suffices h : ∀ {z y : List Nat} {n : Nat}, Al z y n → ∀ c x, z = c :: x → ED x y ≤ n + 2 from h (ED_al (c :: x) y) c x rfl
  intro z y n h
  induction h with
  | nil => intro c x e; cases e
  | del c h ih => intro c' x e; cases e; exact Nat.le_trans h.le (by omega)
  | ins d h ih => intro c' x e; exact Nat.le_trans (ED_consR d _ _) (by have := ih c' x e; omega)
  | sub c d h ih => intro c' x e; cases e; exact Nat.le_trans (ED_consR d _ _) (by have := h.le; omega)
theorem ED_lipR (d : Nat) (x y : List Nat) : ED x y ≤ ED x (d :: y) + 2 := by rw [ED_comm x y, ED_comm x (d :: y)]; exact ED_lipL d y x
theorem ED_same (c : Nat) (x y : List Nat) : ED (c :: x) (c :: y) = ED x y := by
  rw [ED_cons, csubN_self]
  exact Nat.min_eq_right (Nat.le_min.mpr ⟨ED_lipR c x y, ED_lipL c x y⟩)
theorem ED_prefix (p x y : List Nat) : ED (p ++ x) (p ++ y) = ED x y := by
  induction p with
  | nil => rfl
  | cons c p ih => exact (ED_same c _ _).trans ih
theorem ED_suffix (q x y : List Nat) : ED (x ++ q) (y ++ q) = ED x y := by
  rw [← ED_reverse, ← ED_reverse x y, List.reverse_append, List.reverse_append, ED_prefix]
theorem ED_diff (x y : List Nat) : 2 * (y.length - x.length) ≤ ED x y := by
  suffices h : ∀ {x y : List Nat} {n : Nat}, Al x y n → 2 * (y.length - x.length) ≤ n from h (ED_al x y)
  intro x y n h
  induction h with
  | nil => simp
  | del c h ih => simp; omega
  | ins d h ih => simp; omega
  | sub c d h ih => simp; omega
theorem ED_max (x y : List Nat) : ED x y ≤ 2 * max x.length y.length := by
  induction x generalizing y with
  | nil => rw [ED_nil]; simp
  | cons c x ih =>
    cases y with
    | nil => rw [ED_nil']; simp
    | cons d y =>
      rw [ED_cons]
      have := ih y
      have := csubN_le c d
      simp at *; omega
/-- every edit of a into b goes by some first part of a when it has made i letters of b; not by the empty one -/
theorem Al.row {a b : List Nat} {n : Nat} (h : Al a b n) : ∀ i, i ≤ b.length → ∃ j, j ≤ a.length ∧ ED (a.take j) (b.take i) ≤ n := by
  induction h with
  | nil => intro i hi; exact ⟨0, Nat.zero_le _, by simp [ED_nil]⟩
  | @del x y n c h ih =>
    intro i hi
    obtain ⟨j, hj, e⟩ := ih i hi
    exact ⟨j + 1, by simpa using hj, by have := ED_consL c (x.take j) (y.take i); simp only [List.take_succ_cons]; exact Nat.le_trans this (by omega)⟩
  | @ins x y n d h ih =>
    intro i hi
    cases i with
    | zero => exact ⟨0, Nat.zero_le _, by simp [ED_nil]⟩
    | succ i =>
      obtain ⟨j, hj, e⟩ := ih i (by simpa using hi)
      exact ⟨j, hj, by simp only [List.take_succ_cons]; exact Nat.le_trans (ED_consR d _ _) (by omega)⟩
  | @sub x y n c d h ih =>
    intro i hi
    cases i with
    | zero => exact ⟨0, Nat.zero_le _, by simp [ED_nil]⟩
    | succ i =>
      obtain ⟨j, hj, e⟩ := ih i (by simpa using hi)
      exact ⟨j + 1, by simpa using hj, by simp only [List.take_succ_cons]; rw [ED_cons]; omega⟩
theorem ED_row (a b : List Nat) (ha : a ≠ []) (i : Nat) (h0 : 0 < i) (hi : i ≤ b.length) : ∃ j, j < a.length ∧ ED (a.take (j + 1)) (b.take i) ≤ ED a b := by
  obtain ⟨j, hj, e⟩ := (ED_al a b).row i hi
  cases j with
  | succ j => exact ⟨j, hj, e⟩
  | zero =>
    cases a with
    | nil => exact absurd rfl ha
    | cons c a =>
      refine ⟨0, by simp, ?_⟩
      cases b with
      | nil => simp at hi; omega
      | cons d b =>
        cases i with
        | zero => omega
        | succ i =>
          have e1 : ED [c] (d :: b.take i) ≤ 2 * (b.take i).length + 2 := by
            have := csubN_le c d
            rw [ED_cons, ED_nil, ED_nil]; omega
          simp only [List.take_zero, List.take_succ_cons, ED_nil, List.length_cons] at e ⊢
          omega
end
section -- M2
/-- strikes of the greedy reading of x from the piece u, along b -/
noncomputable def st (b : List Nat) (u : List Nat) : List Nat → Nat
  | [] => 0
  | c :: x => if u ++ [c] <:+: b then st b (u ++ [c]) x else 1 + st b [] x
theorem st_cons (b u : List Nat) (c : Nat) (x : List Nat) : st b u (c :: x) = if u ++ [c] <:+: b then st b (u ++ [c]) x else 1 + st b [] x := rfl
theorem suffix_snoc {u v : List Nat} (h : u <:+ v) (c : Nat) : u ++ [c] <:+ v ++ [c] := by
  obtain ⟨t, rfl⟩ := h; exact ⟨t, by simp⟩
theorem infix_of_suffix {u v b : List Nat} (h : u <:+ v) (h2 : v <:+: b) : u <:+: b := h.isInfix.trans h2
theorem st_mono {b : List Nat} : ∀ {x u v : List Nat}, u <:+ v → st b u x ≤ st b v x ∧ st b v x ≤ st b u x + 1
  | [], _, _, _ => by simp [st]
  | c :: x, u, v, h => by
    have h1 := suffix_snoc h c
    rw [st_cons, st_cons]
    by_cases hv : v ++ [c] <:+: b
    · rw [if_pos hv, if_pos (infix_of_suffix h1 hv)]; exact st_mono h1
    · rw [if_neg hv]
      by_cases hu : u ++ [c] <:+: b
      · rw [if_pos hu]
        have := st_mono (b := b) (x := x) (List.nil_suffix (l := u ++ [c]))
        omega
      · rw [if_neg hu]; omega
theorem st_restart (b u : List Nat) (c : Nat) (x : List Nat) : st b u (c :: x) ≤ 1 + st b [] x := by
  rw [st_cons]
  split
  · have := (st_mono (b := b) (x := x) (List.nil_suffix (l := u ++ [c]))).2; omega
  · omega
theorem st_le_cons (b : List Nat) (c : Nat) (x : List Nat) : st b [] x ≤ st b [] (c :: x) := by
  rw [st_cons]
  split
  · exact (st_mono (b := b) (x := x) (List.nil_suffix (l := [] ++ [c]))).1
  · omega
theorem st_suffix (b : List Nat) {x y : List Nat} (h : x <:+ y) : st b [] x ≤ st b [] y := by
  obtain ⟨t, rfl⟩ := h
  induction t with
  | nil => exact Nat.le_refl _
  | cons c t ih => exact Nat.le_trans ih (st_le_cons b c _)
theorem st_prefix (b : List Nat) : ∀ (x u y : List Nat), st b u x ≤ st b u (x ++ y)
  | [], u, y => Nat.zero_le _
  | c :: x, u, y => by
    rw [List.cons_append, st_cons, st_cons]
    split
    · exact st_prefix b x _ y
    · have := st_prefix b x [] y; omega
theorem st_infix (b : List Nat) {x y : List Nat} (h : x <:+: y) : st b [] x ≤ st b [] y := by
  obtain ⟨p, q, rfl⟩ := h
  exact Nat.le_trans (st_suffix b (List.suffix_append p x)) (st_prefix b (p ++ x) [] q)
theorem st_cut (b : List Nat) (c : Nat) (y : List Nat) : ∀ (x u : List Nat), st b u (x ++ c :: y) ≤ st b u x + 1 + st b [] y
  | [], u => by have := st_restart b u c y; simp [st] at this ⊢; omega
  | d :: x, u => by
    rw [List.cons_append, st_cons, st_cons]
    split
    · exact st_cut b c y x _
    · have := st_cut b c y x []; omega
theorem st_product (b c : List Nat) : ∀ (x u : List Nat), u <:+: b → st c [] (u ++ x) + 1 ≤ (st b u x + 1) * (st c [] b + 1)
  | [], u, h => by have := st_infix c h; simp [st]; omega
  | d :: x, u, h => by
    rw [st_cons]
    split
    · rename_i h2
      have := st_product b c x (u ++ [d]) h2
      simpa using this
    · have h1 := st_product b c x [] ⟨[], b, rfl⟩
      have h2 := st_cut c d x u []
      have h3 := st_infix c h
      rw [List.nil_append] at h1
      have e : (1 + st b [] x + 1) * (st c [] b + 1) = (st b [] x + 1) * (st c [] b + 1) + (st c [] b + 1) := by rw [show 1 + st b [] x + 1 = (st b [] x + 1) + 1 by omega, Nat.succ_mul]
      rw [e]; omega
theorem st_nil_le (b u x : List Nat) : st b [] x ≤ st b u x := (st_mono (b := b) (x := x) (List.nil_suffix (l := u))).1
theorem st_le_nil (b u x : List Nat) : st b u x ≤ st b [] x + 1 := (st_mono (b := b) (x := x) (List.nil_suffix (l := u))).2
theorem st_price {x y : List Nat} {n : Nat} (h : Al x y n) : ∀ (pre u : List Nat), u <:+ pre.map lo → 2 * st ((pre ++ y).map lo) u (x.map lo) ≤ n := by
  induction h with
  | nil => intro pre u _; simp [st]
  | @del x y n c h ih =>
    intro pre u _
    have h1 := ih pre [] List.nil_suffix
    have h2 := st_restart ((pre ++ y).map lo) u (lo c) (x.map lo)
    rw [List.map_cons]; omega
  | @ins x y n d h ih =>
    intro pre u _
    have h1 := ih (pre ++ [d]) [] List.nil_suffix
    rw [List.append_assoc] at h1
    have h2 := st_le_nil ((pre ++ d :: y).map lo) u (x.map lo)
    simp only [List.singleton_append] at h1
    omega
  | @sub x y n c d h ih =>
    intro pre u hu
    by_cases hcd : lo c = lo d
    · have h1 := ih (pre ++ [d]) (u ++ [lo c]) (by rw [List.map_append, hcd]; exact suffix_snoc hu _)
      rw [List.append_assoc] at h1
      simp only [List.singleton_append] at h1
      rw [List.map_cons, st_cons, if_pos]
      · omega
      · obtain ⟨t, ht⟩ := hu
        refine ⟨t, y.map lo, ?_⟩
        rw [List.map_append, List.map_cons, ← ht, hcd]; simp
    · have h1 := ih (pre ++ [d]) [] List.nil_suffix
      rw [List.append_assoc] at h1
      simp only [List.singleton_append] at h1
      have h2 := st_restart ((pre ++ d :: y).map lo) u (lo c) (x.map lo)
      have h3 : csubN c d = 2 := by
        unfold csubN
        rw [if_neg (fun q => hcd (by rw [q])), if_neg hcd]
      rw [List.map_cons]; omega
end
section -- C8
open PySem PySem.W PyProof.Rows PySem.Calls LCg LCt
set_option maxRecDepth 100000
set_option maxHeartbeats 2000000
section
variable {prog : Program} {w : World} {A : Around} {E : Value → Shared → Prop} {s : Shared} {h₀ : Heap} {L : Addr} {m : Str → Option Value} {env : Env} {Q : Flow → Shared → Prop}
/-- behind a while -/
noncomputable def WEnd (h₀ : Heap) (L : Addr) (J : (Str → Option Value) → Nws → Prop) (s s' : Shared) : Prop := ∃ h' tk m' nx, s' = { s with heap := h', toks := tk } ∧ Fr h₀ L h' m' ∧ News h₀ L h' nx ∧ J m' nx
theorem WEnd.intro {J : (Str → Option Value) → Nws → Prop} {s : Shared} {h' : Heap} {tk : Nat} {m' : Str → Option Value} {nx : Nws} (F : Fr h₀ L h' m') (N : News h₀ L h' nx) (j : J m' nx) : WEnd h₀ L J s { s with heap := h', toks := tk } := ⟨h', tk, m', nx, rfl, F, N, j⟩
theorem While_stop {test : PySem.Expr} {body : List Stmt} {pos : Pos} (h : Stop (wpAny (model prog w) A (exec (.While test body [] pos) env) Q E s)) : wpAny (model prog w) A (exec (.While test body [] pos) env) Q E s := h
theorem While_J {test : PySem.Expr} {body : List Stmt} {pos : Pos} {m : Str → Option Value} {news : Nws} (J : Nat → (Str → Option Value) → Nws → Prop) (J' : (Str → Option Value) → Nws → Prop) {n₀ : Nat}
    (F : Fr h₀ L s.heap m) (N : News h₀ L s.heap news) (hJ : J n₀ m news)
    (turn : ∀ n m₁ nx h tk, Fr h₀ L h m₁ → News h₀ L h nx → J n m₁ nx →
      wpAny (model prog w) A (isTrue test env (eval test env)) (fun b s₂ => if b = true then wpAny (model prog w) A (execs body env) (WhileStep h₀ L { s with heap := h, toks := tk } J n) E s₂ else WEnd h₀ L J' { s with heap := h, toks := tk } s₂) E { s with heap := h, toks := tk })
    (done : ∀ m₁ nx h tk, J' m₁ nx → Fr h₀ L h m₁ → News h₀ L h nx → Q .next { s with heap := h, toks := tk })
    (hE : PassesOwn (model prog w) A env E) : wpAny (model prog w) A (exec (.While test body [] pos) env) Q E s := by
  refine While_inv J F N hJ (fun n m₁ nx h₁ tk₁ F₁ N₁ J₁ => ?_) hE
  refine wpAny_mono (turn n m₁ nx h₁ tk₁ F₁ N₁ J₁) (fun b s₂ h₂ => ?_) fun _ _ e => e
  cases b with
  | true =>
    simp only [if_true] at h₂ ⊢
    refine wpAny_mono h₂ (fun f s₃ h₃ => ?_) fun _ _ e => e
    obtain ⟨rfl, h', tk, m₂, news₂, n', rfl, F₂, N₂, hn, J₂⟩ := h₃
    exact ⟨rfl, h', tk, m₂, news₂, n', rfl, F₂, N₂, hn, J₂⟩
  | false =>
    simp only [Bool.false_eq_true, if_false] at h₂ ⊢
    obtain ⟨h', tk, m', nx', rfl, F', N', j⟩ := h₂
    exact done m' nx' h' tk j F' N'
theorem itemSneg {value slice : PySem.Expr} {l : List Nat} {t u : Tok} {k : Int} {Q : Value → Shared → Prop} (h0 : k < 0) (h1 : -(l.length : Int) ≤ k) (hl : l.length ≤ 1000) (h : ∀ t', Q (.str (S [l.getD (k + l.length).toNat 0]) t') { s with toks := s.toks + 1 })
    (hs : subscripted slice false (.str (S l) t) (.int k u) = operate [.str (S l) t, .int k u] (getItem (.str (S l) t) (.int k u)) := by with_unfolding_all rfl)
    (ht : ∀ r, letTemporaryGo value (.str (S l) t) r = pure () := by intro _; with_unfolding_all rfl) : wpAny (model prog w) A (subscriptTail value slice (.str (S l) t) (.int k u)) Q E s := by
  obtain ⟨i, hi0⟩ := Int.eq_ofNat_of_zero_le (a := k + l.length) (by omega)
  have hi : i < l.length := by omega
  refine item_str (fitsSsize_of (N := 9223372036854775808) (by omega) (by omega) (Int.le_refl _)) (by rw [S_len]; omega) (by rw [S_len]; omega) (fun _ => ?_) hs ht
  have e : Txt.item (S l) k = S [l[i]] := by
    unfold Txt.item Txt.charAt
    rw [StrLaws.at_neg (x := S l) (n := l[i]) h0 (by rw [S_len]; omega)]
    · rfl
    · rw [S_len, hi0]
      simp [hi]
  rw [e]
  have := h s.toks
  rw [hi0] at this
  simpa [List.getD, hi] using this
theorem execs_join {st : Stmt} {rest : List Stmt} (J : (Str → Option Value) → Nws → Prop) (h1 : wpAny (model prog w) A (exec st env) (fun f s' => f = .next ∧ WEnd h₀ L J s s') E s)
    (h2 : ∀ m nx h tk, J m nx → Fr h₀ L h m → News h₀ L h nx → wpAny (model prog w) A (execs rest env) Q E { s with heap := h, toks := tk }) : wpAny (model prog w) A (execs (st :: rest) env) Q E s := by
  refine wpAny_execs_cons (wpAny_mono h1 (fun f s' h => ?_) fun _ _ e => e)
  obtain ⟨rfl, h', tk, m', nx, rfl, F, N, j⟩ := h
  exact h2 m' nx h' tk j F N
theorem exec_join {st : Stmt} (J : (Str → Option Value) → Nws → Prop) (h1 : wpAny (model prog w) A (exec st env) (fun f s' => f = .next ∧ WEnd h₀ L J s s') E s)
    (h2 : ∀ m nx h tk, J m nx → Fr h₀ L h m → News h₀ L h nx → Q .next { s with heap := h, toks := tk }) : wpAny (model prog w) A (exec st env) Q E s := by
  refine wpAny_mono h1 (fun f s' h => ?_) fun _ _ e => e
  obtain ⟨rfl, h', tk, m', nx, rfl, F, N, j⟩ := h
  exact h2 m' nx h' tk j F N
end
end
section -- C9
open PySem PySem.W PyProof.Rows PySem.Calls LCg LCt
set_option maxRecDepth 100000
set_option maxHeartbeats 2000000
section
variable {prog : Program} {w : World} {A : Around} {E : Value → Shared → Prop} {s : Shared} {h₀ : Heap} {L : Addr} {m : Str → Option Value} {news : Nws} {Q : Value → Shared → Prop}
theorem rs2 (n : Nat) : Builtin.Range.rangeSize 2 (2 * ((n : Int) + 1)) 2 = (n : Int) := by
  unfold Builtin.Range.rangeSize
  rw [if_pos (by decide)]
  split <;> omega
theorem sm2 (n : Nat) (hn : n ≤ 1000) : Builtin.Range.small 2 (2 * ((n : Int) + 1)) 2 = true := by
  unfold Builtin.Range.small
  rw [rs2]
  have f : ∀ i : Int, 0 ≤ i → i ≤ 3000 → Builtin.Range.rangeFitsLong i = true := fun i h1 h2 => by
    unfold Builtin.Range.rangeFitsLong
    rw [Bool.and_eq_true, decide_eq_true_eq, decide_eq_true_eq]
    omega
  rw [if_pos (by decide), f 2 (by decide) (by decide), f (2 * ((n : Int) + 1)) (by omega) (by omega), f n (by omega) (by omega), f (2 * ((n : Int) + 1) + (2 - 1)) (by omega) (by omega)]
  simp
theorem list_range2 {r : Addr} {b : Int} {t₀ u₀ v₀ : Tok} (n : Nat) (hh : A.handled = none) (F : Fr h₀ L s.heap m) (N : News h₀ L s.heap news) (hr : IsRange s.heap r 2 b 2 t₀ u₀ v₀) (hb : b = 2 * ((n : Int) + 1)) (hn : n ≤ 1000)
    (h : ∀ D us c h' tk, Fr h₀ L h' m → News h₀ L h' ((D, W.listOf (List.toArray us) c) :: news) → (∀ p ∈ news, p.1 < D) → IntsAre us ((List.range n).map fun k : Nat => 2 * ((k : Int) + 1)) → Q (.ref D) { s with heap := h', toks := tk }) :
    wpAny (model prog w) A (call (.type "list") [.ref r]) Q E s := by
  subst hb
  refine call_list_range hh hr (sm2 n hn) (rs2 n) (Nat.le_trans hn (by decide)) fun h' tk acc c hk hD hI => ?_
  have hD' : h'.get? s.heap.objs.size = some (W.listOf (List.toArray acc.toList) c) := by
    rw [Array.toArray_toList]
    exact hD
  refine h _ acc.toList c h' tk (F.keeps hk) (news_pushed F N hk hD' rfl) (fun p hp => Heap.lt_size (N p hp).1) (ints_of ?_ fun j v hj => ?_)
  · rw [Array.length_toList, hI.1]; simp
  · rw [Array.getElem?_toList] at hj
    obtain ⟨t, rfl⟩ := hI.2 j v hj
    have hlt : j < n := by
      have := (Array.getElem?_eq_some_iff.mp hj).1
      rw [hI.1] at this; exact this
    refine ⟨2 * ((j : Int) + 1), t, by simp [hlt], ?_⟩
    congr 1
    omega
end
end
section -- E1
open PySem PySem.W PyProof.Rows PySem.Calls LCg
set_option maxRecDepth 100000
set_option maxHeartbeats 2000000
abbrev dd : List Nat := [46, 46, 46]
/-- a glob: none stands for three dots -/
noncomputable def dtext : List (Option Nat) → List Nat
  | [] => []
  | none :: r => 46 :: 46 :: 46 :: dtext r
  | some c :: r => c :: dtext r
noncomputable def addHead (c : Nat) : List (List Nat) → List (List Nat)
  | [] => [[c]]
  | w :: ws => (c :: w) :: ws
noncomputable def parts : List (Option Nat) → List (List Nat)
  | [] => [[]]
  | none :: r => [] :: parts r
  | some c :: r => addHead c (parts r)
theorem parts_ne (r : List (Option Nat)) : ∃ w ws, parts r = w :: ws := by
  induction r with
  | nil => exact ⟨_, _, rfl⟩
  | cons o r ih =>
    obtain ⟨w, ws, e⟩ := ih
    cases o with
    | none => exact ⟨_, _, rfl⟩
    | some c => exact ⟨c :: w, ws, by simp [parts, e, addHead]⟩
theorem strSub_S (l : List Nat) (i j : Nat) : Builtin.Str.strSub (S l) i j = S ((l.drop i).take (j - i)) := by
  apply Str.ext'
  simp [Builtin.Str.strSub]
open StrLaws in
theorem parts_from (x : List Nat) : ∀ (r : List (Option Nat)) (cuts : List Nat) (a p f : Nat), (∀ c, some c ∈ r → c ≠ 46) → a ≤ p → p ≤ x.length → x.drop p = dtext r → (∀ k, a ≤ k → k < p → ¬ At (S x) (S dd) (S x).length k) →
    ChainG (S x) (S dd) (S x).length a cuts f → (∀ k, f ≤ k → ¬ At (S x) (S dd) (S x).length k) → partsFrom (S x) 3 a cuts = (match parts r with | [] => [] | w :: ws => S ((x.drop a).take (p - a) ++ w) :: ws.map S) := by
  intro r
  induction r with
  | nil =>
    intro cuts a p f _ hap hpl hx hn hc hf
    have hpe : p = x.length := by have := congrArg List.length hx; simp [dtext] at this; omega
    cases cuts with
    | nil =>
      show [Builtin.Str.strSub (S x) a (S x).length] = _
      rw [strSub_S, S_len, hpe]; simp [parts]
    | cons c r =>
      exfalso
      have h1 := (at_S x dd c).mp hc.2.1
      refine hn c hc.1 ?_ hc.2.1
      have := h1.1; simp at this; omega
  | cons o r ih =>
    intro cuts a p f hr hap hpl hx hn hc hf
    cases o with
    | some c =>
      have hp1 : x.drop (p + 1) = dtext r := by
        have : (x.drop p).drop 1 = dtext r := by rw [hx]; rfl
        rwa [List.drop_drop] at this
      have hpc : x[p]? = some c := by
        have : (x.drop p)[0]? = some c := by rw [hx]; rfl
        rwa [List.getElem?_drop] at this
      have hpl2 : p < x.length := (List.getElem?_eq_some_iff.mp hpc).1
      have := ih cuts a (p + 1) f (fun c hc => hr c (.tail _ hc)) (by omega) (by omega) hp1 (fun k h1 h2 => by
        by_cases hk : k < p
        · exact hn k h1 hk
        · have hk2 : k = p := by omega
          intro hA
          have hA := ((at_S ..).mp hA).2
          have h3 : ((x.drop k).take dd.length)[0]? = some 46 := by rw [hA]; rfl
          rw [hk2, hx] at h3
          exact hr c (.head _) (by simpa [dtext] using h3)) hc hf
      rw [this]
      obtain ⟨w, ws, e⟩ := parts_ne r
      have e2 : parts (some c :: r) = (c :: w) :: ws := by simp [parts, e, addHead]
      rw [e, e2]
      have e3 : (x.drop a).take (p + 1 - a) = (x.drop a).take (p - a) ++ [c] := by
        rw [show p + 1 - a = (p - a) + 1 from Nat.succ_sub (by assumption), List.take_add_one, List.getElem?_drop, show a + (p - a) = p by omega, hpc]; rfl
      show (S _ :: _) = (S _ :: _)
      rw [e3, List.append_assoc]; rfl
    | none =>
      have hp1 : x.drop (p + 3) = dtext r := by
        have : (x.drop p).drop 3 = dtext r := by rw [hx]; rfl
        rwa [List.drop_drop] at this
      have hpl3 : p + 3 ≤ x.length := by
        have := congrArg List.length hx
        simp [dtext] at this; omega
      have hA : At (S x) (S dd) (S x).length p := (at_S ..).mpr ⟨hpl3, by rw [hx]; rfl⟩
      cases cuts with
      | nil =>
        exfalso
        have : f = a := hc
        exact hf p (by omega) hA
      | cons c cs =>
        have hcp : c = p := by
          rcases Nat.lt_trichotomy c p with h | h | h
          · exact absurd hc.2.1 (hn c hc.1 h)
          · exact h
          · exact absurd hA (hc.2.2.1 p hap h)
        subst hcp
        have h4 : ChainG (S x) (S dd) (S x).length (c + 3) cs f := hc.2.2.2
        have := ih cs (c + 3) (c + 3) f (fun d hd => hr d (.tail _ hd)) (Nat.le_refl _) hpl3 hp1 (fun k h1 h2 => by omega) h4 hf
        show Builtin.Str.strSub (S x) a c :: partsFrom (S x) 3 (c + 3) cs = _
        rw [this, strSub_S]
        obtain ⟨w, ws, e⟩ := parts_ne r
        have e2 : parts (none :: r) = [] :: w :: ws := by simp [parts, e]
        rw [e, e2]; simp
theorem kind_S {l : List Nat} (h : asc l) : Builtin.Str.strKind (S l) = 1 := by
  unfold Builtin.Str.strKind
  rw [if_pos]
  rw [← Array.all_toList]
  exact List.all_eq_true.mpr fun c hc => by have := h c (by simpa using hc); simp; omega
theorem kind_pos (s : Str) : 1 ≤ Builtin.Str.strKind s := by
  unfold Builtin.Str.strKind
  split
  · omega
  · split <;> omega
theorem split_S (r : List (Option Nat)) (hr : ∀ c, some c ∈ r → c ≠ 46) : Txt.split (S (dtext r)) (S dd) = (parts r).map S := by
  have hocc := StrLaws.occ_tight (S (dtext r)) (S dd) (by decide)
  obtain ⟨f, hG, hf⟩ := hocc
  have key := parts_from (dtext r) r _ 0 0 f hr (Nat.le_refl _) (Nat.zero_le _) rfl (fun k _ h => by omega) hG hf
  have key2 : StrLaws.partsFrom (S (dtext r)) 3 0 (Builtin.Str.occurrences (S (dtext r)) (S dd) 0 (S (dtext r)).length ((S (dtext r)).length + 1)) = (parts r).map S := by
    rw [key]
    obtain ⟨w, ws, e⟩ := parts_ne r
    rw [e]; simp
  have hk : Builtin.Str.strKind (S dd) = 1 := kind_S (by intro c hc; simp at hc; omega)
  have hno : Builtin.Str.occurrences (S (dtext r)) (S dd) 0 (S (dtext r)).length ((S (dtext r)).length + 1) = [] → [S (dtext r)] = (parts r).map S := fun h => by
    rw [h] at key2
    rw [← key2]
    show _ = [Builtin.Str.strSub _ _ _]
    rw [strSub_S, S_len]; simp
  unfold Txt.split
  split
  · rename_i h
    apply hno
    cases hc : Builtin.Str.occurrences (S (dtext r)) (S dd) 0 (S (dtext r)).length ((S (dtext r)).length + 1) with
    | nil => rfl
    | cons c cs =>
      exfalso
      rw [hc] at hG
      have := hG.2.1.1
      simp only [Bool.or_eq_true, decide_eq_true_eq] at h
      rcases h with h | h
      · omega
      · have := kind_pos (S (dtext r)); omega
  · split
    · rename_i h
      exact hno (List.isEmpty_iff.mp h)
    · rw [StrLaws.partsBetween_eq]; exact key2
theorem in_S (r : List (Option Nat)) : none ∈ r → dd <:+: dtext r := by
  intro h
  induction r with
  | nil => cases h
  | cons o r ih =>
    cases o with
    | none => exact ⟨[], dtext r, rfl⟩
    | some c =>
      obtain ⟨p, q, e⟩ := ih (by simpa using h)
      exact ⟨c :: p, q, by simp [dtext, ← e]⟩
theorem dtext_some (w : List Nat) : dtext (w.map some) = w := by
  induction w with
  | nil => rfl
  | cons c w ih => simp [dtext, ih]
theorem no_dots {w : List Nat} (hw : ∀ c ∈ w, c ≠ 46) : ¬ dd <:+: w := fun ⟨p, q, e⟩ => hw 46 (by rw [← e]; simp) rfl
/-- the first place at or behind s of w in b, its end at most e -/
noncomputable def fits (b w : List Nat) (e i : Nat) : Bool := decide (i + w.length ≤ e) && decide ((b.drop i).take w.length = w)
noncomputable def findN (b w : List Nat) (s e : Nat) : Option Nat := (List.range' s (e + 1 - s)).find? (fits b w e)
noncomputable def find4 (x y : Str) (i j : Int) : Int := match Builtin.Str.occurrences x y (fromIndex x.length i) (min (max 0 (if j < 0 then j + x.length else j)).toNat x.length) 1 with | k :: _ => (k : Int) | [] => -1
theorem gives_find4 (x y : Str) (i j : Int) (t u v z : Tok) : Gives (Builtin.«str.find» ⟨[.str x t, .str y u, .int i v, .int j z], []⟩) (.int (find4 x y i j)) := by
  unfold find4
  show Gives (match Builtin.Str.occurrences x y (fromIndex x.length i) (min (max 0 (if j < 0 then j + x.length else j)).toNat x.length) 1 with | i :: _ => retInt i | [] => (do rule "str.find.not-found"; retInt (-1))) _
  cases Builtin.Str.occurrences x y (fromIndex x.length i) (min (max 0 (if j < 0 then j + x.length else j)).toNat x.length) 1 with
  | nil => exact .rule (.of_eq rfl)
  | cons k _ => exact .of_eq rfl
theorem call_find4 {prog : Program} {w : World} {A : Around} {E : Value → Shared → Prop} {s : Shared} {x y : Str} {t u v z : Tok} {i j : Int} {Q : Value → Shared → Prop}
    (hq : ∀ t' k, Q (.int (find4 x y i j) t') { s with toks := k }) : wpAny (model prog w) A (call (.builtin "str.find") [.str x t, .str y u, .int i v, .int j z]) Q E s :=
  call_gives F.slot_str_find (typeIs_str _ _ _) F.entry_str_find (F.args_str_find_4 _ _ _ _) (gives_find4 x y i j t u v z) (hq _ _)
open StrLaws Builtin Builtin.Str in
theorem find4_S (b w : List Nat) (s e : Nat) (he : e ≤ b.length) : find4 (S b) (S w) (s : Int) (e : Int) = (match findN b w s e with | some i => (i : Int) | none => -1) := by
  have e1 : fromIndex (S b).length (s : Int) = s := by unfold fromIndex; rw [if_neg (Int.not_lt.mpr (Int.natCast_nonneg s)), Int.max_eq_right (Int.natCast_nonneg s), Int.toNat_natCast]
  have e2 : (min (max 0 (if (e : Int) < 0 then (e : Int) + (S b).length else (e : Int))).toNat (S b).length) = e := by rw [if_neg (Int.not_lt.mpr (Int.natCast_nonneg e)), S_len, Int.max_eq_right (Int.natCast_nonneg e), Int.toNat_natCast, Nat.min_eq_left he]
  unfold find4
  rw [e1, e2, occ_eq]
  have hA : ∀ i, At (S b) (S w) e i ↔ fits b w e i = true := fun i => by
    unfold At fits
    rw [sub_S, S_len, Bool.and_eq_true, decide_eq_true_eq, decide_eq_true_eq]
  rcases occ_first (S b) (S w) e 1 (Nat.le_refl _) (List.range' s (e + 1 - s)) s (fun i hi => by have := List.mem_range'_1.mp hi; omega) with ⟨h0, hn⟩ | ⟨pre, a, post, hl, h0, ha, hn⟩
  · have : findN b w s e = none := by
      unfold findN
      rw [List.find?_eq_none]
      exact fun i hi h => hn i hi ((hA i).mpr h)
    rw [h0, this]
  · have : findN b w s e = some a := by
      unfold findN
      rw [hl, List.find?_append, List.find?_eq_none.mpr fun i hi h => hn i hi ((hA i).mpr h)]
      simp [(hA a).mp ha]
    rw [this]
    generalize (forIn (List.range' s (e + 1 - s)) ((#[] : Array Nat), s) (occBody (S b) (S w) e 1)).run.fst = arr at h0
    have h1 : arr.toList[0]? = some a := by simpa using h0
    cases hL : arr.toList with
    | nil => rw [hL] at h1; cases h1
    | cons b t => rw [hL] at h1; simp at h1; rw [h1]
end
section -- E2
open PySem PySem.W PyProof.Rows PySem.Calls LCg
set_option maxRecDepth 100000
set_option maxHeartbeats 2000000
section
variable {prog : Program} {w : World} {A : Around} {E : Value → Shared → Prop} {s : Shared} {env : Env} {h₀ : Heap} {x : Str} {px : Pos} {body : List Stmt} {Q : Flow → Shared → Prop}
theorem listOf_isList {h : Heap} {ax : Addr} {items : Array Value} {n : Nat} (e : h.get? ax = some (W.listOf items n)) : h.IsList ax items := ⟨_, e, rfl, _, rfl⟩
theorem own_list {h : Heap} {I ax : Addr} {oI oA : Obj} {own : Nws} (h1 : ∀ p ∈ own, p.1 ∈ [I, ax]) (h2 : ∀ p ∈ own, h.get? p.1 = some p.2) (hI : h.get? I = some oI) (hA : h.get? ax = some oA) : ∀ p ∈ own, p = (I, oI) ∨ p = (ax, oA) := fun p hp => by
  have a := h2 p hp
  rcases List.mem_cons.mp (h1 p hp) with e | e
  · left; rw [e, hI] at a; exact Prod.ext e (Option.some.inj a).symm
  · right
    have e := List.mem_singleton.mp e
    rw [e, hA] at a; exact Prod.ext e (Option.some.inj a).symm
theorem loop_list {ax : Addr} {items : Array Value} {n : Nat} {m₀ : Str → Option Value} {news : Nws} (J : Nat → (Str → Option Value) → Nws → Prop)
    (hh : A.handled = none) (hax : ∀ i m nx, J i m nx → (ax, W.listOf items n) ∈ nx) (F : Fr h₀ env.locals s.heap m₀) (N : News h₀ env.locals s.heap news) (hj : J 0 m₀ news)
    (turn : ∀ i v m₁ nx h tk I oI, items[i]? = some v → OwnOff [(I, oI)] (nx.map (·.1)) → J i m₁ nx → Fr h₀ env.locals h (fun y => if y = x then some v else m₁ y) → News h₀ env.locals h (nx ++ [(I, oI)]) →
      wpAny (model prog w) A (execs body env) (InvPostG h₀ env.locals (J (i + 1)) [(I, oI)] { s with heap := h, toks := tk } Q) E { s with heap := h, toks := tk })
    (done : ∀ m₁ nx h tk, J items.size m₁ nx → Fr h₀ env.locals h m₁ → News h₀ env.locals h nx → Q .next { s with heap := h, toks := tk }) :
    wpAny (model prog w) A (pyIter (.ref ax)) (fun it s₂ => LoopAtV prog w A h₀ env x body Q E it s₂) E s := by
  have hm := hax _ _ _ hj
  have hA := N _ hm
  have hls : s.heap.IsList ax items := listOf_isList hA.1
  have hne : ax ≠ s.heap.objs.size := Nat.ne_of_lt (Heap.lt_size hA.1)
  refine wpAny_pyIter_list hls ?_
  have W := Walks.list (prog := prog) (w := w) hh s.heap.objs.size ax hne items
  have hI₀ : h₀.get? s.heap.objs.size = none := next_is_new F
  refine ⟨_, _, _, _, _, _, m₀, news, J, rfl, W, ?_, ?_, ?_, ⟨⟨_, Heap.get?_push_size _ rfl, rfl, rfl⟩, hls.at fun o e => Heap.get?_push_of_some _ e⟩, F.push _, (fun p hp => ⟨Heap.get?_push_of_some _ (N p hp).1, (N p hp).2⟩), hj, ?_, ?_⟩
  · intro hmm
    rcases List.mem_cons.mp hmm with e | hmm
    · exact absurd F.ns.lt (e ▸ Nat.lt_irrefl _)
    · exact hA.2.1 (List.mem_singleton.mp hmm).symm
  · intro b hb
    rw [List.mem_singleton.mp hb]
    exact hI₀
  · intro p hp hI
    exact absurd (Heap.lt_size (N p hp).1) ((List.mem_singleton.mp hI) ▸ Nat.lt_irrefl _)
  · rintro i v m₁ news₁ s₁ own ⟨hh', tk', rfl⟩ hin hP hJ hoff h5 h6 h7 hs F₁ N₁
    obtain ⟨oI, hoI, _⟩ := id hs.1
    have hA1 := N₁ _ (List.mem_append.mpr (.inr (hax _ _ _ hJ)))
    have ow := own_list h5 h6 hoI hA1.1
    have hIo : (s.heap.objs.size, oI) ∈ own := h7 _ List.mem_cons_self hI₀ oI hoI
    have NI : News h₀ env.locals hh' (news₁ ++ [(s.heap.objs.size, oI)]) := fun p hp => by
      rcases List.mem_append.mp hp with hp | hp
      · exact N₁ p (List.mem_append.mpr (.inr hp))
      · rw [List.mem_singleton.mp hp]; exact N₁ _ (List.mem_append.mpr (.inl hIo))
    have hoff2 : OwnOff [(s.heap.objs.size, oI)] (news₁.map (·.1)) := by
      intro p hp b hb e
      obtain ⟨q, hq, rfl⟩ := List.mem_map.mp hb
      rw [List.mem_singleton.mp hp] at e
      exact hoff q hq (List.mem_singleton.mpr e.symm)
    refine wpAny_mono (turn i v m₁ news₁ hh' tk' _ oI hP hoff2 hJ F₁ NI) (fun f s₂ p => ?_) fun _ _ e => e
    have fin : InvEndG h₀ env.locals (J (i + 1)) [(s.heap.objs.size, oI)] { s with heap := hh', toks := tk' } s₂ → LoopStepU h₀ env.locals [s.heap.objs.size] own (J (i + 1)) { s with heap := hh', toks := tk' } .next s₂ := by
      rintro ⟨h', tk, m', news', nx, e, F', N', hn, ho, ha, hm⟩
      refine ⟨rfl, h', tk, m', nx, e, F', fun p hp => ?_, fun p hp hq => ?_, hm⟩
      · rcases List.mem_append.mp hp with hp | hp
        · rcases ow p hp with rfl | rfl
          · exact N' _ (ho _ List.mem_cons_self)
          · exact N' _ (hn _ (hax _ _ _ hm))
        · exact N' p (hn p hp)
      · exact ha _ List.mem_cons_self p.1 (List.mem_map.mpr ⟨p, hp, rfl⟩) (List.mem_singleton.mp hq).symm
    cases f with
    | ret v => exact .ret p
    | brk => exact .brk p
    | next => exact .next (fin p)
    | cont => exact .cont (fin p)
  · rintro h' tk m' news' F' N' _ hJ
    exact done m' news' h' tk hJ F' N'
theorem loopT_list {ax : Addr} {items : Array Value} {n : Nat} {m₀ : Str → Option Value} {news : Nws} (J : Nat → (Str → Option Value) → Nws → Prop)
    (hh : A.handled = none) (hax : ∀ i m nx, J i m nx → (ax, W.listOf items n) ∈ nx) (F : Fr h₀ env.locals s.heap m₀) (N : News h₀ env.locals s.heap news) (hj : J 0 m₀ news)
    (turn : ∀ i v m₁ nx (s₁ : Shared) I oI, items[i]? = some v → OwnOff [(I, oI)] (nx.map (·.1)) → J i m₁ nx → Fr h₀ env.locals s₁.heap m₁ → News h₀ env.locals s₁.heap (nx ++ [(I, oI)]) →
      wpAny (model prog w) A (storeName env x v) (fun _ s₃ => wpAny (model prog w) A (execs body env) (EndT h₀ env.locals (J (i + 1)) [(I, oI)] s₁) E s₃) E s₁)
    (done : ∀ m₁ nx h tk, J items.size m₁ nx → Fr h₀ env.locals h m₁ → News h₀ env.locals h nx → Q .next { s with heap := h, toks := tk }) :
    wpAny (model prog w) A (pyIter (.ref ax)) (fun it s₂ => LoopAtT prog w A h₀ env (.Name x px) body Q E it s₂) E s := by
  have hm := hax _ _ _ hj
  have hA := N _ hm
  have hls : s.heap.IsList ax items := listOf_isList hA.1
  have hne : ax ≠ s.heap.objs.size := Nat.ne_of_lt (Heap.lt_size hA.1)
  refine wpAny_pyIter_list hls ?_
  have W := Walks.list (prog := prog) (w := w) hh s.heap.objs.size ax hne items
  have hI₀ : h₀.get? s.heap.objs.size = none := next_is_new F
  refine ⟨_, _, _, _, _, _, m₀, news, J, rfl, W, ?_, ?_, ?_, ⟨⟨_, Heap.get?_push_size _ rfl, rfl, rfl⟩, hls.at fun o e => Heap.get?_push_of_some _ e⟩, F.push _, (fun p hp => ⟨Heap.get?_push_of_some _ (N p hp).1, (N p hp).2⟩), fun i s' v Q' _ hq => wpAny_of_eq (a := ()) rfl hq, hj, ?_, ?_⟩
  · intro hmm
    rcases List.mem_cons.mp hmm with e | hmm
    · exact absurd F.ns.lt (e ▸ Nat.lt_irrefl _)
    · exact hA.2.1 (List.mem_singleton.mp hmm).symm
  · intro b hb
    rw [List.mem_singleton.mp hb]
    exact hI₀
  · intro p hp hI
    exact absurd (Heap.lt_size (N p hp).1) ((List.mem_singleton.mp hI) ▸ Nat.lt_irrefl _)
  · intro i v m₁ news₁ s₁ own hin hP hJ hoff h5 h6 h7 hs F₁ N₁
    obtain ⟨oI, hoI, _⟩ := id hs.1
    have hA1 := N₁ _ (List.mem_append.mpr (.inr (hax _ _ _ hJ)))
    have ow := own_list h5 h6 hoI hA1.1
    have hIo : (s.heap.objs.size, oI) ∈ own := h7 _ List.mem_cons_self hI₀ oI hoI
    have NI : News h₀ env.locals s₁.heap (news₁ ++ [(s.heap.objs.size, oI)]) := fun p hp => by
      rcases List.mem_append.mp hp with hp | hp
      · exact N₁ p (List.mem_append.mpr (.inr hp))
      · rw [List.mem_singleton.mp hp]; exact N₁ _ (List.mem_append.mpr (.inl hIo))
    have hoff2 : OwnOff [(s.heap.objs.size, oI)] (news₁.map (·.1)) := by
      intro p hp b hb e
      obtain ⟨q, hq, rfl⟩ := List.mem_map.mp hb
      rw [List.mem_singleton.mp hp] at e
      exact hoff q hq (List.mem_singleton.mpr e.symm)
    refine wpAny_assign_Name (wpAny_mono (turn i v m₁ news₁ s₁ _ oI hP hoff2 hJ F₁ NI) (fun _ s₃ h₃ => wpAny_mono h₃ (fun f s₂ p => ?_) fun _ _ e => e) fun _ _ e => e)
    obtain ⟨rfl, h', tk, m', news', nx, e, F', N', hn, ho, ha, hm⟩ := p
    refine ⟨rfl, h', tk, m', nx, e, F', fun p hp => ?_, fun p hp hq => ?_, hm⟩
    · rcases List.mem_append.mp hp with hp | hp
      · rcases ow p hp with rfl | rfl
        · exact N' _ (ho _ List.mem_cons_self)
        · exact N' _ (hn _ (hax _ _ _ hm))
      · exact N' p (hn p hp)
    · exact ha _ List.mem_cons_self p.1 (List.mem_map.mpr ⟨p, hp, rfl⟩) (List.mem_singleton.mp hq).symm
  · rintro h' tk m' news' F' N' _ hJ
    exact done m' news' h' tk hJ F' N'
end
end
section -- E3
open PySem PySem.W PyProof.Rows PySem.Calls LCg
set_option maxRecDepth 100000
set_option maxHeartbeats 8000000
structure Glob (r : List (Option Nat)) : Prop where
  ok : ∀ c, some c ∈ r → letter c
  len : r.length ≤ 5
theorem Glob.n46 {r : List (Option Nat)} (h : Glob r) : ∀ c, some c ∈ r → c ≠ 46 := fun c hc => by have := h.ok c hc; unfold letter at this; omega
theorem dtext_len (r : List (Option Nat)) : (dtext r).length ≤ 3 * r.length := by
  induction r with
  | nil => exact Nat.le_refl _
  | cons o r ih => cases o <;> simp [dtext] <;> omega
theorem parts_cases (r : List (Option Nat)) : (none ∉ r ∧ parts r = [dtext r]) ∨ (none ∈ r ∧ ∃ w0 mid wl, parts r = w0 :: (mid ++ [wl])) := by
  induction r with
  | nil => left; exact ⟨nofun, rfl⟩
  | cons o r ih =>
    cases o with
    | none =>
      right
      refine ⟨.head _, ?_⟩
      rcases ih with ⟨_, e⟩ | ⟨_, w0, mid, wl, e⟩
      · exact ⟨[], [], dtext r, by simp [parts, e]⟩
      · exact ⟨[], w0 :: mid, wl, by simp [parts, e]⟩
    | some c =>
      rcases ih with ⟨h, e⟩ | ⟨h, w0, mid, wl, e⟩
      · left; exact ⟨by simpa using h, by simp [parts, e, addHead, dtext]⟩
      · right; exact ⟨by simpa using h, c :: w0, mid, wl, by simp [parts, e, addHead]⟩
theorem none_iff {r : List (Option Nat)} (hr : Glob r) : dd <:+: dtext r ↔ none ∈ r := by
  refine ⟨fun h => Decidable.byContradiction fun hn => ?_, in_S r⟩
  have : ∀ r : List (Option Nat), (∀ c, some c ∈ r → c ≠ 46) → none ∉ r → ∀ c ∈ dtext r, c ≠ 46 := by
    intro r
    induction r with
    | nil => intro _ _ c hc; cases hc
    | cons o r ih =>
      intro h1 h2 c hc
      cases o with
      | none => exact absurd (.head _) h2
      | some d =>
        rcases List.mem_cons.mp hc with rfl | hc
        · exact h1 _ (.head _)
        · exact ih (fun c hc => h1 c (.tail _ hc)) (fun h => h2 (.tail _ h)) c hc
  exact no_dots (this r hr.n46 hn) h
theorem parts_len (r : List (Option Nat)) : (parts r).length ≤ r.length + 1 := by
  induction r with
  | nil => exact Nat.le_refl _
  | cons o r ih =>
    cases o with
    | none => simp [parts]; omega
    | some c =>
      obtain ⟨w, ws, e⟩ := parts_ne r
      rw [e] at ih
      simp [parts, e, addHead] at ih ⊢; omega
theorem part_len {r : List (Option Nat)} : ∀ w ∈ parts r, w.length ≤ r.length := by
  induction r with
  | nil => intro w hw; rw [List.mem_singleton.mp hw]; exact Nat.le_refl _
  | cons o r ih =>
    intro w hw
    cases o with
    | none =>
      rcases List.mem_cons.mp hw with rfl | hw
      · exact Nat.zero_le _
      · exact Nat.le_succ_of_le (ih w hw)
    | some c =>
      obtain ⟨v, vs, e⟩ := parts_ne r
      rw [e] at ih
      have hw : w ∈ (c :: v) :: vs := by simpa [parts, e, addHead] using hw
      rcases List.mem_cons.mp hw with rfl | hw
      · have := ih v (.head _); simp; omega
      · exact Nat.le_succ_of_le (ih w (.tail _ hw))
section
variable {prog : Program} {w : World} {A : Around} {E : Value → Shared → Prop} {s : Shared} {h₀ : Heap} {L : Addr} {m : Str → Option Value} {news : Nws} 
theorem call_split {Q : Value → Shared → Prop} {r : List (Option Nat)} {t u : Tok} {w0 wl : List Nat} {mid : List (List Nat)} (F : Fr h₀ L s.heap m) (N : News h₀ L s.heap news) (hr : Glob r) (hp : parts r = w0 :: (mid ++ [wl]))
    (h : ∀ D ms t0 t1 h' k, StrsAre ms (mid.map S) → ms.length ≤ 10 → @LT.lt Nat _ L D → Fr h₀ L h' m → News h₀ L h' ((D, W.listOf (Value.str (S w0) t0 :: (ms ++ [Value.str (S wl) t1])).toArray 0) :: news) → (∀ p ∈ news, p.1 < D) → Q (.ref D) { s with heap := h', toks := k }) :
    wpAny (model prog w) A (call (.builtin "str.split") [.str (S (dtext r)) t, .str (Str.ofString "...") u]) Q E s := by
  rw [dots3_S]
  refine splitN1 F N (by decide) (fun l h' k e F' N' => ?_) (Nat.le_trans (m := 1000) (by have := dtext_len r; have := hr.len; rw [S_len]; omega) (by decide))
  have hs := strsAre_of_values l
  rw [e, split_S r hr.n46, hp, List.map_cons, List.map_append] at hs
  obtain ⟨t0, rest, e1, h1⟩ : ∃ t0 rest, strValues l = Value.str (S w0) t0 :: rest ∧ StrsAre rest (mid.map S ++ [wl].map S) := by
    generalize strValues l = vs at hs
    cases hs with
    | cons y t h => exact ⟨_, _, rfl, h⟩
  obtain ⟨ms, t1, e2, h2⟩ : ∃ ms t1, rest = ms ++ [Value.str (S wl) t1] ∧ StrsAre ms (mid.map S) := by
    clear e1 hs
    generalize hmm : mid.map S = md at h1
    clear hmm
    induction md generalizing rest with
    | nil =>
      cases h1 with
      | cons y t h => cases h with | nil => exact ⟨[], _, rfl, .nil⟩
    | cons a md ih =>
      cases h1 with
      | cons y t h =>
        obtain ⟨ms, t1, rfl, h3⟩ := ih _ h
        exact ⟨_ :: ms, t1, rfl, .cons _ _ h3⟩
  rw [e1, e2] at N'
  exact h _ ms t0 t1 h' k h2 (by have := parts_len r; have := hr.len; have h3 := h2.length; rw [hp] at *; simp at *; omega) F.ns.lt F' N' fun p hp => Heap.lt_size (N p hp).1
theorem len_L {D : Addr} {ys : List Value} {n : Nat} {Q : Value → Shared → Prop} (N : News h₀ L s.heap news) (hm : (D, W.listOf ys.toArray n) ∈ news) (hl : ys.length ≤ 1000)
    (h : ∀ t k, Q (.int (ys.length : Nat) t) { s with toks := k }) : wpAny (model prog w) A (call (.builtin "len") [.ref D]) Q E s := by
  refine call_len_list (isl N hm) ?_ ?_
  · show ((ys.length : Nat) : Int) < _; omega
  · exact h _ _
theorem del_at {D : Addr} {ys zs : List Value} {n : Nat} {i : Int} {k : Nat} {t : Tok} {news' : Nws} {Q : Unit → Shared → Prop} (F : Fr h₀ L s.heap m) (N : News h₀ L s.heap news) (U : Upd D (W.listOf ys.toArray n) (W.listOf zs.toArray (n + 1)) news news')
    (hi : Builtin.List.listFitsIndex i = true) (hk : seqIndex? i ys.length = some k) (hk2 : k < ys.length) (hz : ys.eraseIdx k = zs) (hl : ys.length ≤ 1000)
    (h : ∀ h', Fr h₀ L h' m → News h₀ L h' news' → Q () { s with heap := h' }) : wpAny (model prog w) A (delItem (.ref D) (.int i t)) Q E s := by
  obtain ⟨pre, post, rfl, rfl, a, b⟩ := U.split
  have z := N (D, W.listOf ys.toArray n) (List.mem_append.mpr (.inr (.head _)))
  have hs : Heap.SameBut D s.heap (s.heap.update D (Obj.mapSeq fun xs => xs.eraseIdxIfInBounds k)) := Heap.SameBut.update ..
  refine P.delItem_list (n := n) z.1 hi hk (h _ (F.change hs z.2.1 z.2.2) (news_set N a b hs ?_)) (Nat.le_trans hl (by decide))
  obtain ⟨n', hd'⟩ := Obj.data_mapSeq (rfl : (W.listOf ys.toArray n).data = .seq ys.toArray n) (fun xs => xs.eraseIdxIfInBounds k)
  rw [Heap.get?_update_self _ z.1 (Obj.isFreed_of_seq hd')]
  show some (Obj.mapSeq (fun xs => xs.eraseIdxIfInBounds k) (W.listOf ys.toArray n)) = _
  have e4 : Obj.mapSeq (fun xs => xs.eraseIdxIfInBounds k) (W.listOf ys.toArray n) = W.listOf (ys.toArray.eraseIdxIfInBounds k) (if ((ys.toArray.eraseIdxIfInBounds k).size == ys.toArray.size) = true then n else n + 1) := rfl
  have e5 : ys.toArray.eraseIdxIfInBounds k = zs.toArray := by rw [← hz]; simp
  rw [e4, e5, if_neg]
  have : zs.length + 1 = ys.length := by rw [← hz, List.length_eraseIdx_of_lt hk2]; omega
  simp; omega
theorem del_first {D : Addr} {v : Value} {zs : List Value} {n : Nat} {t : Tok} {news' : Nws} {Q : Unit → Shared → Prop} (F : Fr h₀ L s.heap m) (N : News h₀ L s.heap news) (U : Upd D (W.listOf (v :: zs).toArray n) (W.listOf zs.toArray (n + 1)) news news')
    (hl : zs.length ≤ 999) (h : ∀ h', Fr h₀ L h' m → News h₀ L h' news' → Q () { s with heap := h' }) : wpAny (model prog w) A (delItem (.ref D) (.int 0 t)) Q E s :=
  del_at F N U (by decide) (k := 0) (by unfold seqIndex?; simp) (by simp) (by simp) (by simpa using hl) h
theorem del_last {D : Addr} {v : Value} {zs : List Value} {n : Nat} {t : Tok} {news' : Nws} {Q : Unit → Shared → Prop} (F : Fr h₀ L s.heap m) (N : News h₀ L s.heap news) (U : Upd D (W.listOf (zs ++ [v]).toArray n) (W.listOf zs.toArray (n + 1)) news news')
    (hl : zs.length ≤ 999) (h : ∀ h', Fr h₀ L h' m → News h₀ L h' news' → Q () { s with heap := h' }) : wpAny (model prog w) A (delItem (.ref D) (.int (-1) t)) Q E s :=
  del_at F N U (by decide) (k := zs.length) (by unfold seqIndex?; simp; omega) (by simp) (by rw [List.eraseIdx_append_of_length_le (Nat.le_refl _)]; simp) (by simpa using hl) h
theorem len_2 {D : Addr} {v v0 : Value} {zs : List Value} {n : Nat} {Q : Value → Shared → Prop} (N : News h₀ L s.heap news) (hm : (D, W.listOf (v0 :: (zs ++ [v])).toArray n) ∈ news) (hl : zs.length ≤ 998)
    (h : ∀ t k, Q (.int ((zs.length : Int) + 2) t) { s with toks := k }) : wpAny (model prog w) A (call (.builtin "len") [.ref D]) Q E s := by
  refine len_L N hm (by simp; omega) fun t k => ?_
  have e : (((v0 :: (zs ++ [v])).length : Nat) : Int) = (zs.length : Int) + 2 := by simp; omega
  rw [e]; exact h t k
theorem item_first {D : Addr} {v0 : Value} {zs : List Value} {n : Nat} {value slice : PySem.Expr} {u : Tok} {Q : Value → Shared → Prop} (N : News h₀ L s.heap news) (hm : (D, W.listOf (v0 :: zs).toArray n) ∈ news) (h : Q v0 s)
    (hb : subscripted slice false (.ref D) (.int 0 u) = operate [.ref D, .int 0 u] (getItem (.ref D) (.int 0 u))) :
    wpAny (model prog w) A (subscriptTail value slice (.ref D) (.int 0 u)) Q E s := item_at (i := 0) N hm rfl (by decide) h hb
theorem item_last2 {D : Addr} {v : Value} {zs : List Value} {n : Nat} {value slice : PySem.Expr} {u : Tok} {Q : Value → Shared → Prop} (N : News h₀ L s.heap news) (hm : (D, W.listOf (zs ++ [v]).toArray n) ∈ news) (h : Q v s)
    (hb : subscripted slice false (.ref D) (.int (-1) u) = operate [.ref D, .int (-1) u] (getItem (.ref D) (.int (-1) u))) :
    wpAny (model prog w) A (subscriptTail value slice (.ref D) (.int (-1) u)) Q E s := item_last N hm List.getLast?_concat h hb
end
end
section -- W8
open PySem PySem.W PyProof.Rows PySem.Calls LCg
set_option maxRecDepth 100000
set_option maxHeartbeats 2000000
noncomputable def emLoop (b : List Nat) (e : Nat) : List (List Nat) → Nat → Bool
  | [], _ => true
  | w :: ws, s => match findN b w s e with
    | none => false
    | some i => emLoop b e ws (i + w.length)
noncomputable def emB (b w0 : List Nat) (mid : List (List Nat)) (wl : List Nat) : Bool := decide (w0 <+: b) && decide (wl <:+ b) && decide (w0.length + wl.length ≤ b.length) && emLoop b (b.length - wl.length) mid w0.length
noncomputable def emRes (r : List (Option Nat)) (b : List Nat) : Bool := match parts r with
  | [] => false
  | w0 :: rest => if rest = [] then decide (w0 = b) else emB b w0 rest.dropLast (rest.getLastD [])
theorem emRes_one {r : List (Option Nat)} {b w0 : List Nat} (h : parts r = [w0]) : emRes r b = decide (w0 = b) := by unfold emRes; rw [h]; rfl
theorem emRes_more {r : List (Option Nat)} {b w0 wl : List Nat} {mid : List (List Nat)} (h : parts r = w0 :: (mid ++ [wl])) : emRes r b = emB b w0 mid wl := by
  unfold emRes; rw [h]
  show (if mid ++ [wl] = [] then _ else _) = _
  rw [if_neg (by simp)]
  simp
theorem findN_nil {b : List Nat} {s e : Nat} (h : s ≤ e) : findN b [] s e = some s := by
  unfold findN
  rw [show e + 1 - s = (e - s) + 1 from Nat.succ_sub (by assumption), List.range'_succ, List.find?_cons_of_pos]
  simp [fits, h]
theorem findN_le {b w : List Nat} {s e i : Nat} (h : findN b w s e = some i) : s ≤ i ∧ i + w.length ≤ e := by
  unfold findN at h
  have h1 := List.find?_some h
  have h2 := List.mem_of_find?_eq_some h
  unfold fits at h1
  rw [Bool.and_eq_true, decide_eq_true_eq] at h1
  exact ⟨(List.mem_range'_1.mp h2).1, h1.1⟩
theorem emLoop_first {b : List Nat} {e : Nat} {ws : List (List Nat)} {s : Nat} (h : s ≤ e) : emLoop b e ([] :: ws) s = emLoop b e ws s := by
  show (match findN b [] s e with | none => false | some i => emLoop b e ws (i + ([] : List Nat).length)) = _
  rw [findN_nil h]; rfl
theorem emLoop_last {b : List Nat} {e : Nat} {ws : List (List Nat)} : ∀ {s : Nat}, s ≤ e → emLoop b e (ws ++ [[]]) s = emLoop b e ws s := by
  induction ws with
  | nil => intro s h; exact emLoop_first h
  | cons w ws ih =>
    intro s h
    show (match findN b w s e with | none => false | some i => emLoop b e (ws ++ [[]]) (i + w.length)) = (match findN b w s e with | none => false | some i => emLoop b e ws (i + w.length))
    cases hf : findN b w s e with
    | none => rfl
    | some i => exact ih (findN_le hf).2
theorem strs_get {vs : List Value} {ws : List (List Nat)} (h : StrsAre vs (ws.map S)) {i : Nat} {v : Value} (hv : vs.toArray[i]? = some v) : ∃ x t, ws[i]? = some x ∧ v = Value.str (S x) t := by
  have hv : vs[i]? = some v := by simpa using hv
  induction ws generalizing vs i with
  | nil => cases h; cases hv
  | cons a ws ih =>
    cases h with
    | cons y t h =>
      cases i with
      | zero => cases hv; exact ⟨a, t, rfl, rfl⟩
      | succ i => exact ih h (by simpa using hv) (by simpa using hv)
theorem emLoop_at {b : List Nat} {e : Nat} {ws : List (List Nat)} {x : List Nat} {i : Nat} {s : Nat} (h : ws[i]? = some x) : emLoop b e (ws.drop i) s = (match findN b x s e with | none => false | some j => emLoop b e (ws.drop (i + 1)) (j + x.length)) := by
  obtain ⟨hi, rfl⟩ := List.getElem?_eq_some_iff.mp h
  rw [List.drop_eq_getElem_cons hi]
  rfl
theorem dtext_one {r : List (Option Nat)} {w : List Nat} (h : parts r = [w]) : w = dtext r := by
  rcases parts_cases r with ⟨_, e⟩ | ⟨_, w0, mid, wl, e⟩
  · rw [e] at h; exact (List.cons.inj h).1.symm
  · rw [e] at h; have := (List.cons.inj h).2; simp at this
theorem call_find4' {prog : Program} {w : World} {A : Around} {E : Value → Shared → Prop} {s : Shared} {x y : Str} {t u v z : Tok} {i j k : Int} {Q : Value → Shared → Prop} (e : find4 x y i j = k)
    (hq : ∀ t' n, Q (.int k t') { s with toks := n }) : wpAny (model prog w) A (call (.builtin "str.find") [.str x t, .str y u, .int i v, .int j z]) Q E s := call_find4 fun t' n => e ▸ hq t' n
noncomputable def emJ (r : List (Option Nat)) (b : List Nat) (ta tb : Tok) (D : Addr) (vs : List Value) (n : Nat) (ws : List (List Nat)) (e : Nat) (e' : Int) (R : Bool) (i : Nat) (m : Str → Option Value) (nx : Nws) : Prop :=
  ∃ (sp : Nat) (sp' : Int) (t te : Tok), sp' = (sp : Int) ∧ emLoop b e (ws.drop i) sp = R ∧ nx = [(D, W.listOf vs.toArray n)] ∧
    Kn m [(Str.ofString "want", Value.str (S (dtext r)) ta), (Str.ofString "got", .str (S b) tb), (Str.ofString "startpos", .int sp' t), (Str.ofString "endpos", .int e' te)]
section
variable {prog : Program} {w : World} {A : Around} {E : Value → Shared → Prop} {s : Shared} {env : Env} {h₀ : Heap} {x : Str} {px : Pos} {body : List Stmt} {Q : Flow → Shared → Prop}
theorem em_list {D : Addr} {vs : List Value} {ws : List (List Nat)} {n : Nat} {m₀ : Str → Option Value} (r : List (Option Nat)) (b : List Nat) (ta tb : Tok) (e : Nat) (e' : Int) (R : Bool)
    (hh : A.handled = none) (hvs : StrsAre vs (ws.map S)) (F : Fr h₀ env.locals s.heap m₀) (N : News h₀ env.locals s.heap [(D, W.listOf vs.toArray n)]) (hj : emJ r b ta tb D vs n ws e e' R 0 m₀ [(D, W.listOf vs.toArray n)])
    (turn : ∀ i xx tx m₁ nx h tk I oI, ws[i]? = some xx → OwnOff [(I, oI)] (nx.map (·.1)) → emJ r b ta tb D vs n ws e e' R i m₁ nx → Fr h₀ env.locals h (fun y => if y = x then some (.str (S xx) tx) else m₁ y) → News h₀ env.locals h (nx ++ [(I, oI)]) →
      wpAny (model prog w) A (execs body env) (InvPostG h₀ env.locals (emJ r b ta tb D vs n ws e e' R (i + 1)) [(I, oI)] { s with heap := h, toks := tk } Q) E { s with heap := h, toks := tk })
    (done : ∀ m₁ nx h tk, emJ r b ta tb D vs n ws e e' R ws.length m₁ nx → Fr h₀ env.locals h m₁ → News h₀ env.locals h nx → Q .next { s with heap := h, toks := tk }) :
    wpAny (model prog w) A (pyIter (.ref D)) (fun it s₂ => LoopAtV prog w A h₀ env x body Q E it s₂) E s :=
  loop_list (emJ r b ta tb D vs n ws e e' R) hh (fun i m nx h => by obtain ⟨_, _, _, _, _, _, rfl, _⟩ := h; exact .head _) F N hj (fun i v m₁ nx h tk I oI hv off hJ F2 N2 => by
      obtain ⟨xx, tx, hx, rfl⟩ := strs_get hvs hv
      exact turn i xx tx m₁ nx h tk I oI hx off hJ F2 N2) (fun m₁ nx h tk hJ F2 N2 => by
      have e : vs.toArray.size = ws.length := by have := strs_length hvs; simp at this ⊢; exact this
      rw [e] at hJ
      exact done m₁ nx h tk hJ F2 N2)
end
section
local macro_rules | `(tactic| walk_at "call builtin:str.split") => `(tactic| (k_here; k_dflt (refine' call_split ?F ?N ?hr ?hp ?_; (case F => k_asm); (case N => k_asm); (case hr => assumption); (case hp => assumption)); intro _ _ _ _ _ _ _ _ _ _ _ _))
local macro_rules | `(tactic| walk_at "call builtin:len") => `(tactic| (k_here; with_reducible refine' len_2 ?N ?hm ?hl ?_; k_dflt ((case N => k_asm); (case hm => k_mem); (case hl => omega)); intro _ _))
local macro_rules | `(tactic| walk_at "subscriptTail Name Constant") => `(tactic| (k_here; with_reducible refine' item_first ?N ?hm ?_ ?hb; k_dflt ((case N => k_asm); (case hm => k_mem); (case hb => with_unfolding_all rfl))))
local macro_rules | `(tactic| walk_at "subscriptTail Name UnaryOp") => `(tactic| (k_here; with_reducible refine' item_last2 ?N ?hm ?_ ?hb; k_dflt ((case N => k_asm); (case hm => k_mem); (case hb => with_unfolding_all rfl))))
local macro_rules | `(tactic| walk_at "delItem ref int") => `(tactic| (k_here; k_dflt (first | ((with_reducible show wpAny _ _ (delItem _ (Value.int 0 _)) _ _ _); refine' del_first ?F ?N ?U ?hl ?_; (case F => k_asm); (case N => k_asm); (case U => k_upd); (case hl => (simp only [List.length_append, List.length_cons, List.length_nil]; omega))) | (refine' del_last ?F ?N ?U ?hl ?_; (case F => k_asm); (case N => k_asm); (case U => k_upd); (case hl => omega))); intro _ _ _; (try k_sweep)))
local macro_rules | `(tactic| walk_at "call builtin:str.find") => `(tactic| (k_here; k_dflt (refine' call_find4' ?he ?_; (case he => assumption)); intro _ _))
inductive JEnd (h₀ : Heap) (L : Addr) (J : (Str → Option Value) → Nws → Prop) (s : Shared) (Q : Flow → Shared → Prop) : Flow → Shared → Prop
  | next {s' : Shared} : WEnd h₀ L J s s' → JEnd h₀ L J s Q .next s'
  | ret {v : Value} {s' : Shared} : Q (.ret v) s' → JEnd h₀ L J s Q (.ret v) s'
theorem execs_joinR {prog : Program} {w : World} {A : Around} {E : Value → Shared → Prop} {s : Shared} {h₀ : Heap} {L : Addr} {env : Env} {Q : Flow → Shared → Prop} {st : Stmt} {rest : List Stmt} (J : (Str → Option Value) → Nws → Prop) (h1 : wpAny (model prog w) A (exec st env) (JEnd h₀ L J s Q) E s)
    (h2 : ∀ m nx h tk, J m nx → Fr h₀ L h m → News h₀ L h nx → wpAny (model prog w) A (execs rest env) Q E { s with heap := h, toks := tk }) : wpAny (model prog w) A (execs (st :: rest) env) Q E s := by
  refine wpAny_execs_cons (wpAny_mono h1 (fun f s' h => ?_) fun _ _ e => e)
  cases h with
  | next h =>
    obtain ⟨h', tk, m', nx, rfl, F, N, j⟩ := h
    exact h2 m' nx h' tk j F N
  | ret h => exact h
structure Halt8 : Prop where
local macro_rules | `(tactic| walk_at "execs cons") => `(tactic| ((with_reducible show wpAny _ _ (execs (Stmt.If (Expr.Name _ _) _ _ _ :: _) _) _ _ _); (with_reducible rename Halt8 => hh'); clear hh'; refine stop_of ?_))
/-- what the loop over ws tells -/
structure Wsd (b : List Nat) (mid ws : List (List Nat)) (vs : List Value) : Prop where
  txt : StrsAre vs (ws.map S)
  same : ∀ e s, s ≤ e → emLoop b e ws s = emLoop b e mid s
  short : ∀ x ∈ ws, x.length ≤ 5
  len : vs.length ≤ 12
noncomputable def emK1 (r : List (Option Nat)) (b : List Nat) (ta tb : Tok) (D : Addr) (mid : List (List Nat)) (v1 : Value) (w0 : List Nat) (m : Str → Option Value) (nx : Nws) : Prop :=
  ∃ zs ws n sp t t2, Wsd b mid ws zs ∧ zs.length ≤ 11 ∧ sp = ((w0.length : Nat) : Int) ∧ w0 <+: b ∧ nx = [(D, W.listOf (zs ++ [v1]).toArray n)] ∧
    Kn m [(Str.ofString "want", Value.str (S (dtext r)) ta), (Str.ofString "got", .str (S b) tb), (Str.ofString "ws", .ref D), (Str.ofString "startpos", .int sp t), (Str.ofString "endpos", .int ((S b).length : Nat) t2)]
noncomputable def emK2 (r : List (Option Nat)) (b : List Nat) (ta tb : Tok) (D : Addr) (mid : List (List Nat)) (sp : Int) (wl : List Nat) (m : Str → Option Value) (nx : Nws) : Prop :=
  ∃ zs ws n e t t2, Wsd b mid ws zs ∧ e = (b.length : Int) - (wl.length : Int) ∧ wl <:+ b ∧ nx = [(D, W.listOf zs.toArray n)] ∧
    Kn m [(Str.ofString "want", Value.str (S (dtext r)) ta), (Str.ofString "got", .str (S b) tb), (Str.ofString "ws", .ref D), (Str.ofString "startpos", .int sp t), (Str.ofString "endpos", .int e t2)]
theorem em_join1 {prog : Program} {w : World} {A : Around} {E : Value → Shared → Prop} {s : Shared} {h₀ : Heap} {L D : Addr} {env : Env} {Q : Flow → Shared → Prop} {st : Stmt} {rest : List Stmt} {h1 : Heap} {p : Addr × Obj} {v0 v1 : Value} {ms : List Value} {n : Nat} (r : List (Option Nat)) (b : List Nat) (ta tb : Tok) (mid : List (List Nat)) (w0 : List Nat)
    (_N : News h₀ L h1 [p, (D, W.listOf (v0 :: (ms ++ [v1])).toArray n)]) (h1 : wpAny (model prog w) A (exec st env) (JEnd h₀ L (emK1 r b ta tb D mid v1 w0) s Q) E s)
    (h2 : ∀ m nx h tk, emK1 r b ta tb D mid v1 w0 m nx → Fr h₀ L h m → News h₀ L h nx → wpAny (model prog w) A (execs rest env) Q E { s with heap := h, toks := tk }) : wpAny (model prog w) A (execs (st :: rest) env) Q E s := execs_joinR _ h1 h2
theorem em_join2 {prog : Program} {w : World} {A : Around} {E : Value → Shared → Prop} {s : Shared} {h₀ : Heap} {L D : Addr} {env : Env} {Q : Flow → Shared → Prop} {st : Stmt} {rest : List Stmt} {h1 : Heap} {o : Obj} (r : List (Option Nat)) (b : List Nat) (ta tb : Tok) (mid : List (List Nat)) (sp : Int) (wl : List Nat)
    (_N : News h₀ L h1 [(D, o)]) (h1 : wpAny (model prog w) A (exec st env) (JEnd h₀ L (emK2 r b ta tb D mid sp wl) s Q) E s)
    (h2 : ∀ m nx h tk, emK2 r b ta tb D mid sp wl m nx → Fr h₀ L h m → News h₀ L h nx → wpAny (model prog w) A (execs rest env) Q E { s with heap := h, toks := tk }) : wpAny (model prog w) A (execs (st :: rest) env) Q E s := execs_joinR _ h1 h2
theorem Wsd.first {b : List Nat} {mid : List (List Nat)} {ms : List Value} {t : Tok} (h : StrsAre ms (mid.map S)) (hl : ms.length ≤ 10) (lm : ∀ x ∈ mid, x.length ≤ 5) : Wsd b mid mid ms ∧ Wsd b mid ([] :: mid) (Value.str (S []) t :: ms) :=
  ⟨⟨h, fun _ _ _ => rfl, lm, Nat.le_trans hl (by decide)⟩, ⟨.cons _ _ h, fun _ _ hs => emLoop_first hs, fun x hx => (List.mem_cons.mp hx).elim (fun e => by rw [e]; exact Nat.zero_le _) (lm x), Nat.succ_le_succ (Nat.le_trans hl (by decide))⟩⟩
theorem Wsd.last {b : List Nat} {mid ws : List (List Nat)} {zs : List Value} {t : Tok} (h : Wsd b mid ws zs) (hl : zs.length ≤ 11) : Wsd b mid (ws ++ [[]]) (zs ++ [Value.str (S []) t]) :=
  ⟨strs_snoc h.txt, fun e s hs => by rw [emLoop_last hs, h.same e s hs], fun x hx => (List.mem_append.mp hx).elim (h.short x) (fun hx => by rw [List.mem_singleton.mp hx]; exact Nat.zero_le _), by rw [List.length_append]; exact Nat.succ_le_succ hl⟩
theorem ellipsis_tel (w : World) (r : List (Option Nat)) (b : List Nat) (ta tb : Tok) (hr : Glob r) (hb : Word b) :
    Tel w 57 1 [.str (S (dtext r)) ta, .str (S b) tb] (fun _ => True) (fun v tl => tl = [] ∧ v = .bool (emRes r b)) := by
  w_top off
  refine' tel_plain [(Str.ofString "want", .str (S (dtext r)) ta), (Str.ofString "got", .str (S b) tb)] ?ho ?hcd ?hb ?hl ?hc ?h1 ?h2 ?h3 ?h
  walk_at "MyPlain"
  intro mean mg mb dp un gd outer A₀ base g L s B F X N T hpre hd0 hu
  have lb : b.length ≤ 5 := hb.2
  have lb2 : (S b).length ≤ 5 := by rw [S_len]; exact hb.2
  have hcon : (Builtin.Str.occurrences (S (dtext r)) (Str.ofString "...") 0 (S (dtext r)).length 1).isEmpty = !decide (none ∈ r) := by
    rw [dots3_S, occ_S]
    congr 1
    exact decide_eq_decide.mpr (none_iff hr)
  rcases parts_cases r with ⟨hn, hp⟩ | ⟨hn, w0, mid, wl, hp⟩
  · have hcon2 : (Builtin.Str.occurrences (S (dtext r)) (Str.ofString "...") 0 (S (dtext r)).length 1).isEmpty = true := by rw [hcon]; simpa using hn
    rw [emRes_one hp]
    k_steps
    (try dsimp only)
    exact FinC.nil (by assumption) ⟨rfl, by rw [S_beq]; rfl⟩
  · have l0 : (S w0).length ≤ 5 := by rw [S_len]; exact Nat.le_trans (part_len w0 (by rw [hp]; simp)) hr.len
    have l1 : (S wl).length ≤ 5 := by rw [S_len]; exact Nat.le_trans (part_len wl (by rw [hp]; simp)) hr.len
    have lm : ∀ x ∈ mid, x.length ≤ 5 := fun x hx => Nat.le_trans (part_len x (by rw [hp]; simp [hx])) hr.len
    have hcon2 : (Builtin.Str.occurrences (S (dtext r)) (Str.ofString "...") 0 (S (dtext r)).length 1).isEmpty = false := by rw [hcon]; simpa using hn
    rw [emRes_more hp]
    have hsw : Txt.startswith (S b) (S w0) = true → w0 <+: b := fun h => by rw [starts_S] at h; simpa using h
    have hew : Txt.endswith (S b) (S wl) = true → wl <:+ b := fun h => by rw [ends_S] at h; simpa using h
    have hsw' : Txt.startswith (S b) (S w0) = false → ¬ w0 <+: b := fun h => by rw [starts_S] at h; simpa using h
    have hew' : Txt.endswith (S b) (S wl) = false → ¬ wl <:+ b := fun h => by rw [ends_S] at h; simpa using h
    have hw0 : ((S w0).length : Int) = 0 → w0 = [] := fun h => List.eq_nil_of_length_eq_zero (by rw [S_len] at h; omega)
    have hwl : ((S wl).length : Int) = 0 → wl = [] := fun h => List.eq_nil_of_length_eq_zero (by rw [S_len] at h; omega)
    have l0' : w0.length ≤ 5 := by rw [S_len] at l0; exact l0
    have l1' : wl.length ≤ 5 := by rw [S_len] at l1; exact l1
    have hh8 : Halt8 := ⟨⟩
    k_steps
    rename Fr _ _ _ _ => F1
    rename News _ _ _ _ => N1
    rename StrsAre _ _ => hms
    rename List.length _ ≤ 10 => hml
    unfold Stop
    (try dsimp only)
    refine em_join1 r b ta tb mid w0 N1 ?j1 ?k1
    · k_steps
      · refine .next (WEnd.intro (by assumption) (news_tl (by assumption)) ⟨_, mid, _, _, _, _, (Wsd.first (t := 0) hms hml lm).1, Nat.le_succ_of_le hml, ?_, hsw (by assumption), rfl, rfl, rfl, rfl, rfl, rfl, trivial⟩)
        rw [S_len]
      · (try dsimp only)
        refine .ret (FinC.nil (by assumption) ⟨rfl, congrArg Value.bool ?_⟩)
        unfold emB
        rw [decide_eq_false (hsw' (by assumption))]; simp
      · have hw0 := hw0 (by assumption)
        subst hw0
        exact .next (WEnd.intro (by assumption) (news_tl (by assumption)) ⟨_, _, _, _, _, _, (Wsd.first hms hml lm).2, Nat.succ_le_succ hml, rfl, List.nil_prefix, rfl, rfl, rfl, rfl, rfl, rfl, trivial⟩)
    · clear F1 N1 hms hml
      intro m₁ nx h tk hJ F2 N2
      obtain ⟨zs, ws, n, sp, t, t2, hW, hzl, hsp, hpre, rfl, hk⟩ := hJ
      rw [frm_self hk] at F2
      clear hk hsw hsw' hw0 l0 l0' hcon hcon2 lm
      have hh8 : Halt8 := ⟨⟩
      (try dsimp only)
      k_steps
      rename Fr _ _ _ _ => F1
      rename News _ _ _ _ => N1
      unfold Stop
      (try dsimp only)
      refine em_join2 r b ta tb mid sp wl N1 ?j2 ?k2
      · k_steps
        · refine .next (WEnd.intro (by assumption) (by assumption) ⟨_, _, _, _, _, _, hW, ?_, hew (by assumption), rfl, rfl, rfl, rfl, rfl, rfl, trivial⟩)
          rw [S_len, S_len]
        · (try dsimp only)
          refine .ret (FinC.nil (by assumption) ⟨rfl, congrArg Value.bool ?_⟩)
          unfold emB
          rw [decide_eq_false (hew' (by assumption))]; simp
        · have hwl := hwl (by assumption)
          subst hwl
          refine .next (WEnd.intro (by assumption) (by assumption) ⟨_, _, _, _, _, _, hW.last hzl, ?_, List.nil_suffix, rfl, rfl, rfl, rfl, rfl, rfl, trivial⟩)
          rw [S_len]; exact (Int.sub_zero _).symm
      · clear F1 N1 hW hzl hew hew' hwl l1
        intro m₂ nx2 h2 tk2 hJ F2 N2
        obtain ⟨zs2, ws2, n2, e', t3, t4, hW, he, hsuf, rfl, hk⟩ := hJ
        rw [frm_self hk] at F2
        clear hk
        (try dsimp only)
        k_steps
        all_goals (try dsimp only)
        · refine FinC.nil (by assumption) ⟨rfl, congrArg Value.bool ?_⟩
          rename _ < _ => hlt
          rw [he, hsp] at hlt
          unfold emB
          rw [decide_eq_false (p := w0.length + wl.length ≤ b.length) (by omega)]; simp
        · rename Fr _ _ _ _ => F1
          rename News _ _ _ _ => N1
          unfold Stop
          have hsum : w0.length + wl.length ≤ b.length := by
            rename ¬ _ < _ => hlt
            rw [he, hsp] at hlt; omega
          have hE : e' = ((b.length - wl.length : Nat) : Int) := by rw [he, Int.ofNat_sub (Nat.le_trans (Nat.le_add_left _ _) hsum)]
          have hE2 : b.length - wl.length ≤ b.length := Nat.sub_le _ _
          refine em_list (ws := ws2) r b ta tb (b.length - wl.length) e' (emB b w0 mid wl) rfl hW.txt F1 N1 ?j10 ?turn1 ?done1
          · exact ⟨w0.length, _, _, _, hsp, by unfold emB; rw [decide_eq_true hpre, decide_eq_true hsuf, decide_eq_true hsum, List.drop_zero, hW.same _ _ (Nat.le_sub_of_add_le hsum)]; rfl, rfl, rfl, rfl, rfl, rfl, trivial⟩
          · intro i x tx m₁ nx h tk I oI hx off hJ F2 N2
            obtain ⟨sp, sp', t, te, hsp, hR, rfl, hk⟩ := hJ
            rw [frm_self hk] at F2
            clear hk F1 N1
            change Fr g L h _ at F2
            change News g L h _ at N2
            simp only [List.cons_append, List.nil_append] at N2
            simp only [List.map_cons, List.map_nil] at off
            rw [emLoop_at hx] at hR
            have hf := find4_S b x sp (b.length - wl.length) hE2
            have lx : (S x).length ≤ 5 := by rw [S_len]; exact hW.short x (List.mem_of_getElem? hx)
            rw [← hsp, ← hE] at hf
            cases hfi : findN b x sp (b.length - wl.length) with
            | none =>
              rw [hfi] at hR hf
              (try dsimp only at hf)
              k_steps
              (try dsimp only)
              exact FinC.nil (by assumption) ⟨rfl, by rw [← hR]; rfl⟩
            | some i' =>
              rw [hfi] at hR hf
              (try dsimp only at hf)
              have hi0 : ¬ ((i' : Int) < 0) := Int.not_lt.mpr (Int.natCast_nonneg i')
              k_steps
              refine InvEndG.intro (by assumption) (by assumption) ⟨i' + x.length, _, _, _, ?_, hR, rfl, rfl, rfl, rfl, rfl, trivial⟩ off (fun p hp => List.mem_cons.mpr (.inl (List.mem_singleton.mp hp))) (fun p hp => List.mem_cons.mpr (.inr hp))
              rw [S_len]; rfl
          · intro m₁ nx h tk hJ F2 N2
            obtain ⟨sp, sp', t, te, hsp, hR, rfl, hk⟩ := hJ
            rw [frm_self hk] at F2
            clear hk F1 N1
            change Fr g L h _ at F2
            change News g L h _ at N2
            rw [List.drop_length] at hR
            (try dsimp only)
            k_steps
            (try dsimp only)
            exact FinC.nil (by assumption) ⟨rfl, by rw [← hR]; rfl⟩
end
end
section -- W9
open PySem PySem.W PyProof.Rows PySem.Calls LCg LCt
set_option maxRecDepth 100000
set_option maxHeartbeats 4000000
section
variable {prog : Program} {w : World} {A : Around} {E : Value → Shared → Prop} {s : Shared}
theorem call_join_e {D : Addr} {ys : List Value} {l : List Nat} {x : Str} {t : Tok} {Q : Value → Shared → Prop} {h₀ : Heap} {L : Addr} {news : Nws} (hx : x = S []) (N : News h₀ L s.heap ((D, lst ys) :: news)) (hj : ∃ ws : List (List Nat), StrsAre ys (ws.map S) ∧ ws.flatten = l ∧ ws.flatten.length + ws.length ≤ 1000)
    (h : ∀ t' k, News h₀ L s.heap news → Q (.str (S l) t') { s with toks := k }) : wpAny (model prog w) A (call (.builtin "str.join") [.str x t, .ref D]) Q E s := by
  subst hx
  obtain ⟨ws, hi, rfl, hw⟩ := hj
  exact call_join ⟨_, (N _ (.head _)).1, rfl, _, rfl⟩ hi hw (fun t' k => h t' k fun p hp => N p (.tail _ hp))
end
section
local macro_rules | `(tactic| walk_at "exec For Name Call cons nil") => `(tactic| walk_at "MyForT")
noncomputable def bitAt (x k : Nat) : Nat := x / 2 ^ k % 2
noncomputable def ditems (a : List Nat) (x : Nat) : List (Option Nat) := (List.range a.length).map fun k => if bitAt x k = 1 then none else some (a.getD k 0)
noncomputable def dcnt (a : List Nat) (x : Nat) : Nat := ((List.range a.length).map (bitAt x)).sum
noncomputable def dfold (a b : List Nat) : Nat → Nat
  | 0 => a.length + 1
  | i + 1 => if dcnt a i < dfold a b i ∧ emRes (ditems a i) b = true then dcnt a i else dfold a b i
noncomputable def dotsJ (a b : List Nat) (ta tb : Tok) (L : Addr) (i : Nat) (m : Str → Option Value) (nx : Nws) : Prop :=
  ∃ (oG oC oO : Obj) (vG vC : Option Value) (f : Int) (t : Tok), f = (dfold a b i : Nat) ∧ oG.data = .cell vG ∧ oC.data = .cell vC ∧ oO.data = .cell (some (.str (S a) ta)) ∧
    nx = [(L + 1 + 1 + 1, oG), (L + 1 + 1, oC), (L + 1, oO)] ∧ Kn m [(Str.ofString "inner", .str (S b) tb), (Str.ofString "fewest", .int f t)]
theorem bit_int (i k : Nat) : Int.fmod (Int.fdiv (0 + (i : Int)) (2 ^ (0 + (k : Int)).toNat)) 2 = (bitAt i k : Nat) := by
  unfold bitAt
  rw [Int.zero_add, Int.zero_add, Int.toNat_natCast, show ((2 : Int) ^ k) = ((2 ^ k : Nat) : Int) by simp]
  rw [Int.fmod_eq_emod_of_nonneg _ (by decide), Int.fdiv_eq_ediv_of_nonneg _ (Int.natCast_nonneg _), show (2 : Int) = ((2 : Nat) : Int) from rfl, ← Int.natCast_ediv, ← Int.natCast_emod]
local macro_rules | `(tactic| walk_at "call builtin:str.join") => `(tactic| (k_here; refine' call_join_e ?hx ?N ?hj ?_; (case hx => exact empty_S); (case N => k_dflt assumption); (case hj => assumption); intro _ _ _))
local macro_rules | `(tactic| walk_at "call ref") => `(tactic| (k_here; with_reducible refine' Tel.use (ellipsis_tel _ _ _ _ _ ?a1 ?a2) ?k1 ?k2 ?k3 ?k4 ?k5 ?k6 trivial ?k7 ?k8 ?_; k_dflt (walk_at "MyK"; walk_at "MyA"); walk_at "MyX"))
noncomputable def dpiece (a : List Nat) (x k : Nat) : List Nat := if bitAt x k = 1 then [46, 46, 46] else [a.getD k 0]
theorem bit_cases (x k : Nat) : bitAt x k = 0 ∨ bitAt x k = 1 := by unfold bitAt; omega
theorem zt (k : Nat) : (0 + (k : Int)).toNat = k := az2 k
noncomputable def IsS (l : List Nat) (y : Value) : Prop := ∃ t, y = Value.str (S l) t
theorem dpiece_one {a : List Nat} {x k : Nat} (h : ((bitAt x k : Nat) : Int) ≠ 0) : dpiece a x k = [46, 46, 46] := by
  unfold dpiece
  rw [if_pos]
  rcases bit_cases x k with e | e
  · rw [e] at h; exact absurd rfl h
  · exact e
theorem dpiece_zero {a : List Nat} {x k : Nat} (h : ((bitAt x k : Nat) : Int) = 0) : dpiece a x k = [a.getD k 0] := by
  unfold dpiece
  rw [if_neg (by omega)]
theorem ditems_glob {a : List Nat} (ha : Word a) (x : Nat) : Glob (ditems a x) := by
  refine ⟨fun c hc => ?_, by unfold ditems; simpa using ha.2⟩
  unfold ditems at hc
  obtain ⟨k, hk, e⟩ := List.mem_map.mp hc
  have hk := List.mem_range.mp hk
  split at e
  · cases e
  · have := Option.some.inj e
    rw [← this]
    exact ha.1 _ (by rw [List.getD_eq_getElem?_getD, List.getElem?_eq_getElem hk]; exact List.getElem_mem hk)
theorem dtext_append (r q : List (Option Nat)) : dtext (r ++ q) = dtext r ++ dtext q := by
  induction r with
  | nil => rfl
  | cons o r ih => cases o <;> simp [dtext, ih]
theorem dpieces_text (a : List Nat) (x : Nat) : ((List.range a.length).map (dpiece a x)).flatten = dtext (ditems a x) := by
  unfold ditems
  generalize a.length = n
  induction n with
  | zero => rfl
  | succ n ih =>
    rw [List.range_succ, List.map_append, List.map_append, List.flatten_append, ih, dtext_append]
    congr 1
    show dpiece a x n ++ [] = _
    unfold dpiece
    show _ = dtext [if bitAt x n = 1 then none else some (a.getD n 0)]
    split <;> rfl
theorem dsum_int (a : List Nat) (i : Nat) : (List.map (fun k => ((bitAt i k : Nat) : Int)) (List.range a.length)).sum = (dcnt a i : Nat) := by
  unfold dcnt
  generalize List.range a.length = l
  induction l with
  | nil => rfl
  | cons k l ih => simp only [List.map_cons, List.sum_cons, ih]; omega
theorem sub3 {a b c : Addr × Obj} {own : Nws} : ∀ p ∈ [a, b, c], p ∈ a :: b :: c :: own := fun p hp => by
  simp only [List.mem_cons, List.not_mem_nil, or_false] at hp ⊢
  rcases hp with h | h | h <;> simp [h]
theorem sub3r {a b c : Addr × Obj} {own : Nws} : ∀ p ∈ own, p ∈ a :: b :: c :: own := fun p hp => by simp [hp]
theorem dots_join {a : List Nat} (ha : Word a) {i : Nat} {ys : List Value} (hl : ys.length = a.length) (hr : ∀ (j : Nat) (y : Value), ys[j]? = some y → IsS (dpiece a i j) y) :
    ∃ ws : List (List Nat), StrsAre ys (ws.map S) ∧ ws.flatten = dtext (ditems a i) ∧ ws.flatten.length + ws.length ≤ 1000 := by
  refine ⟨(List.range a.length).map (dpiece a i), strs_of (by simpa using hl) (fun j y hy => ?_), dpieces_text a i, ?_⟩
  · obtain ⟨t, rfl⟩ := hr j y hy
    have hj : j < a.length := by rw [← hl]; exact (List.getElem?_eq_some_iff.mp hy).1
    exact ⟨_, t, by simp [hj], rfl⟩
  · have := dtext_len (ditems a i)
    have := (ditems_glob ha i).len
    have := ha.2
    rw [dpieces_text]; simp; omega
theorem dots_tel (w : World) (a b : List Nat) (ta tb : Tok) (ha : Word a) (hb : Word b) :
    Tel w 91 2 [.str (S a) ta, .str (S b) tb] (fun _ => True) (fun v tl => tl = [] ∧ ∃ t, v = .int (dfold a b (2 ^ a.length) : Nat) t) := by
  w_top off
  refine' tel_cells [(Str.ofString "outer", .str (S a) ta), (Str.ofString "inner", .str (S b) tb)] ?ho ?hcd ?hb ?hkk ?hnd ?h1 ?h2 ?h3 ?h
  walk_at "MyCells"
  intro mean mg mb dp un gd outer A₀ base g L s cells B F X N Y T hpre hd0 hu
  k_cells Y
  try simp only [List.cons_append, List.nil_append] at N
  try dsimp only
  have la : a.length ≤ 5 := ha.2
  have la2 : (S a).length ≤ 5 := by rw [S_len]; exact la
  have hSl : (S a).length = a.length := S_len a
  have hpow : 2 ^ a.length ≤ 32 := by
    have := Nat.pow_le_pow_right (n := 2) (by omega) la
    exact this
  k_steps
  rename Fr _ _ _ _ => F1
  rename News _ _ _ _ => N1
  unfold Stop
  rename IsRange _ _ _ _ _ _ _ _ => hR
  have e0 : ((2 : Int) ^ ((S a).length : Int).toNat) = ((2 ^ a.length : Nat) : Int) := by rw [Int.toNat_natCast, S_len]; simp
  rw [e0] at hR
  generalize 2 ^ a.length = M at hR hpow ⊢
  refine loopT_range (n := M) (dotsJ a b ta tb L) rfl hR ?sm ?rs F1 N1 ?j0 ?turn ?done
  · exact small_one (by omega) (by omega) (by omega) (by omega)
  · rw [rangeSize_nat]; simp
  · exact ⟨_, _, _, _, _, _, _, by rw [S_len]; rfl, by assumption, by assumption, by assumption, rfl, rfl, rfl, trivial⟩
  · intro i u m₁ nx s₁ own hi off hJ F2 N2
    obtain ⟨oG, oC, oO, vG, vC, f, t, hf, hG, hC, hO, rfl, hk⟩ := hJ
    rw [frm_self hk] at F2
    clear hk F1 N1
    change Fr g L s₁.heap _ at F2
    change News g L s₁.heap _ at N2
    simp only [List.cons_append, List.nil_append] at N2
    simp only [List.map_cons, List.map_nil] at off
    k_steps
    unfold Stop
    refine comp_R a.length (by omega) (fun k y => ∃ t, y = Value.int (bitAt i k : Nat) t) (by assumption) rfl (by decide) rfl (by decide) rfl rfl ?_
    k_steps
    · exact congrArg (Value.int · _) (bit_int _ _)
    · unfold Stop
      rename _ = List.length a => hl
      rename ∀ (j : Nat) (y : Value), _ → _ => hr
      have hIx : IntsAre _ ((List.range a.length).map fun k => ((bitAt i k : Nat) : Int)) := ints_of (by simpa using hl) (fun j y hy => by
        obtain ⟨t, rfl⟩ := hr j y hy
        have hj : j < a.length := by rw [← hl]; exact (List.getElem?_eq_some_iff.mp hy).1
        exact ⟨_, t, by simp [hj], rfl⟩)
      rename Off1 _ _ => o1
      simp only [Off1] at o1
      (try dsimp only)
      (try k_fold)
      k_steps
      unfold Stop
      have hbit : ∀ k : Nat, k < a.length → (List.map (fun k => ((bitAt i k : Nat) : Int)) (List.range a.length)).getD (0 + (k : Int)).toNat 0 = (bitAt i k : Nat) := fun k hk => by
        rw [show (0 + (k : Int)).toNat = k from az2 k, List.getD_eq_getElem?_getD]
        simp [hk]
      refine comp_R a.length (by omega) (fun k y => IsS (dpiece a i k) y) (by assumption) rfl (by decide) rfl (by decide) rfl rfl ?_
      k_steps
      · rename _ < a.length => hk
        rename _ ≠ (0 : Int) => hne
        rw [hbit _ hk] at hne
        rw [dpiece_one hne, dots3_S]
        exact ⟨_, rfl⟩
      · rename _ < a.length => hk
        rename _ = (0 : Int) => hne
        rw [hbit _ hk] at hne
        rw [dpiece_zero hne, zt]
        exact ⟨_, rfl⟩
      · unfold Stop
        rename _ = List.length a => hl2
        rename ∀ (j : Nat) (y : Value), _ → _ => hr2
        have hj := dots_join ha hl2 hr2
        have hgl := ditems_glob ha i
        rename Off1 _ _ => o2
        simp only [Off1] at o2
        (try dsimp only)
        (try k_fold)
        k_steps
        · rename _ < f => hlt
          rename emRes _ _ = true => hem
          rw [dsum_int] at hlt
          have hd : dfold a b (i + 1) = dcnt a i := by show (if _ then _ else _) = _; rw [if_pos ⟨by omega, hem⟩]
          exact ⟨rfl, InvEndG.intro (by assumption) (by assumption) ⟨_, _, oO, _, _, (List.map (fun k => ((bitAt i k : Nat) : Int)) (List.range a.length)).sum, _, by rw [hd, dsum_int], by assumption, by assumption, hO, rfl, rfl, rfl, trivial⟩ off (subT sub3) (subT sub3r)⟩
        · rename emRes _ _ = false => hem
          have hd : dfold a b (i + 1) = dfold a b i := by show (if _ then _ else _) = _; rw [if_neg (fun q => by rw [hem] at q; exact absurd q.2 (by decide))]
          exact ⟨rfl, InvEndG.intro (by assumption) (by assumption) ⟨_, _, oO, _, _, f, _, by rw [hd]; exact hf, by assumption, by assumption, hO, rfl, rfl, rfl, trivial⟩ off (subT sub3) (subT sub3r)⟩
        · rename ¬ _ < f => hlt
          rw [dsum_int] at hlt
          have hd : dfold a b (i + 1) = dfold a b i := by show (if _ then _ else _) = _; rw [if_neg (fun q => hlt (by have := q.1; omega))]
          exact ⟨rfl, InvEndG.intro (by assumption) (by assumption) ⟨_, _, oO, _, _, f, _, by rw [hd]; exact hf, by assumption, by assumption, hO, rfl, rfl, rfl, trivial⟩ off (subT sub3) (subT sub3r)⟩
  · intro m₁ nx h tk hJ F2 N2
    obtain ⟨oG, oC, oO, vG, vC, f, t, hf, hG, hC, hO, rfl, hk⟩ := hJ
    rw [frm_self hk] at F2
    clear hk F1 N1
    change Fr g L h _ at F2
    change News g L h _ at N2
    (try dsimp only)
    k_steps
    rw [hf]
    exact FinC.nil (by assumption) ⟨rfl, _, rfl⟩
end
end
local macro_rules | `(tactic| walk_at "call builtin:str.join") => `(tactic| (k_here; refine' call_join_e ?hx ?N ?hj ?_; (case hx => exact empty_S); (case N => k_dflt assumption); (case hj => assumption); intro _ _ _))
section -- W10
open PySem PySem.W PyProof.Rows PySem.Calls LCg LCt
set_option maxRecDepth 100000
set_option maxHeartbeats 4000000
section
theorem z0 (i : Nat) : (0 : Int) ≤ 0 + (i : Int) := by rw [Int.zero_add]; exact Int.natCast_nonneg i
theorem z1 {i n : Nat} (h : i < n) : 0 + (i : Int) < (n : Int) := by rw [Int.zero_add]; exact Int.ofNat_lt.mpr h
theorem z2 (i : Nat) : (0 + (i : Int)).toNat = i := by rw [Int.zero_add, Int.toNat_natCast]
theorem pos_of {n q : Nat} (h : ((n - q : Nat) : Int) ≠ 0) : q < n := Nat.lt_of_sub_pos (Nat.pos_of_ne_zero fun e => h (by rw [e]; rfl))
theorem take_pos {a : List Nat} {q : Nat} (h : ((S (a.take (a.length - q))).length : Int) ≠ 0) : q < a.length := by
  rw [S_len, List.length_take_of_le (Nat.sub_le _ _)] at h; exact pos_of h
theorem drop_pos {a : List Nat} {p : Nat} (h : ((S (a.drop p)).length : Int) ≠ 0) : p < a.length := by
  rw [S_len, List.length_drop] at h; exact pos_of h
theorem drop_posI {a : List Nat} {p : Nat} (h : ((S (a.drop p)).length : Int) ≠ 0) : (p : Int) < (a.length : Int) := Int.ofNat_lt.mpr (drop_pos h)
theorem drop_le5 {A : List Nat} {n : Nat} (h : Word A) : (S (A.drop n)).length ≤ 5 := by
  rw [S_len, List.length_drop]; exact Nat.le_trans (Nat.sub_le _ _) h.2
theorem take_le5 {A : List Nat} {n : Nat} (h : Word A) : (S (A.take n)).length ≤ 5 := by
  rw [S_len, List.length_take]; exact Nat.le_trans (Nat.min_le_right _ _) h.2
theorem neg_lt {k : Int} {q n : Nat} (e : k = -(q : Int)) (_h : q < n) : k - 1 < 0 := by omega
theorem neg_ge {k : Int} {q n : Nat} (e : k = -(q : Int)) (h : q < n) : -(n : Int) ≤ k - 1 := by omega
structure SlV (l : List Nat) (v : Value) : Prop where
  ex : ∃ t, v = Value.str (S l) t
theorem slv_all {A : List Nat} {q : Nat} {t : Tok} (h : q = 0) : SlV (A.take (A.length - q)) (Value.str (S A) t) := ⟨t, by rw [h]; simp⟩
theorem neg_idx {k : Int} {q n : Nat} (e : k = -(q : Int)) (h : q < n) : n - (q + 1) = (k - 1 + (n : Int)).toNat := by
  have : k - 1 + (n : Int) = ((n - (q + 1) : Nat) : Int) := by rw [Int.ofNat_sub h, e, Int.natCast_succ]; omega
  rw [this, Int.toNat_natCast]
theorem neg_next {k : Int} {q : Nat} (e : k = -(q : Int)) : k - 1 = -((q + 1 : Nat) : Int) := by omega
theorem sub_step {q n : Nat} (h : q < n) : n - (q + 1) + 1 = n - q := by rw [Nat.sub_add_eq]; exact Nat.sub_add_cancel (Nat.sub_pos_of_lt h)
theorem sub_next {q n : Nat} (h : q < n) : n - (q + 1) < n - q := by rw [← sub_step h]; exact Nat.lt_succ_self _
local macro_rules | `(tactic| walk_at "exec While") => `(tactic| (k_here; refine While_stop ?_))
local macro_rules | `(tactic| walk_at "subscriptTail Name Slice str ref") => `(tactic| ((with_reducible show wpAny _ _ (subscriptTail _ (Expr.Slice (some _) none none _) _ _) _ _ _); (with_reducible rename Fr _ _ _ _ => F'); (with_reducible rename News _ _ _ _ => N'); (refine tail_from (s := ⟨_, _, _, _, _⟩) F' N' ?hi ?hl ?_); (case hi => first | assumption | omega); (case hl => first | assumption | omega); intro _ _ _ _ _))
theorem tail_negv {prog : Program} {w : World} {A : Around} {E : Value → Shared → Prop} {s : Shared} {value slice : PySem.Expr} {l : List Nat} {t : Tok} {Q : Value → Shared → Prop} {h₀ : Heap} {L : Addr} {m : Str → Option Value} {news : Nws} {i : Nat} {k : Int} {ui : Tok} (e : k = -(i : Int)) (hF : Fr h₀ L s.heap m) (hN : News h₀ L s.heap news) (h0 : 0 < i) (hi : i ≤ l.length) (hl : l.length ≤ 1000) (h : ∀ h' t' k, Fr h₀ L h' m → News h₀ L h' news → Q (.str (S (l.take (l.length - i))) t') { s with heap := h', toks := k })
    (hs : subscripted slice false (.str (S l) t) (.ref s.heap.objs.size) = operate [.ref s.heap.objs.size, .str (S l) t] (getItem (.str (S l) t) (.ref s.heap.objs.size)) := by with_unfolding_all rfl)
    (ht : ∀ r, letTemporaryGo value (.str (S l) t) r = pure () := by intro _; with_unfolding_all rfl) :
    wpAny (model prog w) A (subscriptTail value slice (.str (S l) t) (.ref s.heap.objs.size)) Q E { s with heap := s.heap.push { cls := .type "slice", data := .fields #[.none, .int k ui, .none] } } := by
  subst e; exact tail_toneg hF hN h0 hi hl h hs ht
structure IsZ : Prop where
structure IsP {k : Int} {i : Nat} : Prop where
  eq : k = -(i : Int)
local macro_rules | `(tactic| walk_at "subscriptTail Name Slice str ref") => `(tactic| ((with_reducible show wpAny _ _ (subscriptTail _ (Expr.Slice none (some _) none _) _ _) _ _ _); (with_reducible rename IsP => hzz); (with_reducible rename Fr _ _ _ _ => F'); (with_reducible rename News _ _ _ _ => N'); (have hp' := hzz.eq); k_dflt (refine tail_negv (s := ⟨_, _, _, _, _⟩) hp' F' N' ?h0 ?hi ?hl ?_); (case h0 => omega); (case hi => omega); (case hl => omega); intro _ _ _ _ _))
local macro_rules | `(tactic| walk_at "subscriptTail Name Slice str ref") => `(tactic| ((with_reducible show wpAny _ _ (subscriptTail _ (Expr.Slice none (some _) none _) _ _) _ _ _); (with_reducible rename IsZ => hzz); (with_reducible rename Fr _ _ _ _ => F'); (with_reducible rename News _ _ _ _ => N'); (refine tail_all (s := ⟨_, _, _, _, _⟩) F' N' ?hl ?_); (case hl => omega); intro _ _ _ _ _))

local macro_rules | `(tactic| walk_at "subscriptTail Name Name str int") => `(tactic| (k_here; with_reducible refine' itemS ?h0 ?h1 ?hl ?_ ?hs ?ht; k_dflt ((case h0 => with_reducible first | exact Int.natCast_nonneg _ | exact z0 _); (case h1 => first | exact drop_posI (by assumption) | exact z1 (by assumption)); (case hl => first | assumption | omega); (case hs => with_unfolding_all rfl); (case ht => (intro _; with_unfolding_all rfl))); intro _))
theorem itemSneg' {prog : Program} {w : World} {A : Around} {E : Value → Shared → Prop} {s : Shared} {value slice : PySem.Expr} {l : List Nat} {t u : Tok} {k : Int} {Q : Value → Shared → Prop} (h0 : k < 0) (h1 : -(l.length : Int) ≤ k) (hl : l.length ≤ 1000) (h : ∀ t' (c : Nat), l.getD (k + l.length).toNat 0 = c → Q (.str (S [c]) t') { s with toks := s.toks + 1 })
    (hs : subscripted slice false (.str (S l) t) (.int k u) = operate [.str (S l) t, .int k u] (getItem (.str (S l) t) (.int k u)))
    (ht : ∀ r, letTemporaryGo value (.str (S l) t) r = pure ()) : wpAny (model prog w) A (subscriptTail value slice (.str (S l) t) (.int k u)) Q E s := itemSneg h0 h1 hl (fun t' => h t' _ rfl) hs ht
local macro_rules | `(tactic| walk_at "subscriptTail Name BinOp str int") => `(tactic| (k_here; with_reducible refine' itemSneg' ?h0 ?h1 ?hl ?_ ?hs ?ht; k_dflt ((case h0 => exact neg_lt (Hid.out (by assumption)) (by first | exact Hid.out (by assumption) | exact take_pos (by assumption))); (case h1 => exact neg_ge (Hid.out (by assumption)) (by first | exact Hid.out (by assumption) | exact take_pos (by assumption))); (case hl => first | assumption | omega); (case hs => with_unfolding_all rfl); (case ht => (intro _; with_unfolding_all rfl))); intro _ _ _))
local macro_rules | `(tactic| walk_at "eval Constant none") => `(tactic| ((with_reducible rename IsP => hzz); exfalso; omega))
noncomputable def levJ1 (a b : List Nat) (ta tb tc : Tok) (mc : Int) (n : Nat) (m : Str → Option Value) (nx : Nws) : Prop :=
  ∃ (p : Nat) (pre : Int) (t : Tok), pre = (p : Int) ∧ n = a.length - p ∧ p ≤ a.length ∧ p ≤ b.length ∧ a.take p = b.take p ∧ nx = [] ∧
    Kn m [(Str.ofString "a", Value.str (S a) ta), (Str.ofString "b", .str (S b) tb), (Str.ofString "max_cost", .int mc tc), (Str.ofString "pre", .int pre t)]
noncomputable def levJ2 (A B : List Nat) (mc : Int) (tc : Tok) (n : Nat) (m : Str → Option Value) (nx : Nws) : Prop :=
  ∃ (q : Nat) (post : Int) (ta tb t : Tok), post = -(q : Int) ∧ n = A.length - q ∧ q ≤ A.length ∧ q ≤ B.length ∧ A.drop (A.length - q) = B.drop (B.length - q) ∧ nx = [] ∧
    Kn m [(Str.ofString "a", Value.str (S A) ta), (Str.ofString "b", .str (S B) tb), (Str.ofString "max_cost", .int mc tc), (Str.ofString "post", .int post t)]
theorem take_ext {a b : List Nat} {p : Nat} (h : a.take p = b.take p) (ha : p < a.length) (hb : p < b.length) (hc : a.getD p 0 = b.getD p 0) : a.take (p + 1) = b.take (p + 1) := by
  rw [List.take_add_one, List.take_add_one, h, List.getElem?_eq_getElem ha, List.getElem?_eq_getElem hb]
  simp [List.getD, ha, hb] at hc
  rw [hc]
theorem drop_ext {a b : List Nat} {q : Nat} (h : a.drop (a.length - q) = b.drop (b.length - q)) (ha : q < a.length) (hb : q < b.length) (hc : a.getD (a.length - (q + 1)) 0 = b.getD (b.length - (q + 1)) 0) : a.drop (a.length - (q + 1)) = b.drop (b.length - (q + 1)) := by
  have h1 : a.length - (q + 1) < a.length := Nat.sub_lt (Nat.zero_lt_of_lt ha) (Nat.succ_pos _)
  have h2 : b.length - (q + 1) < b.length := Nat.sub_lt (Nat.zero_lt_of_lt hb) (Nat.succ_pos _)
  rw [List.drop_eq_getElem_cons h1, List.drop_eq_getElem_cons h2, sub_step ha, sub_step hb, h]
  simp [List.getD, h1, h2] at hc
  rw [hc]

local macro_rules | `(tactic| walk_at "call type:list") => `(tactic| (k_here; k_dflt (refine' list_range2 _ ?hh ?F ?N ?hr ?hb ?hn ?_; (case hb => exact rfl); (case hh => rfl); (case F => k_asm); (case N => k_asm); (case hr => assumption); (case hn => omega)); intro D' vs' c' h' tk' F' N' l1 hI'; (try k_lt l1); (try k_sweep)))
local macro_rules | `(tactic| walk_at "call builtin:min") => `(tactic| (k_here; with_reducible refine' min2N ?hh ?F ?N ?_; k_dflt ((case hh => rfl); (case F => k_asm); (case N => k_asm)); intro _ _ _ _ _; (try k_sweep)))
local macro_rules | `(tactic| walk_at "call ref") => `(tactic| (k_here; with_reducible refine' Tel.use (sub_tel _ _ _ _ _ ?a1 ?a2) ?k1 ?k2 ?k3 ?k4 ?k5 ?k6 trivial ?k7 ?k8 ?_; k_dflt (walk_at "MyK"; walk_at "MyA"); walk_at "MyV"))
noncomputable def erow (a b : List Nat) (i j : Nat) : List Int := (List.range a.length).map fun k => if k < j then ((ED (b.take (i + 1)) (a.take (k + 1)) : Nat) : Int) else ((ED (b.take i) (a.take (k + 1)) : Nat) : Int)
theorem erow_len (a b : List Nat) (i j : Nat) : (erow a b i j).length = a.length := by simp [erow]
theorem erow_start (a b : List Nat) : (List.range a.length).map (fun k : Nat => 2 * ((k : Int) + 1)) = erow a b 0 0 := by
  unfold erow
  refine List.map_congr_left fun k hk => ?_
  have hk := List.mem_range.mp hk
  rw [if_neg (Nat.not_lt_zero k), List.take_zero, ED_nil, List.length_take]
  omega
theorem erow_next (a b : List Nat) (i : Nat) : erow a b i a.length = erow a b (i + 1) 0 := by
  unfold erow
  refine List.map_congr_left fun k hk => ?_
  have hk := List.mem_range.mp hk
  rw [if_pos hk, if_neg (Nat.not_lt_zero k)]
theorem erow_get (a b : List Nat) (i j : Nat) (hj : j < a.length) : (erow a b i j).getD j 0 = ((ED (b.take i) (a.take (j + 1)) : Nat) : Int) := by
  rw [List.getD_eq_getElem?_getD]
  simp [erow, hj]
theorem erow_set (a b : List Nat) (i j : Nat) (_hj : j < a.length) : (erow a b i j).set j ((ED (b.take (i + 1)) (a.take (j + 1)) : Nat) : Int) = erow a b i (j + 1) := by
  apply List.ext_getElem (by simp [erow])
  intro k h1 h2
  rw [List.getElem_set]
  have hk : k < a.length := by simpa [erow] using h2
  simp only [erow, List.getElem_map, List.getElem_range]
  split
  · rename_i e; subst e; rw [if_pos (by omega)]
  · rename_i e
    by_cases h : k < j
    · rw [if_pos h, if_pos (by omega)]
    · rw [if_neg h, if_neg (by omega)]
theorem ints_set {vs : List Value} {ns : List Int} (h : IntsAre vs ns) : ∀ (i : Nat) (x : Int) (t : Tok), IntsAre (vs.set i (.int x t)) (ns.set i x) := by
  induction h with
  | nil => intro i x t; exact .nil
  | cons y u h ih =>
    intro i x t
    cases i with
    | zero => exact .cons _ _ h
    | succ i => exact .cons _ _ (ih i x t)
theorem lev_cell {a b : List Nat} {i j : Nat} (hi : i < b.length) (hj : j < a.length) {res dist row : Int} (hres : res = if j = 0 then 2 * (i : Int) else ((ED (b.take (i + 1)) (a.take j) : Nat) : Int)) (hd : dist = ((ED (b.take i) (a.take j) : Nat) : Int)) (hr : row = ((ED (b.take i) (a.take (j + 1)) : Nat) : Int)) :
    min (min res row + 2) (dist + csub (b.getD i 0) (a.getD j 0)) = ((ED (b.take (i + 1)) (a.take (j + 1)) : Nat) : Int) := by
  have eb : b.take (i + 1) = b.take i ++ [b[i]] := by rw [List.take_add_one, List.getElem?_eq_getElem hi]; rfl
  have ea : a.take (j + 1) = a.take j ++ [a[j]] := by rw [List.take_add_one, List.getElem?_eq_getElem hj]; rfl
  have e1 : b.getD i 0 = b[i] := by simp [List.getD, hi]
  have e2 : a.getD j 0 = a[j] := by simp [List.getD, hj]
  have hs := ED_snoc b[i] a[j] (b.take i) (a.take j)
  have hc : csub b[i] a[j] = ((csubN b[i] a[j] : Nat) : Int) := by unfold csub csubN; split <;> (try split) <;> rfl
  have hc2 := csubN_le b[i] a[j]
  rw [e1, e2, hc, hd, hr, eb, ea, hs, hres]
  by_cases h0 : j = 0
  · subst h0
    rw [if_pos rfl, List.take_zero, ED_nil', ED_nil']
    have : (b.take i).length = i := List.length_take_of_le (Nat.le_of_lt hi)
    simp only [List.length_append, List.length_singleton, this]
    exact mincast0 i _ _ hc2
  · rw [if_neg h0, eb]
    exact mincast _ _ _ _
theorem ED_row' {a b : List Nat} (ha : a ≠ []) {i : Nat} (hi : i < b.length) {mn mc : Int} (hm : ∀ k, k < a.length → mn ≤ ((ED (b.take (i + 1)) (a.take (k + 1)) : Nat) : Int)) (h : ¬ (mn ≤ mc)) : ¬ ((ED a b : Nat) : Int) ≤ mc := by
  obtain ⟨j, hj, e⟩ := ED_row a b ha (i + 1) (by omega) (by omega)
  have := hm j hj
  rw [ED_comm] at this
  omega
noncomputable def levO (a b : List Nat) (ta tb tc : Tok) (mc : Int) (i : Nat) (m : Str → Option Value) (nx : Nws) : Prop :=
  ∃ R ys n res t, IntsAre ys (erow a b i 0) ∧ (0 < i → res = ((ED (b.take i) a : Nat) : Int)) ∧ nx = [(R, W.listOf ys.toArray n)] ∧
    Kn m [(Str.ofString "a", Value.str (S a) ta), (Str.ofString "b", .str (S b) tb), (Str.ofString "max_cost", .int mc tc), (Str.ofString "row", .ref R), (Str.ofString "result", .int res t)]
noncomputable def levI (a b : List Nat) (ta tb tc : Tok) (mc : Int) (c : Nat) (R : Addr) (own : Nws) (i j : Nat) (m : Str → Option Value) (nx : Nws) : Prop :=
  ∃ ys n res dist mn u tr td tm, IntsAre ys (erow a b i j) ∧ res = (if j = 0 then 2 * (i : Int) else ((ED (b.take (i + 1)) (a.take j) : Nat) : Int)) ∧ dist = ((ED (b.take i) (a.take j) : Nat) : Int) ∧
    (∀ k, k < j → mn ≤ ((ED (b.take (i + 1)) (a.take (k + 1)) : Nat) : Int)) ∧ nx = (R, W.listOf ys.toArray n) :: own ∧
    Kn m [(Str.ofString "a", Value.str (S a) ta), (Str.ofString "b", .str (S b) tb), (Str.ofString "max_cost", .int mc tc), (Str.ofString "row", .ref R), (Str.ofString "bchar", .str (S [c]) u), (Str.ofString "result", .int res tr), (Str.ofString "distance", .int dist td), (Str.ofString "minimum", .int mn tm)]
theorem ints_eq {vs : List Value} {ns ns' : List Int} (h : IntsAre vs ns) (e : ns = ns') : IntsAre vs ns' := e ▸ h
theorem mn_next {f : Nat → Int} {mn x : Int} {j : Nat} (h : ∀ k, k < j → mn ≤ f k) (hx : x = f j) {M : Int} (h1 : M ≤ mn) (h2 : M ≤ x) : ∀ k, k < j + 1 → M ≤ f k := fun k hk => by
  by_cases e : k = j
  · subst e; omega
  · have := h k (by omega); omega
theorem eval_join {prog : Program} {w : World} {A : Around} {E : Value → Shared → Prop} {s : Shared} {h₀ : Heap} {L : Addr} {m : Str → Option Value} {news : Nws} {e : PySem.Expr} {env : Env} {Q : Value → Shared → Prop} (P : Value → Prop) (_F : Fr h₀ L s.heap m) (_N : News h₀ L s.heap news) (h1 : wpAny (model prog w) A (eval e env) (fun v s' => P v ∧ WEnd h₀ L (fun m' nx => m' = m ∧ nx = news) s s') E s)
    (h2 : ∀ v h tk, P v → Fr h₀ L h m → News h₀ L h news → Q v { s with heap := h, toks := tk }) : wpAny (model prog w) A (eval e env) Q E s := by
  refine wpAny_mono h1 (fun v s' h => ?_) fun _ _ e => e
  obtain ⟨hp, h', tk, m', nx, rfl, F, N, rfl, rfl⟩ := h
  exact h2 v h' tk hp F N
structure Halt : Prop where
local macro_rules | `(tactic| walk_at "eval Subscript") => `(tactic| ((with_reducible show wpAny _ _ (eval (Expr.Subscript (Expr.Name _ _) (Expr.Slice none (some _) none _) _) _) _ _ _); (with_reducible rename Halt => hh'); clear hh'; refine stop_of ?_))
theorem lev_tel (w : World) (a b : List Nat) (mc : Int) (ta tb tc : Tok) (ha : Word a) (hb : Word b) (hmc : 0 ≤ mc) (hmc2 : mc ≤ 1000) :
    Tel w 71 2 [.str (S a) ta, .str (S b) tb, .int mc tc] (fun _ => True) (fun v tl => tl = [] ∧ ∃ r t, v = .int r t ∧ ((ED a b : Int) ≤ mc → r = ED a b)) := by
  w_top off
  refine' tel_plain [(Str.ofString "a", .str (S a) ta), (Str.ofString "b", .str (S b) tb), (Str.ofString "max_cost", .int mc tc)] ?ho ?hcd ?hb ?hl ?hc ?h1 ?h2 ?h3 ?h
  walk_at "MyPlain"
  intro mean mg mb dp un gd outer A₀ base g L s B F X N T hpre hd0 hu
  have la : a.length ≤ 5 := ha.2
  have lb : b.length ≤ 5 := hb.2
  k_steps
  · (try dsimp only)
    refine FinC.nil (by assumption) ⟨rfl, 0, _, rfl, fun _ => ?_⟩
    rename (S _ == S _) = true => he
    rw [S_beq, decide_eq_true_eq] at he
    rw [he]
    have := ED_prefix b [] []
    rw [List.append_nil, ED_nil] at this
    rw [this]; rfl
  · rename Fr _ _ _ _ => F1
    rename News _ _ _ _ => N1
    unfold Stop
    (try dsimp only)
    refine While_J (n₀ := a.length) (levJ1 a b ta tb tc mc) (fun m nx => ∃ n, levJ1 a b ta tb tc mc n m nx) F1 N1 ?j0 ?turn ?done ?hE
    · exact ⟨0, 0, _, rfl, rfl, Nat.zero_le _, Nat.zero_le _, by simp, rfl, rfl, rfl, rfl, rfl, trivial⟩
    · intro n m₁ nx h tk F2 N2 hJ
      obtain ⟨p, pre, t, rfl, rfl, hpa, hpb, htk, rfl, hk⟩ := hJ
      rw [frm_self hk] at F2
      clear hk F1 N1
      change Fr g L h _ at F2
      change News g L h _ at N2
      have lA5 : (S (a.drop p)).length ≤ 5 := drop_le5 ha
      have lB5 : (S (b.drop p)).length ≤ 5 := drop_le5 hb
      have la3 : a.length ≤ 1000 := Nat.le_trans ha.2 (by decide)
      have lb3 : b.length ≤ 1000 := Nat.le_trans hb.2 (by decide)
      k_steps
      · rename ((S (a.drop _)).length : Int) ≠ 0 => hnA
        rename ((S (b.drop _)).length : Int) ≠ 0 => hnB
        refine WhileStep.intro (by assumption) (by assumption) (n' := a.length - (p + 1)) (sub_next (drop_pos hnA)) ⟨p + 1, _, _, (Int.natCast_succ p).symm, rfl, drop_pos hnA, drop_pos hnB, ?_, rfl, rfl, rfl, rfl, rfl, trivial⟩
        · rename (S _ == S _) = true => he
          rw [S_beq, decide_eq_true_eq] at he
          have he := (List.cons.inj he).1
          rw [Int.toNat_natCast] at he
          exact take_ext htk (drop_pos hnA) (drop_pos hnB) he
      all_goals exact WEnd.intro (by assumption) (by assumption) ⟨_, p, _, _, rfl, rfl, hpa, hpb, htk, rfl, rfl, rfl, rfl, rfl, trivial⟩
    · intro m₁ nx h tk hJ F2 N2
      obtain ⟨n, p, pre, t, rfl, rfl, hpa, hpb, htk, rfl, hk⟩ := hJ
      rw [frm_self hk] at F2
      clear hk F1 N1
      change Fr g L h _ at F2
      change News g L h _ at N2
      have lA : (S (a.drop p)).length = a.length - p := by rw [S_len]; simp
      have lB : (S (b.drop p)).length = b.length - p := by rw [S_len]; simp
      (try dsimp only)
      k_steps
      rename Fr _ _ _ _ => F1
      rename News _ _ _ _ => N1
      unfold Stop
      (try dsimp only)
      have hED : ED a b = ED (a.drop p) (b.drop p) := by
        have := ED_prefix (a.take p) (a.drop p) (b.drop p)
        rw [List.take_append_drop, htk, List.take_append_drop] at this
        exact this
      have wA : Word (a.drop p) := ⟨fun c hc => ha.1 c (List.mem_of_mem_drop hc), by simp; omega⟩
      have wB : Word (b.drop p) := ⟨fun c hc => hb.1 c (List.mem_of_mem_drop hc), by simp; omega⟩
      rw [hED]
      generalize a.drop p = A at lA lB hED wA wB F1 ⊢
      generalize b.drop p = B at lA lB hED wA wB F1 ⊢
      have lA : A.length ≤ 5 := wA.2
      have lB : B.length ≤ 5 := wB.2
      clear hED hpa hpb htk ha hb la lb
      refine While_J (n₀ := A.length) (levJ2 A B mc tc) (fun m nx => ∃ n, levJ2 A B mc tc n m nx) F1 N1 ?j20 ?turn2 ?done2 ?hE2
      · exact ⟨0, 0, _, _, _, rfl, rfl, Nat.zero_le _, Nat.zero_le _, by simp, rfl, rfl, rfl, rfl, rfl, trivial⟩
      · intro n m₁ nx h tk F2 N2 hJ
        (try dsimp only)
        obtain ⟨q, post, ta', tb', t, hpost, rfl, hqa, hqb, htk, rfl, hk⟩ := hJ
        rw [frm_self hk] at F2
        clear hk F1 N1
        change Fr g L h _ at F2
        change News g L h _ at N2
        have lA3 : A.length ≤ 1000 := Nat.le_trans lA (by decide)
        have lB3 : B.length ≤ 1000 := Nat.le_trans lB (by decide)
        have lA6 : (S A).length ≤ 5 := by rw [S_len]; exact lA
        have lB6 : (S B).length ≤ 5 := by rw [S_len]; exact lB
        have htk := Hid.mk htk
        have hpost := Hid.mk hpost
        have hlt : Halt := ⟨⟩
        k_steps
        unfold Stop
        (try dsimp only)
        refine eval_join (h₀ := g) (L := L) (SlV (A.take (A.length - q))) F2 N2 ?sA ?kA
        · by_cases hq : q = 0
          · have hpost : post = 0 := by have := hpost.out; omega
            subst hpost
            have hz : IsZ := ⟨⟩
            k_steps
            · exact slv_all hq
            · exact WEnd.intro (by assumption) (by assumption) ⟨rfl, rfl⟩
          · have hz : IsP (k := post) (i := q) := ⟨hpost.out⟩
            have hq0 : 0 < q := by omega
            have hqi : post ≠ 0 := by have := hpost.out; omega
            k_steps
            · exact ⟨_, rfl⟩
            · exact WEnd.intro (by assumption) (by assumption) ⟨rfl, rfl⟩
        · rintro v h2 tk2 ⟨t9, rfl⟩ F3 N3
          clear F2 N2
          have hlt : Halt := ⟨⟩
          have lA5 : (S (A.take (A.length - q))).length ≤ 5 := take_le5 wA
          (try dsimp only)
          k_steps
          · clear lA5
            unfold Stop
            (try dsimp only)
            rename ((S (A.take _)).length : Int) ≠ 0 => hnA
            have hnA := Hid.mk (take_pos hnA)
            refine eval_join (h₀ := g) (L := L) (SlV (B.take (B.length - q))) F3 N3 ?sB ?kB
            · by_cases hq : q = 0
              · have hpost : post = 0 := by have := hpost.out; omega
                subst hpost
                have hz : IsZ := ⟨⟩
                k_steps
                · exact slv_all hq
                · exact WEnd.intro (by assumption) (by assumption) ⟨rfl, rfl⟩
              · have hz : IsP (k := post) (i := q) := ⟨hpost.out⟩
                have hq0 : 0 < q := by omega
                have hqi : post ≠ 0 := by have := hpost.out; omega
                k_steps
                · exact ⟨_, rfl⟩
                · exact WEnd.intro (by assumption) (by assumption) ⟨rfl, rfl⟩
            · rintro v h3 tk3 ⟨t9, rfl⟩ F4 N4
              clear F3 N3
              have lB5 : (S (B.take (B.length - q))).length ≤ 5 := take_le5 wB
              (try dsimp only)
              k_steps
              · rename (S _ == S _) = true => he
                rename List.getD A _ _ = _ => hca
                rename List.getD B _ _ = _ => hcb
                rename ((S (B.take _)).length : Int) ≠ 0 => hnB
                rw [S_beq, decide_eq_true_eq] at he
                have he := (List.cons.inj he).1
                refine WhileStep.intro (by assumption) (by assumption) (n' := A.length - (q + 1)) (sub_next hnA.out) ⟨q + 1, _, _, _, _, neg_next hpost.out, rfl, hnA.out, take_pos hnB, ?_, rfl, rfl, rfl, rfl, rfl, trivial⟩
                refine drop_ext htk.out hnA.out (take_pos hnB) ?_
                rw [neg_idx hpost.out hnA.out, neg_idx hpost.out (take_pos hnB), hca, hcb, he]
              all_goals exact WEnd.intro (by assumption) (by assumption) ⟨_, q, _, _, _, _, hpost.out, rfl, hqa, hqb, htk.out, rfl, rfl, rfl, rfl, rfl, trivial⟩
          · exact WEnd.intro (by assumption) (by assumption) ⟨_, q, _, _, _, _, hpost.out, rfl, hqa, hqb, htk.out, rfl, rfl, rfl, rfl, rfl, trivial⟩
      · intro m₁ nx h tk hJ F2 N2
        obtain ⟨n, q, post, ta', tb', t, hpost, rfl, hqa, hqb, htk, rfl, hk⟩ := hJ
        rw [frm_self hk] at F2
        clear hk F1 N1
        change Fr g L h _ at F2
        change News g L h _ at N2
        have hED : ED A B = ED (A.take (A.length - q)) (B.take (B.length - q)) := by
          have := ED_suffix (A.drop (A.length - q)) (A.take (A.length - q)) (B.take (B.length - q))
          rw [List.take_append_drop, htk, List.take_append_drop] at this
          exact this
        have wA2 : Word (A.take (A.length - q)) := ⟨fun c hc => wA.1 c (List.mem_of_mem_take hc), by simp; omega⟩
        have wB2 : Word (B.take (B.length - q)) := ⟨fun c hc => wB.1 c (List.mem_of_mem_take hc), by simp; omega⟩
        have qA : q = 0 → A.take (A.length - q) = A := fun h => by rw [h]; simp
        have qB : q = 0 → B.take (B.length - q) = B := fun h => by rw [h]; simp
        rw [hED]
        (try dsimp only)
        refine execs_join (h₀ := g) (L := L) (fun m nx => nx = [] ∧ ∃ ta tb t, Kn m [(Str.ofString "a", Value.str (S (A.take (A.length - q))) ta), (Str.ofString "b", .str (S B) tb), (Str.ofString "max_cost", .int mc tc), (Str.ofString "post", .int post t)]) ?ja1 ?ja2
        · by_cases hq : q = 0
          · rw [qA hq]
            have hpost : post = 0 := by omega
            subst hpost
            have hz : IsZ := ⟨⟩
            k_steps
            exact WEnd.intro (by assumption) (by assumption) ⟨rfl, _, _, _, rfl, rfl, rfl, rfl, trivial⟩
          · have hz : IsP (k := post) (i := q) := ⟨hpost⟩
            have hq0 : 0 < q := by omega
            have hqi : post ≠ 0 := by omega
            k_steps
            exact WEnd.intro (by assumption) (by assumption) ⟨rfl, _, _, _, rfl, rfl, rfl, rfl, trivial⟩
        · clear F2 N2
          intro m₂ nx2 h2 tk2 hJ F2 N2
          obtain ⟨rfl, ta2, tb2, t2, hk⟩ := hJ
          rw [frm_self hk] at F2
          clear hk
          (try dsimp only)
          refine execs_join (h₀ := g) (L := L) (fun m nx => nx = [] ∧ ∃ ta tb, Kn m [(Str.ofString "a", Value.str (S (A.take (A.length - q))) ta), (Str.ofString "b", .str (S (B.take (B.length - q))) tb), (Str.ofString "max_cost", .int mc tc)]) ?jb1 ?jb2
          · by_cases hq : q = 0
            · rw [qB hq]
              have hpost : post = 0 := by omega
              subst hpost
              have hz : IsZ := ⟨⟩
              k_steps
              exact WEnd.intro (by assumption) (by assumption) ⟨rfl, _, _, rfl, rfl, rfl, trivial⟩
            · have hz : IsP (k := post) (i := q) := ⟨hpost⟩
              have hq0 : 0 < q := by omega
              have hqi : post ≠ 0 := by omega
              k_steps
              exact WEnd.intro (by assumption) (by assumption) ⟨rfl, _, _, rfl, rfl, rfl, trivial⟩
          · clear F2 N2
            intro m₂ nx2 h2 tk2 hJ F2 N2
            obtain ⟨rfl, ta2, tb2, hk⟩ := hJ
            rw [frm_self hk] at F2
            clear hk
            clear hpost qA qB hED htk
            (try dsimp only)
            generalize A.take (A.length - q) = x at wA2 F2 ⊢
            generalize B.take (B.length - q) = y at wB2 F2 ⊢
            clear lA lB wA wB hqa hqb hmc
            have lx : x.length ≤ 5 := wA2.2
            have ly : y.length ≤ 5 := wB2.2
            have lSx : (S x).length = x.length := S_len x
            have lSy : (S y).length = y.length := S_len y
            by_cases hxy : x = [] ∨ y = []
            · have hxy2 : (S x).length = 0 ∨ (S y).length = 0 := by rw [lSx, lSy]; rcases hxy with h | h <;> simp [h]
              k_steps
              all_goals first
                | (exfalso; omega)
                | ((try dsimp only)
                   refine FinC.nil (by assumption) ⟨rfl, _, _, rfl, fun _ => ?_⟩
                   rcases hxy with rfl | rfl
                   · rw [ED_nil, lSx, lSy]; simp
                   · rw [ED_nil', lSx, lSy]; simp)
            · have hx0 : 0 < (S x).length := by rw [lSx]; exact List.length_pos_iff.mpr fun h => hxy (.inl h)
              have hy0 : 0 < (S y).length := by rw [lSy]; exact List.length_pos_iff.mpr fun h => hxy (.inr h)
              have hx0i : ((S x).length : Int) ≠ 0 := by omega
              have hy0i : ((S y).length : Int) ≠ 0 := by omega
              refine execs_join (h₀ := g) (L := L) (fun m nx => nx = [] ∧ ∃ ta tb, Kn m [(Str.ofString "a", Value.str (S x) ta), (Str.ofString "b", .str (S y) tb), (Str.ofString "max_cost", .int mc tc)]) ?jc1 ?jc2
              · k_steps
                all_goals first | (exfalso; omega) | exact WEnd.intro (by assumption) (by assumption) ⟨rfl, _, _, rfl, rfl, rfl, trivial⟩
              · clear F2 N2
                intro m₂ nx2 h2 tk2 hJ F2 N2
                obtain ⟨rfl, ta2, tb2, hk⟩ := hJ
                rw [frm_self hk] at F2
                clear hk
                (try dsimp only)
                refine execs_join (h₀ := g) (L := L) (fun m nx => nx = [] ∧ ∃ ta tb, Kn m [(Str.ofString "a", Value.str (S x) ta), (Str.ofString "b", .str (S y) tb), (Str.ofString "max_cost", .int mc tc)]) ?jd1 ?jd2
                · k_steps
                  all_goals first | (exfalso; omega) | exact WEnd.intro (by assumption) (by assumption) ⟨rfl, _, _, rfl, rfl, rfl, trivial⟩
                · clear F2 N2
                  intro m₂ nx2 h2 tk2 hJ F2 N2
                  obtain ⟨rfl, ta2, tb2, hk⟩ := hJ
                  rw [frm_self hk] at F2
                  clear hk
                  (try dsimp only)
                  refine execs_join (h₀ := g) (L := L) (fun m nx => nx = [] ∧ ∃ a' b' ta tb, Word a' ∧ Word b' ∧ a' ≠ [] ∧ a'.length ≤ b'.length ∧ ED x y = ED a' b' ∧ Kn m [(Str.ofString "a", Value.str (S a') ta), (Str.ofString "b", .str (S b') tb), (Str.ofString "max_cost", .int mc tc)]) ?je1 ?je2
                  · k_steps
                    · refine WEnd.intro (by assumption) News.nil ⟨rfl, y, x, _, _, wB2, wA2, fun h => hxy (.inr h), ?_, ED_comm x y, rfl, rfl, rfl, trivial⟩
                      omega
                    · refine WEnd.intro (by assumption) (by assumption) ⟨rfl, x, y, _, _, wA2, wB2, fun h => hxy (.inl h), ?_, rfl, rfl, rfl, rfl, trivial⟩
                      omega
                  · clear F2 N2
                    intro m₂ nx2 h2 tk2 hJ F2 N2
                    obtain ⟨rfl, a', b', ta2, tb2, wa', wb', na', lab, hEE, hk⟩ := hJ
                    rw [frm_self hk] at F2
                    clear hk
                    (try dsimp only)
                    rw [hEE]
                    clear hEE hx0 hy0 hx0i hy0i hxy lSx lSy lx ly wA2 wB2
                    have la' : a'.length ≤ 5 := wa'.2
                    have lb' : b'.length ≤ 5 := wb'.2
                    have lSa' : (S a').length = a'.length := S_len a'
                    have lSb' : (S b').length = b'.length := S_len b'
                    have ha0 : 0 < a'.length := List.length_pos_iff.mpr na'
                    k_steps
                    · (try dsimp only)
                      refine FinC.nil (by assumption) ⟨rfl, mc + 1, _, rfl, fun h => ?_⟩
                      have := ED_diff a' b'
                      exfalso
                      rw [lSa', lSb'] at *
                      omega
                    · rename Fr _ _ _ _ => F1
                      rename News _ _ _ _ => N1
                      rename IntsAre _ _ => hys0
                      unfold Stop
                      (try dsimp only)
                      rw [lSa', erow_start a' b'] at hys0
                      refine loop_range (n := b'.length) (levO a' b' ta2 tb2 tc mc) rfl (by assumption) ?smO ?rsO F1 N1 ?jO0 ?turnO ?doneO
                      · exact small_one (by omega) (by omega) (by omega) (by omega)
                      · rw [rangeSize_nat, S_len]; simp
                      · exact ⟨_, _, _, _, _, hys0, fun h => absurd h (Nat.lt_irrefl _), rfl, rfl, rfl, rfl, rfl, rfl, trivial⟩
                      · intro i u m₁ nx h tk own hi off hJ F2 N2
                        obtain ⟨R, ys, n, res, tr, hys, hres, rfl, hk⟩ := hJ
                        rw [frm_self hk] at F2
                        clear hk F1 N1 hys0 hres
                        change Fr g L h _ at F2
                        change News g L h _ at N2
                        simp only [List.cons_append, List.nil_append] at N2
                        simp only [List.map_cons, List.map_nil] at off
                        have e0 : (0 + (i : Int)).toNat = i := z2 i
                        have hcl : letter (b'.getD (0 + (i : Int)).toNat 0) := by
                          rw [e0]; exact wb'.1 _ (by simp [List.getD, hi])
                        (try dsimp only)
                        k_steps
                        rename Fr _ _ _ _ => F1
                        rename News _ _ _ _ => N1
                        unfold Stop
                        (try dsimp only)
                        have hcE : b'.getD (0 + (i : Int)).toNat 0 = b'.getD i 0 := by rw [e0]
                        generalize b'.getD (0 + (i : Int)).toNat 0 = c at hcl hcE F1
                        refine loop_range (n := a'.length) (levI a' b' ta2 tb2 tc mc c R own i) rfl (by assumption) ?smI ?rsI F1 N1 ?jI0 ?turnI ?doneI
                        · exact small_one (by omega) (by omega) (by omega) (by omega)
                        · rw [rangeSize_nat, S_len]; simp
                        · refine ⟨_, _, _, _, _, _, _, _, _, hys, ?_, ?_, ?_, rfl, rfl, rfl, rfl, rfl, rfl, rfl, rfl, rfl, trivial⟩
                          · rw [if_pos rfl]; omega
                          · rw [List.take_zero, ED_nil', List.length_take]; omega
                          · exact fun k hk => absurd hk (Nat.not_lt_zero k)
                        · intro j u2 m₂ nx2 h2 tk2 own2 hj off2 hJ2 F3 N3
                          obtain ⟨ys2, n2, res2, dist, mn, uc, tr2, td, tm, hys2, hres2, hdist, hmn, rfl, hk2⟩ := hJ2
                          rw [frm_self hk2] at F3
                          clear hk2 F1 N1
                          change Fr g L h2 _ at F3
                          change News g L h2 _ at N3
                          simp only [List.cons_append] at N3
                          simp only [List.map_cons] at off2
                          have offB := off_join off (off_sub off2 (fun x hx => by simp at hx ⊢; simp [hx]))
                          have e1 : (0 + (j : Int)).toNat = j := z2 j
                          have hel := erow_len a' b' i j
                          have heg := erow_get a' b' i j hj
                          have hset := erow_set a' b' i j hj
                          have hyl2 := hys2.length
                          have ly2 : ys2.length ≤ 1000 := by omega
                          have hal : letter (a'.getD (0 + (j : Int)).toNat 0) := by
                            rw [e1]; exact wa'.1 _ (by simp [List.getD, hj])
                          generalize hrw : erow a' b' i j = row at hys2 hel heg hset hyl2
                          (try dsimp only)
                          k_steps
                          all_goals (
                            have hnew : min (min res2 (row.getD (0 + (j : Int)).toNat 0) + 2) (dist + csub c (a'.getD (0 + (j : Int)).toNat 0)) = ((ED (b'.take (i + 1)) (a'.take (j + 1)) : Nat) : Int) := by
                              rw [e1, hcE]; exact lev_cell hi hj hres2 hdist heg
                            rename IntsAre _ (List.set _ _ _) => hiS
                            refine InvEndG.intro (by assumption) (by assumption) ⟨_, _, _, _, _, _, _, _, _, ints_eq hiS ?g1, ?g2, ?g3, mn_next hmn hnew ?g4 ?g5, rfl, rfl, rfl, rfl, rfl, rfl, rfl, rfl, rfl, trivial⟩ off2 sub1 sub1r
                            case g1 => rw [hnew, e1]; exact hset
                            case g2 => rw [if_neg (Nat.succ_ne_zero j)]; exact hnew
                            case g3 => rw [e1]; exact heg
                            case g4 => omega
                            case g5 => omega)
                        · intro m₂ nx2 h2 tk2 hJ2 F3 N3
                          obtain ⟨ys2, n2, res2, dist, mn, uc, tr2, td, tm, hys2, hres2, hdist, hmn, rfl, hk2⟩ := hJ2
                          rw [frm_self hk2] at F3
                          clear hk2 F1 N1
                          change Fr g L h2 _ at F3
                          change News g L h2 _ at N3
                          rw [erow_next] at hys2
                          rw [if_neg (by omega), List.take_length] at hres2
                          (try dsimp only)
                          k_steps
                          · exact FinC.nil (by assumption) ⟨rfl, mc + 1, _, rfl, fun h => absurd h (ED_row' na' hi hmn (by omega))⟩
                          · exact InvEndG.intro (by assumption) (by assumption) ⟨R, _, _, _, _, hys2, fun _ => hres2, rfl, rfl, rfl, rfl, rfl, rfl, trivial⟩ off (fun p hp => List.mem_cons.mpr (.inl (List.mem_singleton.mp hp))) (fun p hp => List.mem_cons.mpr (.inr hp))
                      · intro m₁ nx h tk hJ F2 N2
                        obtain ⟨R, ys, n, res, tr, hys, hres, rfl, hk⟩ := hJ
                        rw [frm_self hk] at F2
                        clear hk F1 N1 hys0
                        change Fr g L h _ at F2
                        change News g L h _ at N2
                        have hres := hres (by omega)
                        rw [List.take_length, ED_comm] at hres
                        (try dsimp only)
                        k_steps
                        exact FinC.nil (by assumption) ⟨rfl, _, _, rfl, fun _ => hres⟩
      · passes_own
    · passes_own
end
end
section -- C10
open PySem PySem.W PyProof.Rows PySem.Calls LCg LCt
set_option maxRecDepth 100000
set_option maxHeartbeats 2000000
theorem ints_mem {vs : List Value} {ns : List Int} (h : IntsAre vs ns) : ∀ v ∈ vs, ∃ i t, v = Value.int i t := by
  induction h with
  | nil => intro v hv; cases hv
  | cons y t h ih =>
    intro v hv
    rcases List.mem_cons.mp hv with rfl | hv
    · exact ⟨_, _, rfl⟩
    · exact ih v hv
theorem ints_any : ∀ {vs : List Value}, (∀ v ∈ vs, ∃ i t, v = Value.int i t) → ∃ ms, IntsAre vs ms
  | [], _ => ⟨[], .nil⟩
  | v :: vs, h => by
    obtain ⟨i, t, rfl⟩ := h v (.head _)
    obtain ⟨ms, hm⟩ := ints_any fun v hv => h v (.tail _ hv)
    exact ⟨i :: ms, .cons _ _ hm⟩
theorem slicePick_ints {vs : List Value} {ns : List Int} (hi : IntsAre vs ns) (lo up st : Option Int) : ∃ ms, IntsAre (slicePick vs.toArray lo up st).toList ms := by
  refine ints_any fun v hv => ints_mem hi v ?_
  unfold slicePick at hv
  have hv : v ∈ (sliceRange (sliceBounds lo up st vs.toArray.size).1 (sliceBounds lo up st vs.toArray.size).2.1 (sliceBounds lo up st vs.toArray.size).2.2).filterMap (vs.toArray[·]?) := by simpa using hv
  obtain ⟨k, _, e⟩ := List.mem_filterMap.mp hv
  have e : vs[k]? = some v := by simpa using e
  exact List.mem_of_getElem? e
section
variable {prog : Program} {w : World} {A : Around} {E : Value → Shared → Prop} {s : Shared} {h₀ : Heap} {L l : Addr} {m : Str → Option Value} {news : Nws} {value slice : PySem.Expr} {vs : List Value} {ns : List Int} {Q : Value → Shared → Prop}
theorem slice3_ints {vl vu vk : Value} {lo up st : Option Int} {ops : List Value} (F : Fr h₀ L s.heap m) (N : News h₀ L s.heap news) (hl : s.heap.IsList l vs.toArray) (pl : IsPart vl lo) (pu : IsPart vu up) (pk : IsPart vk st) (h0 : st ≠ some 0) (hi : IntsAre vs ns) (hn : ns.length ≤ 100)
    (h : ∀ D ws ms h', Fr h₀ L h' m → News h₀ L h' ((D, W.listOf (List.toArray ws) 0) :: news) → (∀ p ∈ news, p.1 < D) → IntsAre ws ms → Q (.ref D) { s with heap := h' })
    (hs : subscripted slice false (.ref l) (.ref s.heap.objs.size) = operate ops (getItem (.ref l) (.ref s.heap.objs.size))) (ht : ∀ r, letTemporaryGo value (.ref l) r = pure ()) :
    wpAny (model prog w) A (subscriptTail value slice (.ref l) (.ref s.heap.objs.size)) Q E { s with heap := s.heap.push { cls := .type "slice", data := .fields #[vl, vu, vk] } } := by
  obtain ⟨ms, hm⟩ := slicePick_ints hi lo up st
  refine slice_list3 F N hl pl pu pk h0 (fun h' F' N' => h _ (slicePick vs.toArray lo up st).toList ms h' F' ?_ (fun p hp => Nat.lt_succ_of_lt (Heap.lt_size (N p hp).1)) hm) hs ht ?_
  · rw [Array.toArray_toList]; exact N'
  · rw [List.size_toArray, hi.length]; exact Nat.le_trans hn (by decide)
theorem sum_L {D : Addr} {ws : List Value} {ms : List Int} {n : Nat} (hh : A.handled = none) (F : Fr h₀ L s.heap m) (N : News h₀ L s.heap news) (hm : (D, W.listOf ws.toArray n) ∈ news) (hi : IntsAre ws ms)
    (h : ∀ (x : Int) h' tk t', Fr h₀ L h' m → News h₀ L h' news → Q (.int x t') { s with heap := h', toks := tk }) :
    wpAny (model prog w) A (call (.builtin "sum") [.ref D]) Q E s := by
  have hl : s.heap.IsList D ws.toArray := isl N hm
  obtain ⟨xs, hx⟩ := hi.allInts.items
  rw [hx] at hl
  exact sum_intListG hh hl fun h' tk t' hk => h _ h' tk t' (F.keeps hk) (N.grown hk)
theorem itemSE {x : Str} {b : List Nat} {t u : Tok} {k : Int} (hx : x = S b) (h0 : 0 ≤ k) (h1 : k < b.length) (hl : b.length ≤ 1000) (h : ∀ t' c, c ∈ b → Q (.str (S [c]) t') { s with toks := s.toks + 1 })
    (hs : subscripted slice false (.str x t) (.int k u) = operate [.str x t, .int k u] (getItem (.str x t) (.int k u)))
    (ht : ∀ r, letTemporaryGo value (.str x t) r = pure ()) : wpAny (model prog w) A (subscriptTail value slice (.str x t) (.int k u)) Q E s := by
  subst hx
  refine itemS h0 h1 hl (fun t' => h t' _ ?_) hs ht
  have : k.toNat < b.length := by omega
  rw [List.getD_eq_getElem?_getD, List.getElem?_eq_getElem this]
  exact List.getElem_mem this
end
theorem abBc_S : Str.ofString "abBc" = S [97, 98, 66, 99] := by decide +kernel
theorem abBc_letter {c : Nat} (h : c ∈ [97, 98, 66, 99]) : letter c := by
  simp only [List.mem_cons, List.not_mem_nil, or_false] at h
  unfold letter; omega
theorem word_join {ys : List Value} {n : Nat} (hl : ys.length = n) (hn : n ≤ 5) (hr : ∀ (j : Nat) (y : Value), ys[j]? = some y → ∃ c t, letter c ∧ y = Value.str (S [c]) t) :
    ∃ p : List Nat, (∃ ws : List (List Nat), StrsAre ys (ws.map S) ∧ ws.flatten = p ∧ ws.flatten.length + ws.length ≤ 1000) ∧ Word p ∧ p.length = n := by
  suffices h : ∀ ys : List Value, (∀ (j : Nat) (y : Value), ys[j]? = some y → ∃ c t, letter c ∧ y = Value.str (S [c]) t) → ∃ p : List Nat, StrsAre ys ((p.map fun c => [c]).map S) ∧ (∀ c ∈ p, letter c) ∧ p.length = ys.length by
    obtain ⟨p, h1, h2, h3⟩ := h ys hr
    have e : ∀ p : List Nat, (p.map fun c => [c]).flatten = p := fun p => by
      induction p with
      | nil => rfl
      | cons a r ih => simp [ih]
    exact ⟨p, ⟨p.map fun c => [c], h1, e p, by rw [e]; simp; omega⟩, ⟨h2, by omega⟩, by omega⟩
  intro ys
  induction ys with
  | nil => intro _; exact ⟨[], .nil, by simp, rfl⟩
  | cons y ys ih =>
    intro hr
    obtain ⟨c, t, hc, rfl⟩ := hr 0 y rfl
    obtain ⟨p, h1, h2, h3⟩ := ih fun j z hz => hr (j + 1) z hz
    exact ⟨c :: p, .cons _ _ h1, fun x hx => (List.mem_cons.mp hx).elim (fun e => e ▸ hc) (h2 x), by simp [h3]⟩
end
section -- W11
open PySem PySem.W PyProof.Rows PySem.Calls LCg LCt
set_option maxRecDepth 100000
set_option maxHeartbeats 4000000
section
theorem letter_abBc (x : Int) : letter ((Txt.charAt (Str.ofString "abBc") (Int.fmod x 4)).getD 0) := by
  have b0 := Int.fmod_nonneg_of_pos x (show (0 : Int) < 4 by decide)
  have b1 := Int.fmod_lt_of_pos x (show (0 : Int) < 4 by decide)
  have h : Int.fmod x 4 = 0 ∨ Int.fmod x 4 = 1 ∨ Int.fmod x 4 = 2 ∨ Int.fmod x 4 = 3 := by omega
  unfold letter
  rcases h with h | h | h | h <;> rw [h] <;> decide +kernel
local macro_rules | `(tactic| walk_at "subscriptTail Name Slice ref ref") => `(tactic| (k_here; (with_reducible show wpAny _ _ (subscriptTail _ (PySem.Expr.Slice (some _) none (some _) _) (Value.ref _) (Value.ref _)) _ _ _); k_dflt (refine' slice3_ints ?F ?N ?l ?p ?q ?k ?o ?i ?n ?_ ?s ?t; (case F => k_asm); (case N => k_asm); (case l => kmk_list); (case p => kmk_part); (case q => kmk_part); (case k => kmk_part); (case o => decide); (case i => assumption); (case n => omega); (case s => with_unfolding_all rfl); (case t => kmk_pure)); intro D' ws' ms' h' F' N' l1 hI'; (try k_lt l1); (try k_sweep)))
local macro_rules | `(tactic| walk_at "call builtin:sum") => `(tactic| (k_here; with_reducible refine' sum_L ?hh ?F ?N ?hm ?hi ?_; k_dflt ((case hh => rfl); (case F => k_asm); (case N => k_asm); (case hm => k_mem); (case hi => assumption)); intro x' h' tk' t' F' N'; (try k_sweep)))
theorem ws_a {sz : Int} (h : sz < 5) : (1 + sz).toNat ≤ 5 := Int.toNat_le.mpr (by omega)
theorem ws_b {sz : Int} (h : 0 ≤ sz) : (1 + sz).toNat ≠ 0 := by
  have : ((1 + sz).toNat : Int) = 1 + sz := Int.toNat_of_nonneg (by omega)
  omega
theorem word_tel (w : World) (l : Addr) (vs : List Value) (ns : List Int) (k : Nat) (t : Tok) (hi : IntsAre vs ns) (hn : ns.length ≤ 63) (hk : k < 3) :
    Tel w 76 2 [.ref l, .int (k : Int) t] (fun h => h.IsList l vs.toArray) (fun v tl => tl = [] ∧ ∃ p t, v = .str (S p) t ∧ Word p ∧ p ≠ []) := by
  w_top off
  refine' tel_cells [(Str.ofString "script", .ref l), (Str.ofString "k", .int (k : Int) t)] ?ho ?hcd ?hb ?hkk ?hnd ?h1 ?h2 ?h3 ?h
  walk_at "MyCells"
  intro mean mg mb dp un gd outer A₀ base g L s cells B F X N Y T hpre hd0 hu
  k_cells Y
  try simp only [List.cons_append, List.nil_append] at N
  try dsimp only
  k_steps
  rename Int => x0
  unfold Stop
  have b0 := Int.fmod_nonneg_of_pos (3 - Int.fdiv (k : Int) 2 + x0) (show (0 : Int) < 5 by decide)
  have b1 := Int.fmod_lt_of_pos (3 - Int.fdiv (k : Int) 2 + x0) (show (0 : Int) < 5 by decide)
  generalize hsz : Int.fmod (3 - Int.fdiv (k : Int) 2 + x0) 5 = sz at *
  refine comp_R (1 + sz).toNat (Nat.le_trans (ws_a b1) (by decide)) (fun _ y => ∃ c t, letter c ∧ y = Value.str (S [c]) t) (by assumption) rfl (by decide) rfl (by decide) rfl rfl ?_
  k_steps
  · exact letter_abBc _
  · unfold Stop
    rename _ = (1 + sz).toNat => hl
    rename ∀ (j : Nat) (y : Value), _ → _ => hr
    rename Off1 _ _ => o1
    simp only [Off1] at o1
    obtain ⟨p, hj, hw, hp⟩ := word_join hl (ws_a b1) hr
    have hp0 : p ≠ [] := fun e => by rw [e] at hp; exact ws_b b0 hp.symm
    (try dsimp only)
    (try k_fold)
    k_steps
    exact FinC.nil (by assumption) ⟨rfl, p, _, rfl, hw, hp0⟩
end
end
section -- C11
open PySem PySem.W PyProof.Rows PySem.Calls LCg LCt
set_option maxRecDepth 100000
set_option maxHeartbeats 2000000
section
variable {prog : Program} {w : World} {A : Around} {E : Value → Shared → Prop} {s : Shared} {h₀ : Heap} {L : Addr} {m : Str → Option Value} {env : Env}
theorem strs_getA {vs : List Value} {ws : List (List Nat)} (h : StrsAre vs (ws.map S)) {i : Nat} {v : Value} (hv : vs.toArray[i]? = some v) : ∃ x t, ws[i]? = some x ∧ v = Value.str (S x) t := by
  have hv : vs[i]? = some v := by simpa using hv
  induction ws generalizing vs i with
  | nil => cases h; cases hv
  | cons a ws ih =>
    cases h with
    | cons y t h =>
      cases i with
      | zero => cases hv; exact ⟨a, t, rfl, rfl⟩
      | succ i => exact ih h (by simpa using hv) (by simpa using hv)
/-- the object is a list of these texts -/
noncomputable def TextsIn (r : Addr) (ws : List (List Nat)) (news : Nws) : Prop := ∃ ys n, (r, W.listOf (List.toArray ys) n) ∈ news ∧ StrsAre ys (ws.map S)
/-- a comprehension with a test that no item meets, over a list of texts in the ledger -/
theorem comp_none {ct elt iter : PySem.Expr} {x : Str} {px : Pos} {scope : Scope} {cl : List (Str × Addr)} {pos : Pos} {Q : Value → Shared → Prop} (ws : List (List Nat)) (hn : ws.length ≤ 1000) (F₀ : Fr h₀ L s.heap m)
    (hclos : closureFor scope env = pure cl) (hcell : ∀ y ∈ scope.names, y.2 ≠ .cell) (hkind : scope.kind = .function)
    (hnames : ∀ y ∈ scope.names, y.2 = .local → scope.names.lookup y.1 = some .local) (hx : scope.names.lookup x = some .local) (hh : A.handled = none)
    (h : wpAny (model prog w) A (eval iter env) (fun xv s₁ => ∃ r news, xv = .ref r ∧ Fr h₀ L s₁.heap m ∧ News h₀ L s₁.heap news ∧ TextsIn r ws news ∧
      (∀ p u I oI C oC D m₂ h tk (E' : Value → Shared → Prop), p ∈ ws → NsObj oC m₂ → m₂ x = some (.str (S p) u) → Fr h₀ L h m → News h₀ L h ((I, oI) :: (C, oC) :: (D, lst []) :: news) → Off3 I C D news → ((@Ne Nat I C) ∧ (@Ne Nat I D) ∧ (@Ne Nat C D)) →
        wpAny (model prog w) A (isTrue ct (compEnvC scope cl C env) (eval ct (compEnvC scope cl C env))) (fun ok s' => ok = false ∧ EltOk h₀ L m ((I, oI) :: (C, oC) :: (D, lst []) :: news) { s₁ with heap := h, toks := tk } (fun _ => True) .none s') E' { s₁ with heap := h, toks := tk }) ∧
      (∀ D h tk, Fr h₀ L h m → News h₀ L h ((D, lst []) :: news) → Off1 D news → Stop (Q (.ref D) { s₁ with heap := h, toks := tk }))) E s)
    (hs : ∀ x, foldedSetIterable iter env x = pure x := by intro _; rfl) :
    wpAny (model prog w) A (eval (.ListComp elt [⟨.Name x px, iter, [ct], 0⟩] scope pos) env) Q E s := by
  refine ListComp_T F₀ hclos hcell hkind hnames hx (wpAny_mono h (fun xv s₁ h₁ => ?_) fun _ _ e => e) hs
  obtain ⟨r, news, rfl, F, N, ⟨ys, n, hm, hst⟩, he, hQ⟩ := h₁
  have hlen : ys.length = ws.length := by have := hst.length; simpa using this
  refine CompSrcT.ledger hh F N hm (by simp [hlen]; exact Nat.le_trans hn (by decide)) fun g => ?_
  suffices key : ∀ (k i : Nat), i + k = ys.toArray.size → CompRestT prog w A h₀ L m env ct elt x scope cl { s₁ with heap := g } (SrcAt h₀ r ys.toArray) (fun i v => ys.toArray[i]? = some v) (FinE h₀ L m { s₁ with heap := g } Q) k i [] news from key _ 0 (by omega)
  intro k
  induction k with
  | zero =>
    intro i hi
    exact .zero (fun D h tk F N o1 => hQ D h tk F N o1)
  | succ k ih =>
    intro i hi
    refine .succ fun v I oI C oC D m₂ h tk E' hP hN hm' F N off ne => ?_
    obtain ⟨p, u, hp, rfl⟩ := strs_getA hst hP
    refine wpAny_mono (he p u I oI C oC D m₂ h tk E' (List.mem_of_getElem? hp) hN hm' F N off ne) (fun ok s' hq => ?_) fun _ _ e => e
    obtain ⟨rfl, h', tk', rfl, F', N', _⟩ := hq
    simp only [Bool.false_eq_true, if_false]
    refine CompEnd.intro F' N' news (fun _ h => h) off (.inr ⟨_, hm, rfl, _, rfl⟩) ?_
    exact ih (i + 1) (by omega)
end
end
section -- C12
open PySem PySem.W PyProof.Rows PySem.Calls LCg LCt
set_option maxRecDepth 100000
set_option maxHeartbeats 2000000
section
variable {prog : Program} {w : World} {A : Around} {E : Value → Shared → Prop} {s : Shared} {h₀ : Heap} {L : Addr} {m : Str → Option Value} {env : Env}
/-- a comprehension over range(n) that is given to a local name -/
theorem assign_comp_R {elt iter : PySem.Expr} {x y : Str} {px py : Pos} {scope : Scope} {cl : List (Str × Addr)} {pos spos : Pos} {Q : Flow → Shared → Prop} (n : Nat) (hn : n ≤ 1000) (R : Nat → Value → Prop) (F₀ : Fr h₀ L s.heap m) (hLe : env.locals = L)
    (hsw : swapsWith (.ListComp elt [⟨.Name x px, iter, [], 0⟩] scope pos) (some (.Name y py)) spos.line env = pure true)
    (hclos : closureFor scope env = pure cl) (hcell : ∀ z ∈ scope.names, z.2 ≠ .cell) (hkind : scope.kind = .function)
    (hnames : ∀ z ∈ scope.names, z.2 = .local → scope.names.lookup z.1 = some .local) (hx : scope.names.lookup x = some .local)
    (hy : env.kindOf y = some .local) (hp : (env.scope.kind == .class || (env.scope.kind == .module && env.locals != env.globals)) = false) (hh : A.handled = none)
    (h : wpAny (model prog w) A (eval iter env) (fun xv s₁ => ∃ r news, xv = .ref r ∧ RangeTo s₁.heap r n ∧ Fr h₀ L s₁.heap m ∧ News h₀ L s₁.heap news ∧
      (∀ i u I oI C oC D m₂ ys h tk (E' : Value → Shared → Prop), i < n → NsObj oC m₂ → m₂ x = some (.int (0 + (i : Int)) u) → Fr h₀ L h m → News h₀ L h ((I, oI) :: (C, oC) :: (D, lst ys) :: news) → Off3 I C D news → ((@Ne Nat I C) ∧ (@Ne Nat I D) ∧ (@Ne Nat C D)) →
        wpAny (model prog w) A (eval elt (compEnvC scope cl C env)) (EltOk h₀ L m ((I, oI) :: (C, oC) :: (D, lst ys) :: news) { s₁ with heap := h, toks := tk } (R i)) E' { s₁ with heap := h, toks := tk }) ∧
      (∀ D h tk ys, ys.length = n → (∀ (j : Nat) (y : Value), ys[j]? = some y → R j y) → Fr h₀ L h (fun z => if z = y then some (.ref D) else m z) → News h₀ L h ((D, lst ys) :: news) → Off1 D news → Stop (Q .next { s₁ with heap := h, toks := tk }))) E s)
    (hs : ∀ x, foldedSetIterable iter env x = pure x := by intro _; rfl) :
    wpAny (model prog w) A (exec (.Assign [.Name y py] (.ListComp elt [⟨.Name x px, iter, [], 0⟩] scope pos) spos) env) Q E s := by
  refine Assign_ListComp_U F₀ hLe hsw hclos hcell hkind hnames hx hy hp (wpAny_mono h (fun xv s₁ h₁ => ?_) fun _ _ e => e) hs
  obtain ⟨r, news, rfl, ⟨b, t, u, v, hr, rfl⟩, F, N, he, hQ⟩ := h₁
  refine CompSrc.range (n := n) hh F N hr (small_one (by omega) (by omega) (by omega) (by omega)) (by rw [rangeSize_nat]; simp) (Nat.le_trans hn (by decide)) fun g => ?_
  suffices key : ∀ (k i : Nat) (ys : List Value), i + k = n → ys.length = i → (∀ (j : Nat) (z : Value), ys[j]? = some z → R j z) → CompRest prog w A h₀ L m env elt x scope cl { s₁ with heap := g } (fun _ => True) (fun i v => ∃ t, v = .int (0 + (i : Int)) t) (FinA h₀ L m { s₁ with heap := g } y Q) k i ys news from key n 0 [] (by omega) rfl (fun j y hy => by simp at hy)
  intro k
  induction k with
  | zero =>
    intro i ys hi hl hr
    exact .zero (fun D h tk F N o1 => hQ D h tk ys (by omega) hr F N o1)
  | succ k ih =>
    intro i ys hi hl hr
    refine .succ fun v I oI C oC D m₂ h tk E' hP hN hm F N off ne => ?_
    obtain ⟨t, rfl⟩ := hP
    refine wpAny_mono (he i t I oI C oC D m₂ ys h tk E' (by omega) hN hm F N off ne) (fun z s' hq => ?_) fun _ _ e => e
    obtain ⟨h', tk', rfl, F', N', r⟩ := hq
    refine CompEnd.intro F' N' news (fun _ h => h) off trivial ?_
    refine ih (i + 1) (ys ++ [z]) (by omega) (by simp [hl]) fun j q hq => ?_
    rw [List.getElem?_append] at hq
    split at hq
    · exact hr j q hq
    · rename_i hj
      rw [List.getElem?_singleton] at hq
      split at hq
      · obtain rfl : j = i := by omega
        cases hq; exact r
      · cases hq
end
end
section -- M3
/-- the last piece of the greedy reading -/
noncomputable def lp (b : List Nat) (u : List Nat) : List Nat → List Nat
  | [] => u
  | c :: x => if u ++ [c] <:+: b then lp b (u ++ [c]) x else lp b [] x
theorem lp_cons (b u : List Nat) (c : Nat) (x : List Nat) : lp b u (c :: x) = if u ++ [c] <:+: b then lp b (u ++ [c]) x else lp b [] x := rfl
theorem st_snoc (b : List Nat) (c : Nat) : ∀ (x u : List Nat), st b u (x ++ [c]) = st b u x + if lp b u x ++ [c] <:+: b then 0 else 1
  | [], u => by
    rw [List.nil_append, st_cons]
    show _ = 0 + if u ++ [c] <:+: b then 0 else 1
    split <;> simp [st]
  | d :: x, u => by
    rw [List.cons_append, st_cons, st_cons, lp_cons]
    split
    · exact st_snoc b c x _
    · rw [st_snoc b c x []]; omega
theorem lp_snoc (b : List Nat) (c : Nat) : ∀ (x u : List Nat), lp b u (x ++ [c]) = if lp b u x ++ [c] <:+: b then lp b u x ++ [c] else []
  | [], u => by
    rw [List.nil_append, lp_cons]
    show _ = if u ++ [c] <:+: b then u ++ [c] else []
    split <;> rfl
  | d :: x, u => by
    rw [List.cons_append, lp_cons, lp_cons]
    split
    · exact lp_snoc b c x _
    · exact lp_snoc b c x []
theorem lp_start (b : List Nat) (a : List Nat) : ∀ e, e ≤ a.length → ∃ k, k ≤ e ∧ lp b [] (a.take e) = (a.drop k).take (e - k) ∧ st b [] (a.take k) = st b [] (a.take e)
  | 0, _ => ⟨0, Nat.le_refl _, by simp [lp], by simp⟩
  | e + 1, he => by
    obtain ⟨k, hk, h1, h2⟩ := lp_start b a e (by omega)
    have hlt : e < a.length := by omega
    have et : a.take (e + 1) = a.take e ++ [a[e]] := by rw [List.take_add_one, List.getElem?_eq_getElem hlt]; rfl
    by_cases hi : lp b [] (a.take e) ++ [a[e]] <:+: b
    · refine ⟨k, by omega, ?_, ?_⟩
      · rw [et, lp_snoc, if_pos hi, h1, show e + 1 - k = (e - k) + 1 from Nat.succ_sub (by assumption), List.take_add_one, List.getElem?_drop, show k + (e - k) = e by omega, List.getElem?_eq_getElem hlt]; rfl
      · rw [et, st_snoc, if_pos hi, h2]; rfl
    · refine ⟨e + 1, Nat.le_refl _, ?_, rfl⟩
      rw [et, lp_snoc, if_neg hi]; simp
theorem st_zero (b : List Nat) : ∀ (z u : List Nat), u <:+: b → st b u z = 0 → u ++ z <:+: b
  | [], u, h, _ => by simpa using h
  | c :: z, u, h, e => by
    rw [st_cons] at e
    split at e
    · rename_i h2
      have := st_zero b z _ h2 e
      simpa using this
    · omega
theorem st_bad {b z : List Nat} (hz : ¬ z <:+: b) : ∀ (x u : List Nat), st b u x + 1 ≤ st b u (x ++ z)
  | [], u => by
    have h1 := st_nil_le b u z
    have : st b [] z ≠ 0 := fun e => hz (by simpa using st_zero b z [] ⟨[], b, rfl⟩ e)
    simp [st]; omega
  | c :: x, u => by
    rw [List.cons_append, st_cons, st_cons]
    split
    · exact st_bad hz x _
    · have := st_bad hz x []; omega
/-- the greedy strikes are the most bad stretches side by side -/
theorem fvals_st (a b : List Nat) : ∀ e, e ≤ a.length → fvals a b e = (List.range (e + 1)).map fun k => ((st b [] (a.take k) : Nat) : Int)
  | 0, _ => by simp [fvals, st]
  | e + 1, he => by
    have ih := fvals_st a b e (by omega)
    have hg : ∀ k, k ≤ e → (fvals a b e).getD k 0 = ((st b [] (a.take k) : Nat) : Int) := fun k hk => by
      rw [ih, List.getD_eq_getElem?_getD]; simp [show k < e + 1 by omega]
    have hcut : ∀ k, k ≤ e → a.take (e + 1) = a.take k ++ (a.drop k).take (e + 1 - k) := fun k hk => by
      conv => lhs; rw [show e + 1 = k + (e + 1 - k) by omega]
      rw [List.take_add]
    rw [List.range_succ, List.map_append, ← ih]
    show fvals a b e ++ [_] = fvals a b e ++ [_]
    congr 2
    show _ = ((st b [] (a.take (e + 1)) : Nat) : Int)
    refine maxL_of ?_ ?_
    · have hlt : e < a.length := by omega
      have et : a.take (e + 1) = a.take e ++ [a[e]] := by rw [List.take_add_one, List.getElem?_eq_getElem hlt]; rfl
      rw [List.mem_append]
      by_cases hi : lp b [] (a.take e) ++ [a[e]] <:+: b
      · left
        rw [hg e (Nat.le_refl _), List.mem_singleton, et, st_snoc, if_pos hi]; simp
      · right
        obtain ⟨k, hk, h1, h2⟩ := lp_start b a e (by omega)
        refine List.mem_map.mpr ⟨k, List.mem_filter.mpr ⟨List.mem_range.mpr (by omega), ?_⟩, ?_⟩
        · unfold fgood
          rw [h1] at hi
          rw [show e + 1 - k = (e - k) + 1 from Nat.succ_sub (by assumption), List.take_add_one, List.getElem?_drop, show k + (e - k) = e by omega, List.getElem?_eq_getElem hlt]
          show (!decide (List.take (e - k) (List.drop k a) ++ [a[e]] <:+: b)) = true
          rw [decide_eq_false hi]; rfl
        · rw [hg k hk, et, st_snoc, if_neg hi, h2]; simp
    · intro x hx
      rcases List.mem_append.mp hx with hx | hx
      · rw [List.mem_singleton.mp hx, hg e (Nat.le_refl _), hcut e (Nat.le_refl _)]
        have := st_prefix b (a.take e) [] ((a.drop e).take (e + 1 - e))
        omega
      · obtain ⟨k, hk, rfl⟩ := List.mem_map.mp hx
        obtain ⟨hk1, hk2⟩ := List.mem_filter.mp hk
        have hk1 := List.mem_range.mp hk1
        have hbad : ¬ (a.drop k).take (e + 1 - k) <:+: b := by
          unfold fgood at hk2
          simpa using hk2
        rw [hg k (by omega), hcut k (by omega)]
        have := st_bad hbad (a.take k) []
        omega
theorem fvals_fin (a b : List Nat) : (fvals a b a.length).getD a.length 0 = ((st b [] a : Nat) : Int) := by
  rw [fvals_st a b a.length (Nat.le_refl _), List.getD_eq_getElem?_getD]
  simp
/-- the pieces -/
theorem pfold_go (b : List Nat) : ∀ (x : List Nat) (ds : List (List Nat)) (cur : List Nat), (x.foldl (pstep b) (ds, cur)).1.length = ds.length + st (b.map lo) (cur.map lo) (x.map lo)
  | [], ds, cur => by simp [st]
  | c :: x, ds, cur => by
    rw [List.foldl_cons, List.map_cons, st_cons]
    unfold pstep
    have e : List.map lo cur ++ [lo c] = (cur ++ [c]).map lo := by simp
    rw [e]
    split
    · exact pfold_go b x ds _
    · have := pfold_go b x (ds ++ [cur]) []
      unfold pstep at this
      simp at this ⊢
      omega
theorem pieces_len (b a : List Nat) : (pieces b a).length = st (b.map lo) [] (a.map lo) + 1 := by
  have := pfold_go b a [] []
  unfold pieces pfold
  rw [List.length_append, this]; simp
theorem pfold_inf (b : List Nat) : ∀ (x : List Nat) (s : List (List Nat) × List Nat), (∀ p ∈ s.1, p.map lo <:+: b.map lo) → s.2.map lo <:+: b.map lo → (∀ p ∈ (x.foldl (pstep b) s).1, p.map lo <:+: b.map lo) ∧ (x.foldl (pstep b) s).2.map lo <:+: b.map lo
  | [], s, h1, h2 => ⟨h1, h2⟩
  | c :: x, s, h1, h2 => by
    rw [List.foldl_cons]
    refine pfold_inf b x _ ?_ ?_
    · unfold pstep
      split
      · exact h1
      · intro p hp
        rcases List.mem_append.mp hp with hp | hp
        · exact h1 p hp
        · rw [List.mem_singleton.mp hp]; exact h2
    · unfold pstep
      split
      · assumption
      · exact ⟨[], b.map lo, rfl⟩
theorem pieces_inf (b a : List Nat) : ∀ p ∈ pieces b a, p.map lo <:+: b.map lo := by
  have := pfold_inf b a ([], []) (by simp) ⟨[], b.map lo, rfl⟩
  intro p hp
  unfold pieces at hp
  rcases List.mem_append.mp hp with hp | hp
  · exact this.1 p hp
  · rw [List.mem_singleton.mp hp]; exact this.2
/-- the plain table of the price is the edit's price -/
theorem csub_N (c d : Nat) : csub c d = ((csubN c d : Nat) : Int) := by unfold csub csubN; split <;> (try split) <;> rfl
theorem prowN_ED (b x : List Nat) (row : List Int) (c : Nat) (h : ∀ k, k ≤ b.length → row.getD k 0 = ((ED x (b.take k) : Nat) : Int)) : ∀ k, k ≤ b.length → prowN b row c k = (List.range (k + 1)).map fun j => ((ED (x ++ [c]) (b.take j) : Nat) : Int)
  | 0, _ => by
    simp only [prowN]
    rw [h 0 (Nat.zero_le _)]
    simp [ED_nil']; omega
  | k + 1, hk => by
    have ih := prowN_ED b x row c h k (by omega)
    have hlt : k < b.length := by omega
    have et : b.take (k + 1) = b.take k ++ [b[k]] := by rw [List.take_add_one, List.getElem?_eq_getElem hlt]; rfl
    have e1 : (prowN b row c k).getD k 0 = ((ED (x ++ [c]) (b.take k) : Nat) : Int) := by rw [ih, List.getD_eq_getElem?_getD]; simp
    have e2 : b.getD k 0 = b[k] := by simp [List.getD, hlt]
    rw [List.range_succ, List.map_append, ← ih]
    show prowN b row c k ++ [_] = prowN b row c k ++ [_]
    congr 2
    show _ = ((ED (x ++ [c]) (b.take (k + 1)) : Nat) : Int)
    rw [e1, h (k + 1) hk, h k (by omega), csub_N, e2, et, ED_snoc]
    omega
theorem prow_ED (b : List Nat) (x : List Nat) : ∀ k, k ≤ b.length → (prow b x).getD k 0 = ((ED x (b.take k) : Nat) : Int) := by
  suffices h : ∀ (n : Nat) (x : List Nat), x.length = n → ∀ k, k ≤ b.length → (prow b x).getD k 0 = ((ED x (b.take k) : Nat) : Int) from h _ x rfl
  intro n
  induction n with
  | zero =>
    intro x hx k hk
    rw [List.length_eq_zero_iff.mp hx, ED_nil]
    show ((List.range (b.length + 1)).map fun k : Nat => 2 * (k : Int)).getD k 0 = _
    rw [List.getD_eq_getElem?_getD]
    simp [show k < b.length + 1 by omega]; omega
  | succ n ih =>
    intro x hx k hk
    have hne : x ≠ [] := by intro e; rw [e] at hx; simp at hx
    obtain ⟨y, c, rfl⟩ : ∃ y c, x = y ++ [c] := ⟨x.dropLast, x.getLast hne, (List.dropLast_concat_getLast hne).symm⟩
    rw [prow_snoc]
    unfold pstep2
    rw [prowN_ED b y _ c (ih y (by simpa using hx)) b.length (Nat.le_refl _), List.getD_eq_getElem?_getD]
    simp [show k < b.length + 1 by omega]
theorem prow_fin (b a : List Nat) : (prow b a).getD b.length 0 = ((ED a b : Nat) : Int) := by
  rw [prow_ED b a b.length (Nat.le_refl _), List.take_length]
end
section -- M4
/-- n letters of a give way to three dots each, and b is told -/
inductive HG : List Nat → List Nat → Nat → Prop
  | nil : HG [] [] 0
  | keep {x y n} (c : Nat) : HG x y n → HG (c :: x) (c :: y) n
  | hole {x y n} (c : Nat) (z : List Nat) : HG x y n → HG (c :: x) (z ++ y) (n + 1)
theorem HG.append {x y : List Nat} {n : Nat} (h : HG x y n) {x' y' : List Nat} {m : Nat} (h' : HG x' y' m) : HG (x ++ x') (y ++ y') (n + m) := by
  induction h with
  | nil => simpa using h'
  | keep c h ih => exact .keep c ih
  | @hole x y k c z h ih => rw [show k + 1 + m = (k + m) + 1 by omega, List.append_assoc]; exact .hole c z ih
theorem HG.len {x y : List Nat} {n : Nat} (h : HG x y n) : n ≤ x.length := by
  induction h with
  | nil => exact Nat.le_refl _
  | keep c h ih => simp; omega
  | hole c z h ih => simp; omega
theorem HG.nil_iff {y : List Nat} {n : Nat} (h : HG [] y n) : y = [] ∧ n = 0 := by
  generalize hx : ([] : List Nat) = x at h
  cases h with
  | nil => exact ⟨rfl, rfl⟩
  | keep c h => cases hx
  | hole c z h => cases hx
theorem HG.snoc {z y : List Nat} {n : Nat} (h : HG z y n) : ∀ (x : List Nat) (c : Nat), z = x ++ [c] → (∃ y', y = y' ++ [c] ∧ HG x y' n) ∨ (∃ j m, j ≤ y.length ∧ n = m + 1 ∧ HG x (y.take j) m) := by
  induction h with
  | nil => intro x c e; simp at e
  | @keep x₀ y₀ k d h ih =>
    intro x c e
    cases x with
    | nil =>
      simp at e
      obtain ⟨rfl, rfl⟩ := e
      obtain ⟨rfl, rfl⟩ := h.nil_iff
      exact .inl ⟨[], rfl, .nil⟩
    | cons a x =>
      simp at e
      obtain ⟨rfl, rfl⟩ := e
      rcases ih x c rfl with ⟨y', rfl, h'⟩ | ⟨j, m, hj, rfl, h'⟩
      · exact .inl ⟨d :: y', rfl, .keep d h'⟩
      · exact .inr ⟨j + 1, m, by simpa using hj, rfl, .keep d h'⟩
  | @hole x₀ y₀ k d w h ih =>
    intro x c e
    cases x with
    | nil =>
      simp at e
      obtain ⟨rfl, rfl⟩ := e
      obtain ⟨rfl, rfl⟩ := h.nil_iff
      exact .inr ⟨0, 0, Nat.zero_le _, rfl, by simpa using HG.nil⟩
    | cons a x =>
      simp at e
      obtain ⟨rfl, rfl⟩ := e
      rcases ih x c rfl with ⟨y', rfl, h'⟩ | ⟨j, m, hj, rfl, h'⟩
      · exact .inl ⟨w ++ y', by simp, .hole d w h'⟩
      · refine .inr ⟨w.length + j, m + 1, by simp; omega, rfl, ?_⟩
        have e : (w ++ y₀).take (w.length + j) = w ++ y₀.take j := by rw [List.take_length_add_append]
        rw [e]; exact .hole d w h'
/-- least holes, or none and nine or more -/
noncomputable def Least (a y : List Nat) (v : Int) : Prop := (∀ n, HG a y n → v ≤ (n : Int)) ∧ ((∃ n, HG a y n ∧ v = (n : Int)) ∨ 9 ≤ v)
theorem minL_spec {l : List Int} (h : l ≠ []) : minL l ∈ l ∧ ∀ a ∈ l, minL l ≤ a := by
  unfold minL
  cases e : l.min? with
  | none => rw [List.min?_eq_none_iff] at e; exact absurd e h
  | some v => exact List.min?_eq_some_iff.mp e
theorem hcell_least {b x : List Nat} {row : List Int} {c : Nat} (hl : row.length = b.length + 1) (h : ∀ k, k ≤ b.length → Least x (b.take k) (row.getD k 0)) (k : Nat) (hk : k ≤ b.length) : Least (x ++ [c]) (b.take k) (hcell b row c k) := by
  have hne : row.take (k + 1) ≠ [] := by
    intro e
    have := congrArg List.length e
    rw [List.length_take, List.length_nil] at this; omega
  obtain ⟨hm1, hm2⟩ := minL_spec hne
  have hmj : ∃ j, j ≤ k ∧ minL (row.take (k + 1)) = row.getD j 0 := by
    obtain ⟨j, hj, e⟩ := List.mem_iff_getElem.mp hm1
    simp at hj
    refine ⟨j, by omega, ?_⟩
    rw [← e, List.getElem_take]
    simp [List.getD, show j < row.length by omega]
  have hmle : ∀ j, j ≤ k → minL (row.take (k + 1)) ≤ row.getD j 0 := fun j hj => by
    refine hm2 _ ?_
    have hjr : j < row.length := by omega
    rw [List.getD_eq_getElem?_getD, List.getElem?_eq_getElem hjr]
    show row[j] ∈ _
    rw [List.mem_iff_getElem]
    exact ⟨j, by simp; omega, by simp⟩
  have hA : (∃ n, HG (x ++ [c]) (b.take k) n ∧ 1 + minL (row.take (k + 1)) = (n : Int)) ∨ 9 ≤ 1 + minL (row.take (k + 1)) := by
    obtain ⟨j, hj, e⟩ := hmj
    rw [e]
    rcases (h j (by omega)).2 with ⟨n, hn, e2⟩ | h9
    · left
      refine ⟨n + 1, ?_, by rw [e2]; omega⟩
      have h3 := hn.append (HG.hole c ((b.take k).drop j) .nil)
      have e4 : b.take j ++ ((b.take k).drop j ++ []) = b.take k := by
        rw [List.append_nil]
        have : b.take j = (b.take k).take j := by rw [List.take_take, Nat.min_eq_left hj]
        rw [this, List.take_append_drop]
      rw [e4] at h3
      exact h3
    · right; omega
  have hB : ∀ n, HG (x ++ [c]) (b.take k) n → hcell b row c k ≤ (n : Int) := by
    intro n hn
    unfold hcell
    rcases hn.snoc x c rfl with ⟨y', e, h'⟩ | ⟨j, m, hj, rfl, h'⟩
    · have hk0 : 0 < k := by
        cases k with
        | zero => have := congrArg List.length e; simp at this
        | succ k => omega
      have hkb : k - 1 < b.length := by omega
      have et : b.take k = b.take (k - 1) ++ [b[k - 1]] := by
        conv => lhs; rw [show k = (k - 1) + 1 by omega]
        rw [List.take_add_one, List.getElem?_eq_getElem hkb]; rfl
      rw [et] at e
      obtain ⟨e1, e2⟩ := List.append_inj' e rfl
      have e2 := (List.cons.inj e2).1
      have e3 : b.getD (k - 1) 0 = c := by rw [← e2]; simp [List.getD, hkb]
      rw [if_pos ⟨hk0, e3⟩]
      rw [← e1] at h'
      have := (h (k - 1) (by omega)).1 n h'
      omega
    · have hjk : j ≤ k := by simp at hj; omega
      rw [List.take_take, Nat.min_eq_left hjk] at h'
      have h1 := (h j (by omega)).1 m h'
      have h2 := hmle j hjk
      split <;> omega
  refine ⟨hB, ?_⟩
  unfold hcell
  split
  · rename_i hc
    rcases Int.le_total (1 + minL (row.take (k + 1))) (row.getD (k - 1) 0) with hle | hle
    · rw [Int.min_eq_left hle]; exact hA
    · rw [Int.min_eq_right hle]
      rcases (h (k - 1) (by omega)).2 with ⟨n, hn, e2⟩ | h9
      · left
        refine ⟨n, ?_, e2⟩
        have hkb : k - 1 < b.length := by omega
        have et : b.take k = b.take (k - 1) ++ [c] := by
          have e3 := hc.2
          simp [List.getD, hkb] at e3
          conv => lhs; rw [show k = (k - 1) + 1 by omega]
          rw [List.take_add_one, List.getElem?_eq_getElem hkb, ← e3]; rfl
        rw [et]
        exact hn.append (HG.keep c .nil)
      · right; exact h9
  · exact hA
theorem hrow_least (b x : List Nat) : ∀ k, k ≤ b.length → Least x (b.take k) ((hrow b x).getD k 0) := by
  suffices h : ∀ (n : Nat) (x : List Nat), x.length = n → ∀ k, k ≤ b.length → Least x (b.take k) ((hrow b x).getD k 0) from h _ x rfl
  intro n
  induction n with
  | zero =>
    intro x hx k hk
    rw [List.length_eq_zero_iff.mp hx]
    show Least [] (b.take k) ((0 :: List.replicate b.length 9 : List Int).getD k 0)
    cases k with
    | zero => exact ⟨fun n hn => by simp, .inl ⟨0, by simpa using HG.nil, rfl⟩⟩
    | succ k =>
      have e : (0 :: List.replicate b.length 9 : List Int).getD (k + 1) 0 = 9 := by simp [List.getD, show k < b.length by omega]
      rw [e]
      refine ⟨fun n hn => ?_, .inr (Int.le_refl _)⟩
      have := congrArg List.length hn.nil_iff.1
      rw [List.length_take, List.length_nil] at this
      omega
  | succ n ih =>
    intro x hx k hk
    have hne : x ≠ [] := by intro e; rw [e] at hx; simp at hx
    obtain ⟨y, c, rfl⟩ : ∃ y c, x = y ++ [c] := ⟨x.dropLast, x.getLast hne, (List.dropLast_concat_getLast hne).symm⟩
    rw [hrow_snoc]
    have := hcell_least (c := c) (hrow_len b y) (ih y (by simpa using hx)) k hk
    have e : (hstep b (hrow b y) c).getD k 0 = hcell b (hrow b y) c k := by
      unfold hstep
      rw [hrow_len, List.getD_eq_getElem?_getD]
      simp [show k < b.length + 1 by omega]
    rw [e]; exact this
theorem HG.all {a b : List Nat} (h : a ≠ []) : HG a b a.length := by
  cases a with
  | nil => exact absurd rfl h
  | cons c a =>
    have h2 : ∀ a : List Nat, HG a [] a.length := fun a => by
      induction a with
      | nil => exact .nil
      | cons c a ih => simpa using HG.hole c [] ih
    simpa using HG.hole c b (h2 a)
theorem hrow_fin {a b : List Nat} (ha : a ≠ []) (hl : a.length ≤ 8) : ∃ n : Nat, (hrow b a).getD b.length 0 = (n : Int) ∧ HG a b n ∧ ∀ k, HG a b k → n ≤ k := by
  have h := hrow_least b a b.length (Nat.le_refl _)
  rw [List.take_length] at h
  rcases h.2 with ⟨n, hn, e⟩ | h9
  · exact ⟨n, e, hn, fun k hk => by have := h.1 k hk; omega⟩
  · have := h.1 _ (HG.all ha); omega
/-- strikes at most as many as holes -/
theorem st_holes {x y : List Nat} {n : Nat} (h : HG x y n) : ∀ (pre u : List Nat), u <:+ pre.map lo → st ((pre ++ y).map lo) u (x.map lo) ≤ n := by
  induction h with
  | nil => intro pre u _; simp [st]
  | @keep x y n c h ih =>
    intro pre u hu
    have h1 := ih (pre ++ [c]) (u ++ [lo c]) (by rw [List.map_append]; exact suffix_snoc hu _)
    rw [List.append_assoc] at h1
    simp only [List.singleton_append] at h1
    rw [List.map_cons, st_cons, if_pos]
    · exact h1
    · obtain ⟨t, ht⟩ := hu
      exact ⟨t, y.map lo, by rw [List.map_append, List.map_cons, ← ht]; simp⟩
  | @hole x y n c z h ih =>
    intro pre u _
    have h1 := ih (pre ++ z) [] List.nil_suffix
    rw [List.append_assoc] at h1
    have h2 := st_restart ((pre ++ (z ++ y)).map lo) u (lo c) (x.map lo)
    rw [List.map_cons]; omega
theorem HG.ins {x y : List Nat} {n : Nat} (h : HG x y n) (d : Nat) (hx : x ≠ []) : ∃ m, m ≤ n + 1 ∧ HG x (d :: y) m := by
  cases h with
  | nil => exact absurd rfl hx
  | keep c h => exact ⟨_, Nat.le_refl _, by simpa using HG.hole c [d, c] h⟩
  | hole c z h => exact ⟨_, Nat.le_succ _, by simpa using HG.hole c (d :: z) h⟩
/-- holes at most as many as the price -/
theorem holes_price {x y : List Nat} {n : Nat} (h : Al x y n) : x ≠ [] → ∃ m, m ≤ n ∧ HG x y m := by
  induction h with
  | nil => intro h; exact absurd rfl h
  | @del x y n c h ih =>
    intro _
    cases x with
    | nil => exact ⟨1, by omega, by simpa using HG.hole c y .nil⟩
    | cons a x =>
      obtain ⟨m, hm, h'⟩ := ih (by simp)
      exact ⟨m + 1, by omega, HG.hole c [] h'⟩
  | @ins x y n d h ih =>
    intro hx
    obtain ⟨m, hm, h'⟩ := ih hx
    obtain ⟨k, hk, h2⟩ := h'.ins d hx
    exact ⟨k, by omega, h2⟩
  | @sub x y n c d h ih =>
    intro _
    by_cases hcd : c = d
    · subst hcd
      cases x with
      | nil =>
        have := h.le
        rw [ED_nil] at this
        cases y with
        | nil => exact ⟨0, Nat.zero_le _, .keep c .nil⟩
        | cons e y => exact ⟨1, by simp at this; omega, by simpa using HG.hole c (c :: e :: y) .nil⟩
      | cons a x =>
        obtain ⟨m, hm, h'⟩ := ih (by simp)
        exact ⟨m, by omega, .keep c h'⟩
    · have h3 : 1 ≤ csubN c d := by
        unfold csubN
        rw [if_neg hcd]; split <;> omega
      cases x with
      | nil => exact ⟨1, by omega, by simpa using HG.hole c (d :: y) .nil⟩
      | cons a x =>
        obtain ⟨m, hm, h'⟩ := ih (by simp)
        exact ⟨m + 1, by omega, HG.hole c [d] h'⟩
end
section -- M5
/-- the glob takes the text -/
inductive GM : List (Option Nat) → List Nat → Prop
  | nil : GM [] []
  | keep {r y} (c : Nat) : GM r y → GM (some c :: r) (c :: y)
  | hole {r y} (z : List Nat) : GM r y → GM (none :: r) (z ++ y)
/-- the parts, the later ones behind any text each -/
noncomputable def Mt' : List (List Nat) → List Nat → Prop
  | [], t => t = []
  | w :: ws, t => ∃ x t', t = x ++ (w ++ t') ∧ Mt' ws t'
noncomputable def Mt : List (List Nat) → List Nat → Prop
  | [], _ => False
  | w :: ws, b => ∃ t, b = w ++ t ∧ Mt' ws t
theorem gm_none {r : List (Option Nat)} {b : List Nat} : GM (none :: r) b ↔ ∃ z y, b = z ++ y ∧ GM r y := by
  constructor
  · intro h
    cases h with
    | hole z h => exact ⟨z, _, rfl, h⟩
  · rintro ⟨z, y, rfl, h⟩; exact .hole z h
theorem gm_some {r : List (Option Nat)} {b : List Nat} {c : Nat} : GM (some c :: r) b ↔ ∃ y, b = c :: y ∧ GM r y := by
  constructor
  · intro h
    cases h with
    | keep c h => exact ⟨_, rfl, h⟩
  · rintro ⟨y, rfl, h⟩; exact .keep c h
theorem gm_parts (r : List (Option Nat)) : ∀ b, GM r b ↔ Mt (parts r) b := by
  induction r with
  | nil =>
    intro b
    constructor
    · intro h; cases h; exact ⟨[], rfl, rfl⟩
    · rintro ⟨t, e, ht⟩
      have ht : t = [] := ht
      rw [e, ht]; exact .nil
  | cons o r ih =>
    intro b
    obtain ⟨w, ws, e⟩ := parts_ne r
    cases o with
    | none =>
      rw [gm_none]
      have ep : parts (none :: r) = [] :: w :: ws := by simp [parts, e]
      rw [ep]
      constructor
      · rintro ⟨z, y, rfl, h⟩
        obtain ⟨t, rfl, ht⟩ : Mt (w :: ws) y := e ▸ (ih y).mp h
        exact ⟨_, rfl, z, t, rfl, ht⟩
      · rintro ⟨t, rfl, z, t', rfl, ht⟩
        exact ⟨z, w ++ t', rfl, (ih _).mpr (e ▸ ⟨t', rfl, ht⟩)⟩
    | some c =>
      rw [gm_some]
      have ep : parts (some c :: r) = (c :: w) :: ws := by simp [parts, e, addHead]
      rw [ep]
      constructor
      · rintro ⟨y, rfl, h⟩
        obtain ⟨t, rfl, ht⟩ : Mt (w :: ws) y := e ▸ (ih y).mp h
        exact ⟨t, rfl, ht⟩
      · rintro ⟨t, rfl, ht⟩
        exact ⟨w ++ t, rfl, (ih _).mpr (e ▸ ⟨t, rfl, ht⟩)⟩
/-- places for the parts in b from s on, up to e -/
noncomputable def Pl (b : List Nat) (e : Nat) : List (List Nat) → Nat → Prop
  | [], _ => True
  | w :: ws, s => ∃ i, s ≤ i ∧ fits b w e i = true ∧ Pl b e ws (i + w.length)
theorem Pl.mono {b : List Nat} {e : Nat} {ws : List (List Nat)} {s s' : Nat} (h : Pl b e ws s') (hs : s ≤ s') : Pl b e ws s := by
  cases ws with
  | nil => trivial
  | cons w ws =>
    obtain ⟨i, h1, h2⟩ := h
    exact ⟨i, Nat.le_trans hs h1, h2⟩
theorem findN_spec {b w : List Nat} {s e : Nat} : (findN b w s e = none ∧ ∀ i, s ≤ i → fits b w e i = false) ∨ (∃ i, findN b w s e = some i ∧ s ≤ i ∧ fits b w e i = true ∧ ∀ j, s ≤ j → fits b w e j = true → i ≤ j) := by
  have hin : ∀ i, s ≤ i → fits b w e i = true → i ∈ List.range' s (e + 1 - s) := fun i h1 h2 => by
    unfold fits at h2
    rw [Bool.and_eq_true, decide_eq_true_eq] at h2
    exact List.mem_range'_1.mpr ⟨h1, by omega⟩
  cases hf : findN b w s e with
  | none =>
    left
    refine ⟨rfl, fun i hi => ?_⟩
    cases hv : fits b w e i with
    | false => rfl
    | true =>
      unfold findN at hf
      have := List.find?_eq_none.mp hf i (hin i hi hv)
      rw [hv] at this; exact absurd rfl this
  | some i =>
    right
    have hle := findN_le hf
    unfold findN at hf
    have h1 := List.find?_some hf
    refine ⟨i, rfl, hle.1, h1, fun j hj hv => ?_⟩
    obtain ⟨_, as, bs, e1, h2⟩ := List.find?_eq_some_iff_append.mp hf
    have hm := hin j hj hv
    have hs := List.pairwise_lt_range' (s := s) (n := e + 1 - s) (step := 1)
    rw [e1] at hm hs
    rcases List.mem_append.mp hm with hm | hm
    · have := h2 j hm
      rw [hv] at this; exact absurd this (by decide)
    · rcases List.mem_cons.mp hm with rfl | hm
      · exact Nat.le_refl _
      · have := (List.pairwise_cons.mp (List.pairwise_append.mp hs).2.1).1 j hm
        omega
theorem emLoop_Pl (b : List Nat) (e : Nat) : ∀ (ws : List (List Nat)) (s : Nat), emLoop b e ws s = true ↔ Pl b e ws s
  | [], s => by simp [emLoop, Pl]
  | w :: ws, s => by
    have hd : emLoop b e (w :: ws) s = (match findN b w s e with | none => false | some i => emLoop b e ws (i + w.length)) := rfl
    rw [hd]
    rcases findN_spec (b := b) (w := w) (s := s) (e := e) with ⟨hn, h⟩ | ⟨i, hs, h1, h2, h3⟩
    · rw [hn]
      constructor
      · intro q; cases q
      · rintro ⟨i, h1, h2, _⟩
        rw [h i h1] at h2; cases h2
    · rw [hs]
      show emLoop b e ws (i + w.length) = true ↔ _
      rw [emLoop_Pl b e ws]
      constructor
      · intro q; exact ⟨i, h1, h2, q⟩
      · rintro ⟨j, h4, h5, h6⟩
        have := h3 j h4 h5
        exact h6.mono (by omega)
/-- the parts in the middle, the last one at the end -/
theorem Pl_Mt (b wl : List Nat) (hwl : wl <:+ b) : ∀ (mid : List (List Nat)) (s : Nat), s + wl.length ≤ b.length → (Pl b (b.length - wl.length) mid s ↔ Mt' (mid ++ [wl]) (b.drop s))
  | [], s, hs => by
    constructor
    · intro _
      refine ⟨(b.drop s).take (b.length - wl.length - s), [], ?_, rfl⟩
      rw [List.append_nil]
      have h2 : (b.drop s).drop (b.length - wl.length - s) = wl := by
        rw [List.drop_drop, show s + (b.length - wl.length - s) = b.length - wl.length from Nat.add_sub_of_le (Nat.le_sub_of_add_le (by assumption))]
        exact (List.suffix_iff_eq_drop.mp hwl).symm
      conv => rhs; rhs; rw [← h2]
      rw [List.take_append_drop]
    · intro _; trivial
  | w :: mid, s, hs => by
    constructor
    · rintro ⟨i, h1, h2, h3⟩
      unfold fits at h2
      rw [Bool.and_eq_true, decide_eq_true_eq, decide_eq_true_eq] at h2
      have h4 := (Pl_Mt b wl hwl mid (i + w.length) (by omega)).mp h3
      refine ⟨(b.drop s).take (i - s), b.drop (i + w.length), ?_, h4⟩
      have e1 : w ++ b.drop (i + w.length) = b.drop i := by
        conv => lhs; lhs; rw [← h2.2]
        rw [← List.drop_drop, List.take_append_drop]
      rw [e1]
      have e2 : b.drop i = (b.drop s).drop (i - s) := by rw [List.drop_drop, show s + (i - s) = i by omega]
      rw [e2, List.take_append_drop]
    · rintro ⟨x, t', e, h⟩
      have hlen := congrArg List.length e
      simp at hlen
      have h0 : ∀ (mid : List (List Nat)) (t : List Nat), Mt' (mid ++ [wl]) t → wl.length ≤ t.length := fun mid => by
        induction mid with
        | nil => rintro t ⟨x, t', rfl, _⟩; simp; omega
        | cons m mid ih => rintro t ⟨x, t', rfl, h⟩; have := ih t' h; simp; omega
      have hl := h0 mid t' h
      have ed : b.drop (s + x.length + w.length) = t' := by
        rw [← List.drop_drop, ← List.drop_drop, e]; simp
      refine ⟨s + x.length, by omega, ?_, ?_⟩
      · unfold fits
        rw [Bool.and_eq_true, decide_eq_true_eq, decide_eq_true_eq]
        refine ⟨by omega, ?_⟩
        rw [← List.drop_drop, e]; simp
      · rw [Pl_Mt b wl hwl mid (s + x.length + w.length) (by omega), ed]; exact h
theorem Mt'_last {mid : List (List Nat)} {wl t : List Nat} : Mt' (mid ++ [wl]) t → wl <:+ t := by
  induction mid generalizing t with
  | nil =>
    rintro ⟨x, t', rfl, h⟩
    have h : t' = [] := h
    rw [h, List.append_nil]; exact List.suffix_append x wl
  | cons m mid ih =>
    rintro ⟨x, t', rfl, h⟩
    exact (ih h).trans ⟨x ++ m, by simp⟩
theorem emRes_GM (r : List (Option Nat)) (b : List Nat) : emRes r b = true ↔ GM r b := by
  rw [gm_parts]
  rcases parts_cases r with ⟨_, e⟩ | ⟨_, w0, mid, wl, e⟩
  · rw [emRes_one e, e, decide_eq_true_eq]
    constructor
    · intro h; exact ⟨[], by rw [← h]; simp, rfl⟩
    · rintro ⟨t, rfl, h⟩
      have h : t = [] := h
      rw [h]; simp
  · rw [emRes_more e, e]
    unfold emB
    rw [Bool.and_eq_true, Bool.and_eq_true, Bool.and_eq_true, decide_eq_true_eq, decide_eq_true_eq, decide_eq_true_eq, emLoop_Pl]
    constructor
    · rintro ⟨⟨⟨⟨t, ht⟩, h2⟩, h3⟩, h4⟩
      refine ⟨t, ht.symm, ?_⟩
      have := (Pl_Mt b wl h2 mid w0.length h3).mp h4
      rw [← ht] at this
      simpa using this
    · rintro ⟨t, rfl, h⟩
      have h1 := Mt'_last h
      have h2 : wl <:+ w0 ++ t := h1.trans (List.suffix_append w0 t)
      have h3 : w0.length + wl.length ≤ (w0 ++ t).length := by have := h1.length_le; simp; omega
      refine ⟨⟨⟨List.prefix_append w0 t, h2⟩, h3⟩, ?_⟩
      refine (Pl_Mt (w0 ++ t) wl h2 mid w0.length h3).mpr ?_
      simpa using h
/-- the masks -/
theorem bitAt_succ (x k : Nat) : bitAt x (k + 1) = bitAt (x / 2) k := by
  unfold bitAt
  rw [Nat.pow_succ, Nat.mul_comm, Nat.div_div_eq_div_mul]
theorem ditems_cons (c : Nat) (a : List Nat) (x : Nat) : ditems (c :: a) x = (if bitAt x 0 = 1 then none else some c) :: ditems a (x / 2) := by
  unfold ditems
  rw [List.length_cons, List.range_succ_eq_map, List.map_cons, List.map_map]
  congr 1
  refine List.map_congr_left fun k _ => ?_
  show (if bitAt x (k + 1) = 1 then none else some ((c :: a).getD (k + 1) 0)) = _
  rw [bitAt_succ]; rfl
theorem dcnt_cons (c : Nat) (a : List Nat) (x : Nat) : dcnt (c :: a) x = bitAt x 0 + dcnt a (x / 2) := by
  unfold dcnt
  rw [List.length_cons, List.range_succ_eq_map, List.map_cons, List.map_map, List.sum_cons]
  congr 2
  refine List.map_congr_left fun k _ => ?_
  show bitAt x (k + 1) = _
  rw [bitAt_succ]
theorem hg_mask {a b : List Nat} {n : Nat} (h : HG a b n) : ∃ x, x < 2 ^ a.length ∧ dcnt a x = n ∧ GM (ditems a x) b := by
  induction h with
  | nil => exact ⟨0, by simp, rfl, .nil⟩
  | @keep x y n c h ih =>
    obtain ⟨i, h1, h2, h3⟩ := ih
    refine ⟨2 * i, by rw [List.length_cons, Nat.pow_succ]; omega, ?_, ?_⟩
    · rw [dcnt_cons]
      have e : bitAt (2 * i) 0 = 0 := by simp [bitAt]
      rw [e, show 2 * i / 2 = i by omega, h2]; omega
    · rw [ditems_cons]
      have e : bitAt (2 * i) 0 = 0 := by simp [bitAt]
      rw [e, show 2 * i / 2 = i by omega, if_neg (by decide)]
      exact .keep c h3
  | @hole x y n c z h ih =>
    obtain ⟨i, h1, h2, h3⟩ := ih
    have e : bitAt (2 * i + 1) 0 = 1 := by simp [bitAt]
    refine ⟨2 * i + 1, by rw [List.length_cons, Nat.pow_succ]; omega, ?_, ?_⟩
    · rw [dcnt_cons, e, show (2 * i + 1) / 2 = i by omega, h2]; omega
    · rw [ditems_cons, e, show (2 * i + 1) / 2 = i by omega, if_pos rfl]
      exact .hole z h3
theorem mask_hg : ∀ (a b : List Nat) (x : Nat), GM (ditems a x) b → HG a b (dcnt a x)
  | [], b, x, h => by
    have e : ditems [] x = [] := rfl
    rw [e] at h
    cases h
    exact .nil
  | c :: a, b, x, h => by
    rw [ditems_cons] at h
    rw [dcnt_cons]
    rcases bit_cases x 0 with e | e
    · rw [e, if_neg (by decide)] at h
      obtain ⟨y, rfl, h'⟩ := gm_some.mp h
      rw [e, Nat.zero_add]
      exact .keep c (mask_hg a y _ h')
    · rw [e, if_pos rfl] at h
      obtain ⟨z, y, rfl, h'⟩ := gm_none.mp h
      rw [e, Nat.add_comm]
      exact .hole c z (mask_hg a y _ h')
theorem dfold_spec (a b : List Nat) : ∀ M, ((∃ x, x < M ∧ emRes (ditems a x) b = true ∧ dfold a b M = dcnt a x) ∨ dfold a b M = a.length + 1) ∧ ∀ x, x < M → emRes (ditems a x) b = true → dfold a b M ≤ dcnt a x
  | 0 => ⟨.inr rfl, fun x h => by omega⟩
  | M + 1 => by
    obtain ⟨h1, h2⟩ := dfold_spec a b M
    have hd : dfold a b (M + 1) = if dcnt a M < dfold a b M ∧ emRes (ditems a M) b = true then dcnt a M else dfold a b M := rfl
    by_cases hc : dcnt a M < dfold a b M ∧ emRes (ditems a M) b = true
    · rw [hd, if_pos hc]
      refine ⟨.inl ⟨M, by omega, hc.2, rfl⟩, fun x hx he => ?_⟩
      by_cases hxm : x = M
      · rw [hxm]; exact Nat.le_refl _
      · have := h2 x (by omega) he; omega
    · rw [hd, if_neg hc]
      refine ⟨?_, fun x hx he => ?_⟩
      · rcases h1 with ⟨x, hx, he, e⟩ | e
        · exact .inl ⟨x, by omega, he, e⟩
        · exact .inr e
      · by_cases hxm : x = M
        · subst hxm
          have : ¬ dcnt a x < dfold a b x := fun q => hc ⟨q, he⟩
          omega
        · exact h2 x (by omega) he
theorem dfold_fin {a b : List Nat} (ha : a ≠ []) : HG a b (dfold a b (2 ^ a.length)) ∧ ∀ k, HG a b k → dfold a b (2 ^ a.length) ≤ k := by
  obtain ⟨h1, h2⟩ := dfold_spec a b (2 ^ a.length)
  have hle : ∀ k, HG a b k → dfold a b (2 ^ a.length) ≤ k := fun k hk => by
    obtain ⟨x, hx, e, hg⟩ := hg_mask hk
    have := h2 x hx ((emRes_GM _ _).mpr hg)
    omega
  refine ⟨?_, hle⟩
  rcases h1 with ⟨x, hx, he, e⟩ | e
  · rw [e]; exact mask_hg a b x ((emRes_GM _ _).mp he)
  · have := hle _ (HG.all ha)
    omega
theorem dots_holes {a b : List Nat} (ha : a ≠ []) (hl : a.length ≤ 8) : ((dfold a b (2 ^ a.length) : Nat) : Int) = (hrow b a).getD b.length 0 := by
  obtain ⟨n, e, hn, hle⟩ := hrow_fin (b := b) ha hl
  obtain ⟨h1, h2⟩ := dfold_fin (b := b) ha
  have := hle _ h1
  have := h2 _ hn
  rw [e]; omega
theorem st_dots {a b : List Nat} (ha : a ≠ []) : st (b.map lo) [] (a.map lo) ≤ dfold a b (2 ^ a.length) := by
  have := st_holes (dfold_fin (b := b) ha).1 [] [] List.nil_suffix
  simpa using this
theorem dots_price {a b : List Nat} (ha : a ≠ []) : dfold a b (2 ^ a.length) ≤ ED a b := by
  obtain ⟨m, hm, h⟩ := holes_price (ED_al a b) ha
  exact Nat.le_trans ((dfold_fin (b := b) ha).2 m h) hm
theorem st_ED (a b : List Nat) : 2 * st (b.map lo) [] (a.map lo) ≤ ED a b := by
  have := st_price (ED_al a b) [] [] List.nil_suffix
  simpa using this
end
section -- W12
open PySem PySem.W PyProof.Rows PySem.Calls LCg LCt
set_option maxRecDepth 100000
set_option maxHeartbeats 4000000
/-- struck out of a beside b -/
noncomputable def sk (b a : List Nat) : Nat := st (b.map lo) [] (a.map lo)
/-- the fewest dots -/
noncomputable def dt (a b : List Nat) : Nat := dfold a b (2 ^ a.length)
theorem Tel.weaken {w : World} {f : Addr} {deep : Nat} {vs : List Value} {pre pre' : Heap → Prop} {post post' : Value → Nws → Prop} (C : Tel w f deep vs pre post) (h1 : ∀ h, pre' h → pre h) (h2 : ∀ v tl, post v tl → post' v tl) : Tel w f deep vs pre' post' := by
  intro mean mg mb dp un gd cn cs a ccd cl outer A₀ base h₀ L m news s Q E B F X N T hk hpre hdp hu hret
  exact C mean mg mb dp un gd cn cs a ccd cl outer A₀ base h₀ L m news s Q E B F X N T hk (h1 _ hpre) hdp hu fun v h' tk' tl F' N' hne hp => hret v h' tk' tl F' N' hne (h2 v tl hp)
theorem lo_letter {c : Nat} (h : letter c) : letter (lo c) := by rcases h with rfl | rfl | rfl | rfl <;> (unfold letter; decide)
theorem Word.low {a : List Nat} (h : Word a) : Word (a.map lo) := ⟨fun c hc => by obtain ⟨x, hx, rfl⟩ := List.mem_map.mp hc; exact lo_letter (h.1 x hx), by rw [List.length_map]; exact h.2⟩
theorem word2 (w : World) (l : Addr) (vs : List Value) (ns : List Int) (x : Int) (t : Tok) (hi : IntsAre vs ns) (hn : ns.length ≤ 63) (h0 : 0 ≤ x) (h3 : x < 3) :
    Tel w 76 2 [.ref l, .int x t] (fun h => h.IsList l vs.toArray) (fun v tl => tl = [] ∧ ∃ p t, v = .str (S p) t ∧ Word p ∧ p ≠ []) := by
  obtain ⟨k, rfl⟩ := Int.eq_ofNat_of_zero_le h0
  exact word_tel w l vs ns k t hi hn (by omega)
theorem pieces2 (w : World) (a b : List Nat) (ta tb : Tok) (ha : Word a) (hb : Word b) :
    Tel w 81 3 [.str (S a) ta, .str (S b) tb] (fun _ => True) (fun v tl => ∃ D ys n, v = .ref D ∧ tl = [(D, W.listOf ys.toArray n)] ∧ StrsAre ys ((pieces b a).map S)) := pieces_tel w a b ta tb ha hb
theorem foreign2 (w : World) (a b : List Nat) (ta tb : Tok) (ha : Word a) (hb : Word b) :
    Tel w 86 2 [.str (S (a.map lo)) ta, .str (S (b.map lo)) tb] (fun _ => True) (fun v tl => tl = [] ∧ ∃ t, v = .int (sk b a : Nat) t) :=
  (foreign_tel w _ _ ta tb ha.low hb.low).weaken (fun _ h => h) (fun v tl ⟨h, t, e⟩ => ⟨h, t, by rw [e, fvals_fin]; rfl⟩)
theorem dots2 (w : World) (a b : List Nat) (ta tb : Tok) (ha : Word a) (hb : Word b) :
    Tel w 91 2 [.str (S a) ta, .str (S b) tb] (fun _ => True) (fun v tl => tl = [] ∧ ∃ t, v = .int (dt a b : Nat) t) := dots_tel w a b ta tb ha hb
theorem holes2 (w : World) (a b : List Nat) (ta tb : Tok) (ha : Word a) (hb : Word b) (hn : a ≠ []) :
    Tel w 98 2 [.str (S a) ta, .str (S b) tb] (fun _ => True) (fun v tl => tl = [] ∧ ∃ t, v = .int (dt a b : Nat) t) :=
  (holes_tel w a b ta tb ha hb).weaken (fun _ h => h) (fun v tl ⟨h, t, e⟩ => ⟨h, t, by rw [e, ← dots_holes hn (by have := ha.2; omega)]; rfl⟩)
theorem price2 (w : World) (a b : List Nat) (ta tb : Tok) (ha : Word a) (hb : Word b) :
    Tel w 103 2 [.str (S a) ta, .str (S b) tb] (fun _ => True) (fun v tl => tl = [] ∧ ∃ t, v = .int (ED a b : Nat) t) :=
  (price_tel w a b ta tb ha hb).weaken (fun _ h => h) (fun v tl ⟨h, t, e⟩ => ⟨h, t, by rw [e, prow_fin]⟩)
theorem ED_ten {a b : List Nat} (ha : Word a) (hb : Word b) : ED a b ≤ 10 := by
  have := ED_max a b
  have := ha.2
  have := hb.2
  omega
theorem lev2 (w : World) (a b : List Nat) (mc : Int) (ta tb tc : Tok) (ha : Word a) (hb : Word b) (hm : ((ED a b : Nat) : Int) ≤ mc) (h2 : mc ≤ 1000) :
    Tel w 71 2 [.str (S a) ta, .str (S b) tb, .int mc tc] (fun _ => True) (fun v tl => tl = [] ∧ ∃ t, v = .int (ED a b : Nat) t) :=
  (lev_tel w a b mc ta tb tc ha hb (by omega) h2).weaken (fun _ h => h) (fun v tl ⟨h, r, t, e, h3⟩ => ⟨h, t, by rw [e, h3 hm]⟩)
theorem sk_dt {a b : List Nat} (ha : a ≠ []) : sk b a ≤ dt a b := st_dots ha
theorem dt_ED {a b : List Nat} (ha : a ≠ []) : dt a b ≤ ED a b := dots_price ha
theorem sk_ED (a b : List Nat) : 2 * sk b a ≤ ED a b := st_ED a b
theorem sk_prod (a b c : List Nat) : sk c a + 1 ≤ (sk b a + 1) * (sk c b + 1) := by
  have := st_product (b.map lo) (c.map lo) (a.map lo) [] ⟨[], b.map lo, rfl⟩
  simpa [sk] using this
theorem sk_le (a b : List Nat) (ha : Word a) : sk b a ≤ 5 := by
  have h1 := pfold_len b a
  have h2 := pieces_len b a
  unfold pieces at h2
  have := ha.2
  simp at h2
  unfold sk; omega
theorem sk_no (a b c : List Nat) (h : ((sk b a : Nat) : Int) + 1 > (((sk c a : Nat) : Int) + 1) * (((sk b c : Nat) : Int) + 1)) : False := by
  have h1 := sk_prod a c b
  have h2 : (((sk b a + 1 : Nat)) : Int) ≤ (((sk c a + 1) * (sk b c + 1) : Nat) : Int) := by exact_mod_cast h1
  rw [Int.natCast_mul] at h2
  simp only [Int.natCast_add, Int.cast_ofNat_Int] at h2
  omega
theorem pieces_len2 (b a : List Nat) : (pieces b a).length = sk b a + 1 := pieces_len b a
theorem piece_ok {a b p : List Nat} (ha : Word a) (h : p ∈ pieces b a) : Word p ∧ p.map lo <:+: b.map lo := by
  refine ⟨?_, pieces_inf b a p h⟩
  suffices key : ∀ (l : List Nat) (st : List (List Nat) × List Nat) (n : Nat), (∀ c ∈ l, letter c) → (∀ q ∈ st.1, (∀ c ∈ q, letter c) ∧ q.length ≤ n) → ((∀ c ∈ st.2, letter c) ∧ st.2.length ≤ n) →
      (∀ q ∈ (l.foldl (pstep b) st).1, (∀ c ∈ q, letter c) ∧ q.length ≤ n + l.length) ∧ ((∀ c ∈ (l.foldl (pstep b) st).2, letter c) ∧ (l.foldl (pstep b) st).2.length ≤ n + l.length) by
    have := key a ([], []) 0 ha.1 (by simp) (by simp)
    unfold pieces pfold at h
    have hl := ha.2
    rcases List.mem_append.mp h with h | h
    · have := this.1 p h; exact ⟨this.1, by omega⟩
    · rw [List.mem_singleton.mp h]; exact ⟨this.2.1, by have := this.2.2; omega⟩
  intro l
  induction l with
  | nil => intro st n _ h1 h2; exact ⟨fun q hq => ⟨(h1 q hq).1, by simpa using (h1 q hq).2⟩, h2.1, by simpa using h2.2⟩
  | cons c r ih =>
    intro st n hl h1 h2
    rw [List.foldl_cons]
    have hc := hl c (.head _)
    have := ih (pstep b st c) (n + 1) (fun x hx => hl x (.tail _ hx)) (fun q hq => ?_) ?_
    · rw [List.length_cons, show n + (r.length + 1) = n + 1 + r.length by omega]; exact this
    · unfold pstep at hq
      split at hq
      · exact ⟨(h1 q hq).1, Nat.le_succ_of_le (h1 q hq).2⟩
      · rcases List.mem_append.mp hq with hq | hq
        · exact ⟨(h1 q hq).1, Nat.le_succ_of_le (h1 q hq).2⟩
        · rw [List.mem_singleton.mp hq]; exact ⟨h2.1, Nat.le_succ_of_le h2.2⟩
    · unfold pstep
      split
      · exact ⟨fun x hx => (List.mem_append.mp hx).elim (h2.1 x) (fun h => by rw [List.mem_singleton.mp h]; exact hc), by simp; exact h2.2⟩
      · exact ⟨by simp, by simp⟩
end
section -- W13
open PySem PySem.W PyProof.Rows PySem.Calls LCg LCt
set_option maxRecDepth 100000
set_option maxHeartbeats 8000000
section
local macro_rules | `(tactic| walk_at "exec Assign cons ListComp") => `(tactic| (k_here; refine stop_of ?_))
local macro_rules | `(tactic| walk_at "call ref") => `(tactic| (k_here; (with_reducible show wpAny _ _ (call (Value.ref 76) _) _ _ _); k_dflt (refine' Tel.use (word2 _ _ _ _ _ _ ?a1 ?a2 ?a3 ?a4) ?k1 ?k2 ?k3 ?k4 ?k5 ?k6 ?kp ?k7 ?k8 ?_; walk_at "MyK"; (case kp => kmk_list); (case a1 => assumption); (case a2 => omega); (case a3 => omega); (case a4 => omega)); intro v9 h9 tk9 tl9 F9 N9 ne9 p9; obtain ⟨e9, q9, t9, e8, w9, z9⟩ := p9; subst e9; subst e8; simp only [List.nil_append] at N9; clear ne9; (try k_sweep)))
local macro_rules | `(tactic| walk_at "exec For Name Name cons nil") => `(tactic| ((with_reducible show wpAny _ _ (exec (Stmt.For (Expr.Name (Str.ofString "inner") _) _ _ _ _) _) _ _ _); walk_at "MyForT"))
local macro_rules | `(tactic| walk_at "exec For Name Name cons nil") => `(tactic| ((with_reducible show wpAny _ _ (exec (Stmt.For (Expr.Name (Str.ofString "outer") _) _ _ _ _) _) _ _ _); walk_at "MyFor"))
noncomputable def innerJ (p : List Nat) (wd : Nat → List Nat) (Wd Sx R : Addr) (ta : Tok) (rest : Nws) (CI : Addr) (j : Nat) (m : Str → Option Value) (nx : Nws) : Prop :=
  ∃ ys n oI vI, IntsAre ys ((List.range j).map fun k => ((sk (wd k) p : Nat) : Int)) ∧ oI.data = .cell vI ∧ nx = (R, W.listOf ys.toArray n) :: (CI, oI) :: rest ∧
    Kn m [(Str.ofString "words", Value.ref Wd), (Str.ofString "struck", .ref Sx), (Str.ofString "outer", .str (S p) ta)]
noncomputable def wd3 (p0 p1 p2 : List Nat) (j : Nat) : List Nat := [p0, p1, p2].getD j []
theorem wd3_at {p0 p1 p2 : List Nat} {t0 t1 t2 : Tok} {j : Nat} {v : Value} (h : [Value.str (S p0) t0, .str (S p1) t1, .str (S p2) t2].toArray[j]? = some v) : j < 3 ∧ ∃ u, v = .str (S (wd3 p0 p1 p2 j)) u := by
  match j, h with
  | 0, h => cases h; exact ⟨by decide, t0, rfl⟩
  | 1, h => cases h; exact ⟨by decide, t1, rfl⟩
  | 2, h => cases h; exact ⟨by decide, t2, rfl⟩
  | j + 3, h => simp at h
theorem wd3_word {p0 p1 p2 : List Nat} (h0 : Word p0) (h1 : Word p1) (h2 : Word p2) (j : Nat) (hj : j < 3) : Word (wd3 p0 p1 p2 j) := by
  match j, hj with
  | 0, _ => exact h0
  | 1, _ => exact h1
  | 2, _ => exact h2
theorem ints3 {ys : List Value} {f : Nat → Int} (h : IntsAre ys ((List.range 3).map f)) : ∃ a b c, ys = [.int (f 0) a, .int (f 1) b, .int (f 2) c] := by
  have e : (List.range 3).map f = [f 0, f 1, f 2] := rfl
  rw [e] at h
  cases h with
  | cons y a h => cases h with
    | cons y b h => cases h with
      | cons y c h => cases h; exact ⟨a, b, c, rfl⟩
theorem news_mv2 {h₀ h : Heap} {L : Addr} {a b c e : Addr × Obj} {f : Nws} (N : News h₀ L h (a :: b :: c :: e :: f)) : News h₀ L h (a :: e :: b :: c :: f) := fun p hp => N p (by
  simp only [List.mem_cons] at hp ⊢
  rcases hp with h | h | h | h | h <;> simp [h])
theorem piece_asc {a b p : List Nat} (h : p ∈ pieces b a) (ha : Word a) : asc p := (piece_ok ha h).1.asc
theorem piece_len {a b p : List Nat} (h : p ∈ pieces b a) (ha : Word a) : p.length ≤ 1000 := Nat.le_trans (piece_ok ha h).1.2 (by decide)
theorem piece_in {a b p : List Nat} (h : p ∈ pieces b a) (ha : Word a) : (Builtin.Str.occurrences (S (b.map lo)) (S (p.map lo)) 0 (S (b.map lo)).length 1).isEmpty = false := by
  rw [occ_S, decide_eq_true (piece_ok ha h).2]; rfl
noncomputable def AllNe (d : Nat) : Nws → Prop
  | [] => True
  | p :: r => @Ne Nat p.1 d ∧ AllNe d r
theorem allNe_of {d : Addr} : ∀ {l : Nws}, (∀ q ∈ l, q.1 ≠ d) → AllNe d l
  | [], _ => trivial
  | p :: _, h => ⟨h p (.head _), allNe_of fun q hq => h q (.tail _ hq)⟩
theorem inner3 {ys : List Value} {p p0 p1 p2 : List Nat} (h : IntsAre ys ((List.range 3).map fun k => ((sk (wd3 p0 p1 p2 k) p : Nat) : Int))) : ∃ a b c, ys = [.int (sk p0 p : Nat) a, .int (sk p1 p : Nat) b, .int (sk p2 p : Nat) c] := ints3 h
theorem sk_mul {prog : Program} {w : World} {A : Around} {E : Value → Shared → Prop} {s : Shared} {a b c : List Nat} {t u : Tok} {Q : Value → Shared → Prop} (ha : Word a)
    (h : ∀ x : Int, ((sk c a : Nat) : Int) + 1 ≤ x → Q (.int x s.toks) { s with toks := s.toks + 1 }) :
    wpAny (model prog w) A (binaryOp .Mult (.int (((sk b a : Nat) : Int) + 1) t) (.int (((sk c b : Nat) : Int) + 1) u)) Q E s := by
  refine PyProof.Rows.mul_int (h _ ?_) (IntMulOk.of_left ?_)
  · have := sk_no a c b
    exact Int.not_lt.mp fun q => this q
  · exact (by decide +kernel : ∀ n, n < 6 → Builtin.Int.intBits (((n : Nat) : Int) + 1) ≤ 64) _ (Nat.lt_succ_of_le (sk_le a b ha))
/-- the row of a word: what is struck out of it beside each word -/
noncomputable def Row (NW : Nws) (p0 p1 p2 : List Nat) (R : Addr) (q : List Nat) : Prop := ∃ a b c n, (R, W.listOf [Value.int (sk p0 q : Nat) a, .int (sk p1 q : Nat) b, .int (sk p2 q : Nat) c].toArray n) ∈ NW
/-- the table -/
structure Tab (NW : Nws) (Sx : Addr) (p0 p1 p2 : List Nat) : Prop where
  rows : ∃ R0 R1 R2 n, (Sx, W.listOf [Value.ref R0, .ref R1, .ref R2].toArray n) ∈ NW ∧ Row NW p0 p1 p2 R0 p0 ∧ Row NW p0 p1 p2 R1 p1 ∧ Row NW p0 p1 p2 R2 p2
theorem tab_pack {h₀ h : Heap} {L : Addr} {NW : Nws} {Sx R0 R1 R2 : Addr} {n n0 n1 n2 : Nat} {p0 p1 p2 : List Nat} {a0 b0 c0 a1 b1 c1 a2 b2 c2 : Tok} (_N : News h₀ L h NW)
    (hS : (Sx, W.listOf [Value.ref R0, .ref R1, .ref R2].toArray n) ∈ NW)
    (r0 : (R0, W.listOf [Value.int (sk p0 p0 : Nat) a0, .int (sk p1 p0 : Nat) b0, .int (sk p2 p0 : Nat) c0].toArray n0) ∈ NW)
    (r1 : (R1, W.listOf [Value.int (sk p0 p1 : Nat) a1, .int (sk p1 p1 : Nat) b1, .int (sk p2 p1 : Nat) c1].toArray n1) ∈ NW)
    (r2 : (R2, W.listOf [Value.int (sk p0 p2 : Nat) a2, .int (sk p1 p2 : Nat) b2, .int (sk p2 p2 : Nat) c2].toArray n2) ∈ NW) : Tab NW Sx p0 p1 p2 :=
  ⟨R0, R1, R2, n, hS, ⟨_, _, _, _, r0⟩, ⟨_, _, _, _, r1⟩, ⟨_, _, _, _, r2⟩⟩
theorem Tab.item {prog : Program} {w : World} {A : Around} {E : Value → Shared → Prop} {s : Shared} {h₀ : Heap} {L : Addr} {NW own : Nws} {Sx : Addr} {p0 p1 p2 : List Nat} {value slice : PySem.Expr} {k : Int} {u : Tok} {i : Nat} {Q : Value → Shared → Prop} (T : Tab NW Sx p0 p1 p2) (N : News h₀ L s.heap (NW ++ own)) (hk : k = (i : Int)) (hi : i < 3)
    (h : ∀ R, Row NW p0 p1 p2 R (wd3 p0 p1 p2 i) → Q (.ref R) s)
    (hb : subscripted slice false (.ref Sx) (.int k u) = operate [.ref Sx, .int k u] (getItem (.ref Sx) (.int k u))) :
    wpAny (model prog w) A (subscriptTail value slice (.ref Sx) (.int k u)) Q E s := by
  subst hk
  obtain ⟨R0, R1, R2, n, hS, r0, r1, r2⟩ := T.rows
  have hm := List.mem_append.mpr (.inl (b := (Sx, W.listOf [Value.ref R0, .ref R1, .ref R2].toArray n) ∈ own) hS)
  match i, hi with
  | 0, _ => exact item_at N hm rfl (by decide) (h R0 r0) hb
  | 1, _ => exact item_at N hm rfl (by decide) (h R1 r1) hb
  | 2, _ => exact item_at N hm rfl (by decide) (h R2 r2) hb
theorem Row.item {prog : Program} {w : World} {A : Around} {E : Value → Shared → Prop} {s : Shared} {h₀ : Heap} {L : Addr} {NW own : Nws} {R : Addr} {q p0 p1 p2 : List Nat} {value slice : PySem.Expr} {k : Int} {u : Tok} {i : Nat} {Q : Value → Shared → Prop} (T : Row NW p0 p1 p2 R q) (N : News h₀ L s.heap (NW ++ own)) (hk : k = (i : Int)) (hi : i < 3)
    (h : ∀ t, Q (.int (sk (wd3 p0 p1 p2 i) q : Nat) t) s)
    (hb : subscripted slice false (.ref R) (.int k u) = operate [.ref R, .int k u] (getItem (.ref R) (.int k u))) :
    wpAny (model prog w) A (subscriptTail value slice (.ref R) (.int k u)) Q E s := by
  subst hk
  obtain ⟨a, b, c, n, hS⟩ := T
  have hm := List.mem_append.mpr (.inl (b := (R, W.listOf [Value.int (sk p0 q : Nat) a, .int (sk p1 q : Nat) b, .int (sk p2 q : Nat) c].toArray n) ∈ own) hS)
  match i, hi with
  | 0, _ => exact item_at N hm rfl (by decide) (h _) hb
  | 1, _ => exact item_at N hm rfl (by decide) (h _) hb
  | 2, _ => exact item_at N hm rfl (by decide) (h _) hb
/-- between the turns of the three loops -/
noncomputable def triJ (NW own : Nws) (Wd Sx : Addr) (p0 p1 p2 : List Nat) (ps : List (Str × Value)) (_ : Nat) (m : Str → Option Value) (nx : Nws) : Prop :=
  Tab NW Sx p0 p1 p2 ∧ nx = NW ++ own ∧ Kn m ((Str.ofString "words", Value.ref Wd) :: (Str.ofString "struck", .ref Sx) :: ps)
theorem tab_cont {h₀ h : Heap} {L : Addr} {NW : Nws} {Sx R0 R1 R2 : Addr} {n n0 n1 n2 : Nat} {p0 p1 p2 : List Nat} {a0 b0 c0 a1 b1 c1 a2 b2 c2 : Tok} {P : Prop} (N : News h₀ L h NW)
    (hS : (Sx, W.listOf [Value.ref R0, .ref R1, .ref R2].toArray n) ∈ NW)
    (r0 : (R0, W.listOf [Value.int (sk p0 p0 : Nat) a0, .int (sk p1 p0 : Nat) b0, .int (sk p2 p0 : Nat) c0].toArray n0) ∈ NW)
    (r1 : (R1, W.listOf [Value.int (sk p0 p1 : Nat) a1, .int (sk p1 p1 : Nat) b1, .int (sk p2 p1 : Nat) c1].toArray n1) ∈ NW)
    (r2 : (R2, W.listOf [Value.int (sk p0 p2 : Nat) a2, .int (sk p1 p2 : Nat) b2, .int (sk p2 p2 : Nat) c2].toArray n2) ∈ NW) (k : Tab NW Sx p0 p1 p2 → P) : P := k (tab_pack N hS r0 r1 r2)
theorem ne_same {prog : Program} {w : World} {A : Around} {E : Value → Shared → Prop} {s : Shared} {x : Int} {t u : Tok} {Q : Value → Shared → Prop} (h : Q (.bool false) s) :
    wpAny (model prog w) A (compareOp .NotEq (.int x t) (.int x u)) Q E s := PyProof.Rows.ne_int (by
  have e : (x != x) = false := by simp
  rw [e]; exact h)
local macro_rules | `(tactic| walk_at "call ref") => `(tactic| (k_here; (with_reducible show wpAny _ _ (call (Value.ref 81) _) _ _ _); k_dflt (refine' Tel.use (pieces2 _ _ _ _ _ ?a1 ?a2) ?k1 ?k2 ?k3 ?k4 ?k5 ?k6 trivial ?k7 ?k8 ?_; walk_at "MyK"; walk_at "MyA"); intro v9 h9 tk9 tl9 F9 N9 ne9 p9; obtain ⟨D9, ys9, n9, e9, q9, z9⟩ := p9; subst e9; subst q9; simp only [List.cons_append, List.nil_append] at N9; simp only [List.mem_singleton, forall_eq] at ne9; replace ne9 := allNe_of ne9; simp only [AllNe, and_true] at ne9; (try k_sweep)))
local macro_rules | `(tactic| walk_at "TextsIn") => `(tactic| (refine' ⟨_, _, ?m, ?a⟩; (case m => k_mem); (case a => assumption)))
local macro_rules | `(tactic| walk_at "call builtin:str.lower") => `(tactic| (k_here; refine lower_S (by first | assumption | exact piece_asc (by assumption) (by assumption)) (by first | assumption | exact piece_len (by assumption) (by assumption)) ?_; intro _))
local macro_rules | `(tactic| walk_at "call builtin:len") => `(tactic| (k_here; (with_reducible show wpAny _ _ (call (Value.builtin "len") [Value.ref _]) _ _ _); k_dflt (refine' len_L ?N ?m ?l ?_; (case N => k_asm); (case m => k_mem); (case l => first | assumption | omega)); intro _ _))
local macro_rules | `(tactic| walk_at "subscriptTail") => `(tactic| (k_here; (with_reducible show wpAny _ _ (subscriptTail _ _ (Value.ref _) (Value.int (-1) _)) _ _ _); k_dflt (refine' item_last ?N ?hm ?hv ?_ ?hb; (case N => k_asm); (case hm => k_mem); (case hv => exact List.getLast?_concat); (case hb => with_unfolding_all rfl))))
local macro_rules | `(tactic| walk_at "binaryOp Mult int int") => `(tactic| (k_here; (with_reducible show wpAny _ _ (binaryOp _ (Value.int (Nat.cast (sk _ _) + 1) _) (Value.int (Nat.cast (sk _ _) + 1) _)) _ _ _); k_dflt (refine' sk_mul ?w ?_; (case w => assumption)); intro _ _))
local macro_rules | `(tactic| walk_at "call ref") => `(tactic| (k_here; (with_reducible show wpAny _ _ (call (Value.ref 86) _) _ _ _); k_dflt (refine' Tel.use (foreign2 _ _ _ _ _ ?a1 ?a2) ?k1 ?k2 ?k3 ?k4 ?k5 ?k6 trivial ?k7 ?k8 ?_; walk_at "MyK"; walk_at "MyA"); walk_at "MyV"))
local macro_rules | `(tactic| walk_at "call ref") => `(tactic| (k_here; (with_reducible show wpAny _ _ (call (Value.ref 103) _) _ _ _); k_dflt (refine' Tel.use (price2 _ _ _ _ _ ?a1 ?a2) ?k1 ?k2 ?k3 ?k4 ?k5 ?k6 trivial ?k7 ?k8 ?_; walk_at "MyK"; walk_at "MyA"); walk_at "MyV"))
local macro_rules | `(tactic| walk_at "call ref") => `(tactic| (k_here; (with_reducible show wpAny _ _ (call (Value.ref 91) _) _ _ _); k_dflt (refine' Tel.use (dots2 _ _ _ _ _ ?a1 ?a2) ?k1 ?k2 ?k3 ?k4 ?k5 ?k6 trivial ?k7 ?k8 ?_; walk_at "MyK"; walk_at "MyA"); walk_at "MyV"))
local macro_rules | `(tactic| walk_at "call ref") => `(tactic| (k_here; (with_reducible show wpAny _ _ (call (Value.ref 98) _) _ _ _); k_dflt (refine' Tel.use (holes2 _ _ _ _ _ ?a1 ?a2 ?a3) ?k1 ?k2 ?k3 ?k4 ?k5 ?k6 trivial ?k7 ?k8 ?_; walk_at "MyK"; walk_at "MyA"; (case a3 => assumption)); walk_at "MyV"))
local macro_rules | `(tactic| walk_at "call ref") => `(tactic| (k_here; (with_reducible show wpAny _ _ (call (Value.ref 71) _) _ _ _); k_dflt (refine' Tel.use (lev2 _ _ _ _ _ _ _ ?a1 ?a2 ?a3 ?a4) ?k1 ?k2 ?k3 ?k4 ?k5 ?k6 trivial ?k7 ?k8 ?_; walk_at "MyK"; walk_at "MyA"; (case a3 => first | exact Hid.out (by assumption) | omega); (case a4 => first | exact Hid.out (by assumption) | omega)); walk_at "MyV"))
local macro_rules | `(tactic| walk_at "subscriptTail") => `(tactic| (k_here; (with_reducible show wpAny _ _ (subscriptTail _ _ (Value.ref _) (Value.int (0 + Nat.cast _) _)) _ _ _); k_dflt (refine' Tab.item ?T ?N ?e ?i ?_ ?hb; (case T => assumption); (case N => k_asm); (case e => exact Int.zero_add _); (case i => assumption); (case hb => with_unfolding_all rfl)); intro _ _))
local macro_rules | `(tactic| walk_at "subscriptTail") => `(tactic| (k_here; (with_reducible show wpAny _ _ (subscriptTail _ _ (Value.ref _) (Value.int (0 + Nat.cast _) _)) _ _ _); k_dflt (refine' Row.item ?T ?N ?e ?i ?_ ?hb; (case T => assumption); (case N => k_asm); (case e => exact Int.zero_add _); (case i => assumption); (case hb => with_unfolding_all rfl)); intro _))
local macro_rules | `(tactic| walk_at "compareOp NotEq int int") => `(tactic| with_reducible refine ne_same ?_)
theorem len3 {α : Type} : ∀ {l : List α}, l.length = 3 → ∃ a b c, l = [a, b, c]
  | [a, b, c], _ => ⟨a, b, c, rfl⟩
structure RowsAt (p0 p1 p2 : List Nat) (i : Nat) (rs : Nws) (refs : List Value) : Prop where
  len : rs.length = i
  refs : refs = rs.map fun p => Value.ref p.1
  row : ∀ k p, rs[k]? = some p → ∃ a b c n, p.2 = W.listOf [Value.int (sk p0 (wd3 p0 p1 p2 k) : Nat) a, .int (sk p1 (wd3 p0 p1 p2 k) : Nat) b, .int (sk p2 (wd3 p0 p1 p2 k) : Nat) c].toArray n
theorem RowsAt.snoc {p0 p1 p2 p : List Nat} {i : Nat} {rs : Nws} {refs : List Value} (h : RowsAt p0 p1 p2 i rs refs) (hp : wd3 p0 p1 p2 i = p) (R : Addr) (a b c : Tok) (n : Nat) :
    RowsAt p0 p1 p2 (i + 1) (rs ++ [(R, W.listOf [Value.int (sk p0 p : Nat) a, .int (sk p1 p : Nat) b, .int (sk p2 p : Nat) c].toArray n)]) (refs ++ [.ref R]) := by
  subst hp
  refine ⟨by rw [List.length_append, h.len]; rfl, by rw [h.refs, List.map_append]; rfl, fun k q hq => ?_⟩
  by_cases hk : k < rs.length
  · exact h.row k q (by rwa [List.getElem?_append_left hk] at hq)
  · have hk := Nat.not_lt.mp hk
    rw [List.getElem?_append_right hk] at hq
    obtain ⟨d, rfl⟩ := Nat.exists_eq_add_of_le hk
    rw [Nat.add_sub_cancel_left] at hq
    cases d with
    | zero => cases hq; rw [Nat.add_zero, h.len]; exact ⟨a, b, c, n, rfl⟩
    | succ d => cases hq
theorem RowsAt.three {p0 p1 p2 : List Nat} {rs : Nws} {refs : List Value} (h : RowsAt p0 p1 p2 3 rs refs) : ∃ R0 R1 R2 a0 b0 c0 n0 a1 b1 c1 n1 a2 b2 c2 n2, refs = [Value.ref R0, .ref R1, .ref R2] ∧
    rs = [(R0, W.listOf [Value.int (sk p0 p0 : Nat) a0, .int (sk p1 p0 : Nat) b0, .int (sk p2 p0 : Nat) c0].toArray n0), (R1, W.listOf [Value.int (sk p0 p1 : Nat) a1, .int (sk p1 p1 : Nat) b1, .int (sk p2 p1 : Nat) c1].toArray n1), (R2, W.listOf [Value.int (sk p0 p2 : Nat) a2, .int (sk p1 p2 : Nat) b2, .int (sk p2 p2 : Nat) c2].toArray n2)] := by
  obtain ⟨hl, hr, h⟩ := h
  obtain ⟨⟨R0, o0⟩, ⟨R1, o1⟩, ⟨R2, o2⟩, rfl⟩ : ∃ a b c, rs = [a, b, c] := len3 hl
  obtain ⟨a0, b0, c0, n0, e0⟩ := h 0 _ rfl
  obtain ⟨a1, b1, c1, n1, e1⟩ := h 1 _ rfl
  obtain ⟨a2, b2, c2, n2, e2⟩ := h 2 _ rfl
  have e0 : o0 = _ := e0
  have e1 : o1 = _ := e1
  have e2 : o2 = _ := e2
  subst e0 e1 e2
  exact ⟨R0, R1, R2, a0, b0, c0, n0, a1, b1, c1, n1, a2, b2, c2, n2, hr, rfl⟩
noncomputable def outJ (p0 p1 p2 : List Nat) (ws oS : Obj) (Wd Sx CI CS : Addr) (i : Nat) (m : Str → Option Value) (nx : Nws) : Prop :=
  ∃ rs refs nS oI vI, RowsAt p0 p1 p2 i rs refs ∧ OwnOff rs [Sx, Wd, CI, CS] ∧ oI.data = .cell vI ∧ nx = (Sx, W.listOf refs.toArray nS) :: (Wd, ws) :: (CI, oI) :: (CS, oS) :: rs ∧
    Kn m [(Str.ofString "words", Value.ref Wd), (Str.ofString "struck", .ref Sx)]
theorem out_sub {R I a b c d : Addr × Obj} {rs : Nws} : ∀ p ∈ c :: d :: b :: a :: (rs ++ [R]), p ∈ R :: b :: c :: d :: a :: (rs ++ [I]) := fun p hp => by
  simp only [List.mem_cons, List.mem_append, List.not_mem_nil, or_false] at hp ⊢
  rcases hp with h | h | h | h | h | h <;> simp [h]
theorem out_own {R I a b c d : Addr × Obj} {rs : Nws} : ∀ p ∈ [I], p ∈ R :: b :: c :: d :: a :: (rs ++ [I]) := fun p hp => by
  rw [List.mem_singleton.mp hp]; simp
theorem off_out {p : Addr × Obj} {R a b c d : Addr} {rs : Nws} {o : Obj} (h : OwnOff [p] (a :: b :: c :: d :: rs.map (·.1))) (hR : p.1 < R) : OwnOff [p] (a :: b :: c :: d :: (rs ++ [(R, o)]).map (·.1)) := fun q hq x hx => by
  simp only [List.map_append, List.map_cons, List.map_nil, List.mem_cons, List.mem_append, List.not_mem_nil, or_false] at hx
  rcases hx with hx | hx | hx | hx | hx | hx
  · exact h q hq x (by simp [hx])
  · exact h q hq x (by simp [hx])
  · exact h q hq x (by simp [hx])
  · exact h q hq x (by simp [hx])
  · exact h q hq x (by simp only [List.mem_cons]; simp [hx])
  · rw [List.mem_singleton.mp hq, hx]; exact Nat.ne_of_lt hR
theorem off_snoc {rs : Nws} {R a b c d : Addr} {o : Obj} (h : OwnOff rs [a, b, c, d]) (ha : a < R) (hb : b < R) (hc : c < R) (hd : d < R) : OwnOff (rs ++ [(R, o)]) [a, b, c, d] := fun q hq x hx => by
  rcases List.mem_append.mp hq with hq | hq
  · exact h q hq x hx
  · rw [List.mem_singleton.mp hq]
    simp only [List.mem_cons, List.not_mem_nil, or_false] at hx
    rcases hx with rfl | rfl | rfl | rfl
    · exact Nat.ne_of_gt ha
    · exact Nat.ne_of_gt hb
    · exact Nat.ne_of_gt hc
    · exact Nat.ne_of_gt hd
theorem lt_last {R : Addr} {rs : Nws} {p : Addr × Obj} (h : AllLt R (rs ++ [p])) : p.1 < R := by
  induction rs with
  | nil => exact h.1
  | cons q r ih => exact ih h.2
theorem own_nil {l : List Addr} : OwnOff [] l := fun p hp => by cases hp
theorem rows_nil {p0 p1 p2 : List Nat} : RowsAt p0 p1 p2 0 [] [] := ⟨rfl, rfl, fun k p h => by cases h⟩
theorem fin : PySem.Challenge.rw_xg0054_01.Holds := hd (by
  w_top off
  k_go0
  all_goals try k_fold
  (try k_fold)
  k_steps
  unfold Stop
  refine assign_comp_R 3 (by decide) (fun i y => ∃ p t, y = Value.str (S p) t ∧ Word p ∧ p ≠ []) (by assumption) rfl (by with_unfolding_all rfl) (by with_unfolding_all rfl) (by decide) rfl (by decide) rfl rfl rfl rfl ?_
  (try k_fold)
  k_steps
  · assumption
  · assumption
  · unfold Stop
    rename _ = 3 => hl
    rename ∀ (j : Nat) (y : Value), _ → _ => hr
    rename Off1 _ _ => o1
    rename List Value => ys
    obtain ⟨y0, y1, y2, rfl⟩ : ∃ y0 y1 y2, ys = [y0, y1, y2] := by
      match ys, hl with
      | [a, b, c], _ => exact ⟨a, b, c, rfl⟩
    obtain ⟨p0, t0, rfl, w0, n0⟩ := hr 0 _ rfl
    obtain ⟨p1, t1, rfl, w1, n1⟩ := hr 1 _ rfl
    obtain ⟨p2, t2, rfl, w2, n2⟩ := hr 2 _ rfl
    clear hr hl
    simp only [Off1, and_true] at o1
    (try dsimp only)
    (try k_fold)
    (try k_fold)
    k_steps
    rename Fr _ _ _ _ => F1
    rename News _ _ _ _ => N1
    unfold Stop
    refine loop_list (items := [Value.str (S p0) t0, .str (S p1) t1, .str (S p2) t2].toArray) (n := 3) (outJ p0 p1 p2 _ _ _ _ _ _) rfl ?haxO F1 N1 ⟨[], [], _, _, _, rows_nil, own_nil, by assumption, rfl, rfl, rfl, trivial⟩ ?turnO ?doneO
    · rintro i m nx ⟨rs, refs, nS, oI, vI, hR, hof, hI, rfl, hk⟩
      k_mem
    · intro i v m₁ nx h tk I oI1 hv off hJ F2 N2
      obtain ⟨hi, u, rfl⟩ := wd3_at hv
      obtain ⟨rs, refs, nS, oI, vI, hR, hof, hI, rfl, hk⟩ := hJ
      rw [frm_self hk] at F2
      clear hk F1 N1 hv
      have wp := wd3_word w0 w1 w2 i hi
      generalize hp : wd3 p0 p1 p2 i = p at wp F2
      change Fr _ _ h _ at F2
      change News _ _ h _ at N2
      simp only [List.cons_append] at N2
      simp only [List.map_cons] at off
      have offO := off_join hof (off_sub off (fun x hx => by simp at hx ⊢; rcases hx with h | h | h | h <;> simp [h]))
      have hrl : refs.length ≤ 1000 := by rw [hR.refs, List.length_map, hR.len]; exact Nat.le_trans (Nat.le_of_lt hi) (by decide)
      generalize hown : rs ++ [(I, oI1)] = own at N2 offO
      (try dsimp only)
      (try k_fold)
      k_steps
      rename Fr _ _ _ _ => F1
      rename News _ _ _ _ => N1
      rename _ < _ ∧ _ < _ ∧ _ < _ ∧ _ < _ ∧ AllLt _ _ => hlt
      unfold Stop
      refine loopT_list (items := [Value.str (S p0) t0, .str (S p1) t1, .str (S p2) t2].toArray) (n := 3) (innerJ p (wd3 p0 p1 p2) _ _ _ _ _ _) rfl ?haxI F1 (news_mv2 N1) ⟨[], _, _, _, .nil, by assumption, rfl, rfl, rfl, rfl, trivial⟩ ?turnI ?doneI
      · rintro i m nx ⟨ys, n, oI, vI, hys, hI, rfl, hk⟩
        k_mem
      · intro j v m₂ nx2 s₂ I2 oI2 hv2 off2 hJ2 F3 N3
        obtain ⟨hj, u2, rfl⟩ := wd3_at hv2
        obtain ⟨ys, n, oI, vI, hys, hI2, rfl, hk2⟩ := hJ2
        rw [frm_self hk2] at F3
        clear hk2 F1 N1 hv2 hI hown off hof hR hrl hi
        have wq := wd3_word w0 w1 w2 j hj
        generalize hq : wd3 p0 p1 p2 j = q at wq F3
        simp only [List.cons_append] at N3
        simp only [List.map_cons] at off2
        change News _ _ s₂.heap _ at N3
        have offB := off_join (off_cons (offLt hlt.2.2.2.2) offO) (off_sub off2 (fun x hx => by simp at hx ⊢; rcases hx with h | h | h | h | h <;> simp [h]))
        have hpl : (pieces q p).length ≤ 10 := by have := pieces_len2 q p; have := sk_le p q wp; omega
        have aq : asc q := wq.asc
        have lq : q.length ≤ 1000 := Nat.le_trans wq.2 (by decide)
        (try k_fold)
        k_steps
        unfold Stop
        refine comp_none (pieces q p) (Nat.le_trans hpl (by decide)) (by assumption) rfl (by decide) rfl (by decide) rfl rfl ?_
        (try k_fold)
        k_steps
        · rw [piece_in (by assumption) wp]; rfl
        · trivial
        · unfold Stop
          rename StrsAre _ _ => hz
          rename Off1 _ _ => o9
          simp only [Off1, and_true] at o9
          have hl9 := hz.length
          rw [List.length_map, pieces_len2] at hl9
          have hs5 := sk_le p q wp
          have lys : ys.length ≤ 1000 := by have := hys.length; simp at this; omega
          (try dsimp only)
          (try k_fold)
          k_steps
          refine ⟨rfl, InvEndG.intro (news' := _ ++ [(I2, oI2)]) (by assumption) (news_tl (news_tl (news_tl (by assumption)))) ⟨_, _, _, _, ints_range hys ?_, by assumption, rfl, rfl, rfl, rfl, trivial⟩ off2 (fun p hp => List.mem_append.mpr (.inl hp)) (fun p hp => List.mem_append.mpr (.inr hp))⟩
          rw [hq, hl9]; omega
      · intro m₂ nx2 h2 tk2 hJ2 F3 N3
        obtain ⟨ys, nn, oI2, vI2, hys, hI2, rfl, hk2⟩ := hJ2
        obtain ⟨a, b, c, rfl⟩ := inner3 hys
        rw [frm_self hk2] at F3
        clear hk2 F1 N1 hys
        change News _ _ h2 _ at N3
        (try dsimp only)
        (try k_fold)
        k_steps
        subst hown
        refine InvEndG.intro (by assumption) (by assumption) ⟨_, _, _, _, _, hR.snoc hp _ _ _ _ _, off_snoc hof hlt.1 hlt.2.1 hlt.2.2.1 hlt.2.2.2.1, hI2, rfl, rfl, rfl, trivial⟩ (off_out off (lt_last hlt.2.2.2.2)) out_sub out_own
    · intro m₁ nx h tk hJ F2 N2
      obtain ⟨rs, refs, nS, oI, vI, hR, hof, hI, rfl, hk⟩ := hJ
      obtain ⟨R0, R1, R2, a0, b0, c0, nn0, a1, b1, c1, nn1, a2, b2, c2, nn2, rfl, rfl⟩ := RowsAt.three hR
      rw [frm_self hk] at F2
      clear hk F1 N1 hof hI hR
      change Fr _ _ h _ at F2
      change News _ _ h _ at N2
      (try dsimp only)
      have as0 : asc p0 := w0.asc
      have as1 : asc p1 := w1.asc
      have ln0 : p0.length ≤ 1000 := Nat.le_trans w0.2 (by decide)
      have ln1 : p1.length ≤ 1000 := Nat.le_trans w1.2 (by decide)
      have hE01 : ED p0 p1 ≤ 10 := ED_ten w0 w1
      have hE12 : ED p1 p2 ≤ 10 := ED_ten w1 w2
      have hSd : sk p2 p1 ≤ dt p1 p2 := sk_dt n1
      have hdE : dt p1 p2 ≤ ED p1 p2 := dt_ED n1
      have hsE : 2 * sk p2 p1 ≤ ED p1 p2 := sk_ED p1 p2
      have hMx : ED p1 p2 ≤ 2 * max (S p1).length (S p2).length := by rw [S_len, S_len]; exact ED_max p1 p2
      have hMx2 : Hid (((ED p1 p2 : Nat) : Int) ≤ 2 * (if ((S p2).length : Int) > ((S p1).length : Int) then ((S p2).length : Int) else ((S p1).length : Int))) := Hid.mk (by split <;> omega)
      have lS1 : (S p1).length ≤ 5 := by rw [S_len]; exact w1.2
      have lS2 : (S p2).length ≤ 5 := by rw [S_len]; exact w2.2
      have hMx3 : Hid (2 * (if ((S p2).length : Int) > ((S p1).length : Int) then ((S p2).length : Int) else ((S p1).length : Int)) ≤ 1000) := Hid.mk (by split <;> omega)
      clear hMx
      (try k_fold)
      k_steps
      rename Fr _ _ _ _ => F1
      rename News _ _ _ _ => N1
      unfold Stop
      (try dsimp only)
      refine' tab_cont (p0 := p0) (p1 := p1) (p2 := p2) N1 ?ta ?tb ?tc ?td ?tk
      case ta => k_mem
      case tb => k_mem
      case tc => k_mem
      case td => k_mem
      case tk =>
        intro tab
        rename IsRange _ _ _ _ _ _ _ _ => hR1
        refine loop_range (n := 3) (triJ _ [] _ _ p0 p1 p2 []) rfl hR1 (by decide) (by decide) F1 N1 ⟨tab, (List.append_nil _).symm, rfl, rfl, trivial⟩ ?turnA ?doneA
        · intro i u m₁ nx h tk own1 hi1 off1 hJ F2 N2
          obtain ⟨tab1, rfl, hk⟩ := hJ
          rw [frm_self hk] at F2
          clear hk F1 N1 hR1
          change Fr _ _ h _ at F2
          change News _ _ h _ at N2
          simp only [List.append_nil, List.cons_append, List.nil_append] at N2
          have wI := wd3_word w0 w1 w2 i hi1
          (try k_fold)
          k_steps
          rename Fr _ _ _ _ => F1
          rename News _ _ _ _ => N1
          rename IsRange _ _ _ _ _ _ _ _ => hR1
          unfold Stop
          (try dsimp only)
          refine loop_range (n := 3) (triJ _ own1 _ _ p0 p1 p2 [(Str.ofString "first", .int (0 + (i : Int)) u)]) rfl hR1 (by decide) (by decide) F1 N1 ⟨tab1, rfl, rfl, rfl, rfl, trivial⟩ ?turnB ?doneB
          · intro j u2 m₂ nx2 h2 tk2 own2 hj1 off2 hJ2 F3 N3
            obtain ⟨tab2, rfl, hk2⟩ := hJ2
            rw [frm_self hk2] at F3
            clear hk2 F1 N1 hR1
            change Fr _ _ h2 _ at F3
            change News _ _ h2 _ at N3
            simp only [List.cons_append, List.nil_append] at N3
            have wJ := wd3_word w0 w1 w2 j hj1
            (try k_fold)
            k_steps
            rename Fr _ _ _ _ => F1
            rename News _ _ _ _ => N1
            rename IsRange _ _ _ _ _ _ _ _ => hR1
            unfold Stop
            (try dsimp only)
            refine loop_range (n := 3) (triJ _ (own1 ++ own2) _ _ p0 p1 p2 [(Str.ofString "first", .int (0 + (i : Int)) u), (Str.ofString "second", .int (0 + (j : Int)) u2)]) rfl hR1 (by decide) (by decide) F1 N1 ⟨tab2, rfl, rfl, rfl, rfl, rfl, trivial⟩ ?turnC ?doneC
            · intro k u3 m₃ nx3 h3 tk3 own3 hk1 off3 hJ3 F4 N4
              obtain ⟨tab3, rfl, hk3⟩ := hJ3
              rw [frm_self hk3] at F4
              clear hk3 F1 N1 hR1
              change Fr _ _ h3 _ at F4
              change News _ _ h3 _ at N4
              simp only [List.cons_append, List.nil_append] at N4
              (try k_fold)
              k_steps
              exact InvEndG.intro (news' := _ ++ own3) (by assumption) (by assumption) ⟨tab3, rfl, rfl, rfl, rfl, rfl, trivial⟩ off3 (fun p hp => List.mem_append.mpr (.inl hp)) (fun p hp => List.mem_append.mpr (.inr hp))
            · intro m₃ nx3 h3 tk3 hJ3 F4 N4
              obtain ⟨tab3, rfl, hk3⟩ := hJ3
              rw [frm_self hk3] at F4
              clear hk3 F1 N1 hR1
              change Fr _ _ h3 _ at F4
              change News _ _ h3 _ at N4
              simp only [List.cons_append, List.nil_append] at N4
              (try dsimp only)
              (try k_fold)
              k_steps
              exact InvEndG.intro (news' := _ ++ own2) (by assumption) (by assumption) ⟨tab3, rfl, rfl, rfl, rfl, trivial⟩ off2 (fun p hp => List.mem_append.mpr (.inl hp)) (fun p hp => List.mem_append.mpr (.inr hp))
          · intro m₂ nx2 h2 tk2 hJ2 F3 N3
            obtain ⟨tab2, rfl, hk2⟩ := hJ2
            rw [frm_self hk2] at F3
            clear hk2 F1 N1 hR1
            change Fr _ _ h2 _ at F3
            change News _ _ h2 _ at N3
            simp only [List.cons_append, List.nil_append] at N3
            (try dsimp only)
            (try k_fold)
            k_steps
            exact InvEndG.intro (news' := _ ++ own1) (by assumption) (by assumption) ⟨tab2, rfl, rfl, rfl, trivial⟩ off1 (fun p hp => List.mem_append.mpr (.inl hp)) (fun p hp => List.mem_append.mpr (.inr hp))
        · intro m₁ nx h tk hJ F2 N2
          obtain ⟨tab1, rfl, hk⟩ := hJ
          rw [frm_self hk] at F2
          clear hk F1 N1 hR1
          change Fr _ _ h _ at F2
          change News _ _ h _ at N2
          simp only [List.append_nil] at N2
          (try dsimp only)
          clear tab tab1
          revert F2 N2
          repeat (rename Fr _ _ _ _ => hh; clear hh)
          repeat (rename News _ _ _ _ => hh; clear hh)
          repeat (rename IsRange _ _ _ _ _ _ _ _ => hh; clear hh)
          repeat (rename @LT.lt Nat _ _ _ ∧ _ => hh; clear hh)
          repeat (rename @Ne Nat _ _ ∧ _ => hh; clear hh)
          repeat (rename _ = Data.cell _ => hh; clear hh)
          intro F2 N2
          k_steps)
end
end
end Mine
theorem PySem.Challenge.cw_xg0054_01_holds : PySem.Challenge.rw_xg0054_01.Holds := by
  exact Mine.fin
