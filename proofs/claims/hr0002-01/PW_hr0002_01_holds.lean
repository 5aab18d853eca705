import PyProof.Rows.All
import Wide.All
import OpenK.AllK
import Wide.FinOn
import KE.BitLaws
import KE.IntBitsLaws
import KE.KRevIter
import OpenK.KUnr
import PyProof.TupleKey
import PyProof.FactsAll.tuple_2
import PyProof.Rows.WhileGen
import KE.KListMore
import KE.LcTurns
import PyProof.Rows.SetFrom
import KE.KDictOf
import PySem.Challenge.RW_hr0002_01
set_option Elab.async false
set_option rowWalk.seconds 0
theorem Mine.reset0 : True := by
  w_top off
  first | walk1 | exact True.intro

section
open PySem PySem.W PyProof.Rows
set_option Elab.async false
namespace Mine
set_option maxRecDepth 100000 in
set_option maxHeartbeats 8000000 in
open_top hd for PySem.Challenge.rw_hr0002_01
end Mine
end

theorem Mine.reset1 : True := by
  w_top off
  first | walk1 | exact True.intro

section
namespace Mine
theorem room3 {x p b a c : Nat} (h : x + a < c) (hb : p + b ≤ a) : x + p + b < c := by omega
theorem room2 {x b a c : Nat} (h : x + a < c) (hb : b ≤ a) : x + b < c := Nat.lt_of_le_of_lt (Nat.add_le_add_left hb x) h
theorem ar_add {L M : Int} (hL : 0 ≤ L) (h : L ≤ M) : M.toNat = L.toNat + (M - L).toNat := by
  rw [← Int.toNat_add hL (Int.sub_nonneg.mpr h), Int.add_comm L, Int.sub_add_cancel]
theorem ar_cut {L M R : Int} (h : L ≤ M) (h2 : M ≤ R) : (R - L).toNat = (M - L).toNat + (R - M).toNat := by
  rw [← Int.toNat_add (Int.sub_nonneg.mpr h) (Int.sub_nonneg.mpr h2)]
  exact congrArg Int.toNat (by omega)
theorem ar_sub {i : Nat} {a : Int} (h : 0 ≤ a) : ((i : Int) - a).toNat = i - a.toNat := by
  obtain ⟨a, rfl⟩ := Int.eq_ofNat_of_zero_le h
  exact Int.toNat_sub i a
theorem ar_one (L : Int) : (L + 1 - L).toNat = 1 := by rw [Int.add_comm, Int.add_sub_cancel]; rfl
theorem ar_succ {L : Int} (h : 0 ≤ L) : (L + 1).toNat = L.toNat + 1 := Int.toNat_add h (by decide)
theorem ar_lt {x : Int} {n : Nat} (h : x < (n : Int)) (h0 : 0 ≤ x) : x.toNat < n := (Int.toNat_lt h0).mpr h
theorem mod_mem {x : Int} {n : Nat} (h : 0 < n) : x % (n : Int) ∈ (List.range n).map Int.ofNat := by
  have h0 : (0 : Int) < n := Int.ofNat_lt.mpr h
  exact List.mem_map.mpr ⟨(x % n).toNat, List.mem_range.mpr (ar_lt (Int.emod_lt_of_pos x h0) (Int.emod_nonneg x (Int.ne_of_gt h0))), Int.toNat_of_nonneg (Int.emod_nonneg x (Int.ne_of_gt h0))⟩
theorem two_of {c : Int} (h : 2 ≤ c) (h3 : c ≤ 3) : c = 2 ∨ c = 3 := by omega
theorem less_one {n i : Nat} (h : i < n) : n - (i + 1) < n - i := Nat.sub_lt_sub_left h (Nat.lt_succ_self i)
theorem upto12 {P : Int → Prop} {y : Int} (h : 1 ≤ y) (h2 : y ≤ 12) (hp : ∀ k : Fin 12, P (((k.val : Nat) : Int) + 1)) : P y := by
  obtain ⟨n, hn⟩ := Int.eq_ofNat_of_zero_le (Int.sub_nonneg.mpr h)
  have e : ((n : Nat) : Int) + 1 = y := by rw [← hn, Int.sub_add_cancel]
  rw [← e]
  exact hp ⟨n, by omega⟩
theorem le_cast {n c : Nat} {z : Int} (h : n ≤ c) (hz : (c : Int) ≤ z) : (n : Int) ≤ z := Int.le_trans (Int.ofNat_le.mpr h) hz
theorem lt_cast {n c : Nat} {z : Int} (h : n ≤ c) (hz : (c : Int) < z) : (n : Int) < z := Int.lt_of_le_of_lt (Int.ofNat_le.mpr h) hz
/-- the middle of two bounds -/
theorem mid_ge {a b : Int} (h : a < b) : a ≤ (a + b).fdiv 2 := by rw [Int.fdiv_eq_ediv_of_nonneg _ (by decide)]; omega
theorem mid_lt {a b : Int} (h : a < b) : (a + b).fdiv 2 < b := by rw [Int.fdiv_eq_ediv_of_nonneg _ (by decide)]; omega
theorem ar_less {a b c : Int} (h : a < b) (h2 : b ≤ c) : (c - b).toNat < (c - a).toNat := (Int.toNat_lt_toNat (by omega)).mpr (by omega)
theorem ar_less2 {a b c : Int} (h : a ≤ b) (h2 : b < c) : (b - a).toNat < (c - a).toNat := (Int.toNat_lt_toNat (by omega)).mpr (by omega)
end Mine
namespace Mine
theorem le_c {a b c : Nat} (h : a ≤ b := by with_reducible assumption) (hc : b ≤ c := by decide) : a ≤ c := Nat.le_trans h hc
theorem lt_c {a b c : Nat} (h : a ≤ b := by with_reducible assumption) (hc : b < c := by decide) : a < c := Nat.lt_of_le_of_lt h hc
theorem ltz_c {n c : Nat} {z : Int} (h : n ≤ c := by with_reducible assumption) (hz : (c : Int) < z := by decide) : (n : Int) < z := lt_cast h hz
theorem lez_c {n c : Nat} {z : Int} (h : n ≤ c := by with_reducible assumption) (hz : (c : Int) ≤ z := by decide) : (n : Int) ≤ z := le_cast h hz
theorem neS {a b : Nat} (h : b ≠ a) : a ≠ b := h.symm
theorem neL {a b : Nat} (h : a < b) : a ≠ b := Nat.ne_of_lt h
theorem neG {a b : Nat} (h : b < a) : a ≠ b := Nat.ne_of_gt h
theorem leL {a b : Nat} (h : a < b) : a ≤ b := Nat.le_of_lt h
theorem leS {a b : Nat} (h : a + 1 < b) : a ≤ b := Nat.le_of_lt (Nat.lt_of_succ_lt h)
theorem nn {n : Nat} : (0 : Int) ≤ (n : Int) := Int.natCast_nonneg n
theorem cj0 {p : Prop} (h : p) : p := h
theorem cj1 {p q : Prop} (h : p ∧ q) : p := h.1
theorem cj2 {a p q : Prop} (h : a ∧ p ∧ q) : p := h.2.1
theorem cj3 {a b p q : Prop} (h : a ∧ b ∧ p ∧ q) : p := h.2.2.1
theorem cj4 {a b c p q : Prop} (h : a ∧ b ∧ c ∧ p ∧ q) : p := h.2.2.2.1
theorem cj5 {a b c d p q : Prop} (h : a ∧ b ∧ c ∧ d ∧ p ∧ q) : p := h.2.2.2.2.1
theorem cj6 {a b c d e p q : Prop} (h : a ∧ b ∧ c ∧ d ∧ e ∧ p ∧ q) : p := h.2.2.2.2.2.1
theorem cj7 {a b c d e f p q : Prop} (h : a ∧ b ∧ c ∧ d ∧ e ∧ f ∧ p ∧ q) : p := h.2.2.2.2.2.2.1
theorem cj8 {a b c d e f g p q : Prop} (h : a ∧ b ∧ c ∧ d ∧ e ∧ f ∧ g ∧ p ∧ q) : p := h.2.2.2.2.2.2.2.1
theorem cj9 {a p : Prop} (h : a ∧ p) : p := h.2
theorem of1 {n : Nat} : n + 1 ≠ n := Nat.succ_ne_self n
theorem of2 {n : Nat} : n ≠ n + 1 := of1.symm
theorem of3 {n : Nat} : n + 1 + 1 ≠ n := fun h => absurd (Nat.add_left_cancel (n := n) (m := 2) (k := 0) h) (by decide)
theorem of4 {n : Nat} : n ≠ n + 1 + 1 := of3.symm
theorem of5 {n : Nat} : n + 1 + 1 + 1 ≠ n := fun h => absurd (Nat.add_left_cancel (n := n) (m := 3) (k := 0) h) (by decide)
theorem of6 {n : Nat} : n ≠ n + 1 + 1 + 1 := of5.symm
theorem ar_len {L M : Int} {n : Nat} (hL : 0 ≤ L) (h : L ≤ M) (h2 : M ≤ n) : min L.toNat n + (M - L).toNat + (n - M.toNat) = n := by
  have e := ar_add hL h
  rw [Nat.min_eq_left (Int.toNat_le.mpr (Int.le_trans h h2)), ← e]
  exact Nat.add_sub_cancel' (Int.toNat_le.mpr h2)
theorem midN (a b : Int) : (a + b).fdiv (2 ^ Int.toNat 1) = (a + b).fdiv 2 := rfl
theorem midN_ge {a b : Int} (h : a < b) : a ≤ (a + b).fdiv (2 ^ Int.toNat 1) := mid_ge h
theorem midN_lt {a b : Int} (h : a < b) : (a + b).fdiv (2 ^ Int.toNat 1) < b := mid_lt h
theorem midN_gt {a b : Int} (h : a < b) (h2 : a + 1 ≠ b) : a < (a + b).fdiv (2 ^ Int.toNat 1) := by rw [midN, Int.fdiv_eq_ediv_of_nonneg _ (by decide)]; omega
theorem midN_lo {a b : Int} {k : Nat} (h : a < b) (hk : b - a ≤ ((k + 1 : Nat) : Int)) : (a + b).fdiv (2 ^ Int.toNat 1) - a ≤ k := by
  have := midN_lt h
  omega
theorem midN_hi {a b : Int} {k : Nat} (h : a < b) (h2 : a + 1 ≠ b) (hk : b - a ≤ ((k + 1 : Nat) : Int)) : b - (a + b).fdiv (2 ^ Int.toNat 1) ≤ k := by
  have := midN_gt h h2
  omega
theorem mid_span {a m b : Int} {n : Nat} (h0 : 0 ≤ a) (hm : m ≤ b) (hb : b ≤ n) {c : Int} (hn : (n : Int) ≤ c) : m - a ≤ c := by omega
theorem rA (k : Nat) : 1 + (k + 2) ≤ k + 1 + 2 := by omega
theorem rB (k : Nat) : 3 + 8 * (k + 2) ≤ 8 * (k + 1 + 2) := by omega
end Mine
namespace Mine
theorem ar_mn {k i : Int} {n : Nat} (h0 : 0 ≤ i) (hk : i < k) (h : k ≤ n) : min k.toNat n - i.toNat = (k - i).toNat := by
  rw [Nat.min_eq_left (Int.toNat_le.mpr h)]
  obtain ⟨a, rfl⟩ := Int.eq_ofNat_of_zero_le h0
  obtain ⟨b, rfl⟩ := Int.eq_ofNat_of_zero_le (Int.le_trans h0 (Int.le_of_lt hk))
  exact (Int.toNat_sub b a).symm
theorem ar_kc {k c : Int} {n : Nat} (h : k ≤ c) (hn : (n : Int) = 2 * c - 1) (hc : 2 ≤ c) : k ≤ n := by omega
theorem ar_sum {s : Int} {l i n : Nat} (h : 0 ≤ s ∧ s ≤ l * 999) (h2 : l ≤ i) (hi : i < n + 1) (hn : (n : Int) ≤ 3) : 0 ≤ s ∧ s < 2 ^ 12 := by omega
end Mine
end

section
set_option compiler.extract_closed false
local macro_rules | `(tactic| omega) => do
  let f (n : Lean.Name) := Lean.mkIdent (`Mine ++ n)
  let c ← #[`cj0, `cj1, `cj2, `cj3, `cj4, `cj5, `cj6, `cj7, `cj8, `cj9].mapM fun n => `(tactic| exact $(f n) (by assumption))
  let a ← #[`neS, `neL, `neG, `leL, `leS].mapM fun n => `(tactic| (refine $(f n) ?_; first $[| $c:tactic]*))
  let b ← #[`of1, `of2, `of3, `of4, `of5, `of6, `le_c, `lt_c, `ltz_c, `lez_c].mapM fun n => `(tactic| exact $(f n))
  `(tactic| first | with_reducible assumption $[| with_reducible $a:tactic]* $[| $b:tactic]* | omega (config := {}))

theorem Mine.reset2 : True := by
  w_top off
  first | walk1 | exact True.intro

section
open PySem PySem.W PyProof.Rows PySem.Calls PySem.Spec
set_option Elab.async false
namespace Mine
noncomputable abbrev LO0 : List Str := looseW hd.view_39 [Str.ofString "insort_left", Str.ofString "bisect_left"]
noncomputable abbrev LO : List Str := LO0 ++ (recsOf hd.view_39).map (·.name) ++ (litsOf hd.view_39).map (·.1) ++ (clssOf hd.view_39 LO0).map (·.name)

/-- what a frame's ground keeps of the heap ahead of the call -/
structure Ent (H g : Heap) (L' : Addr) (T : List (Addr × Obj)) : Prop where
  sub : ∀ b o, H.get? b = some o → b ∉ T.map (·.1) → g.get? b = some o
  lt : ∀ p ∈ T, p.1 < L'
  size : H.objs.size ≤ L'

theorem Ent.stays {H g h : Heap} {L' : Addr} {T : List (Addr × Obj)} {m : Str → Option Value} (e : Ent H g L' T) (F : Fr g L' h m) : ∀ b o, H.get? b = some o → b ∉ T.map (·.1) → h.get? b = some o :=
  fun b o x n => F.keep b o (e.sub b o x n)
theorem Ent.below {H g h : Heap} {L' : Addr} {T : List (Addr × Obj)} {m : Str → Option Value} (e : Ent H g L' T) (F : Fr g L' h m) : H.objs.size ≤ h.objs.size :=
  Nat.le_trans e.size (Nat.le_of_lt F.ns.lt)

section
variable {prog : Program} {w : World} {A₀ A : Around} {s : Shared} {base h₀ : Heap} {outer : List Env} {L : Addr} {m : Str → Option Value} {env : Env} {news : List (Addr × Obj)} {K : Frag} {p : Program} {loose : List Str} {mean : ExcName → Option Value} {mg mb : Str → Option Value}
  {R : Result → Shared → Prop} {name qual : Str} {params : Arguments} {body : List Stmt} {scope : Scope} {cl : List (Str × Addr)} {dV kV doc pm cdv ct oc : Value} {an od : Option Addr} {osl : Array (Option Value)} {fo : Obj} {f : Addr} {args : Args} {binds : List (Str × Value)}

theorem enterX (B : Below A₀ base outer h₀) (F : Fr h₀ L s.heap m) (X₀ : K.In h₀) (N : News h₀ L s.heap news) (T : Top p loose mean mg mb h₀) (hA : A.frames = some (env :: outer)) (hf : env.frame = some L) (hke : env.scope.kind = .function)
    (ho : s.heap.get? f = some fo) (hd : fo.data = .func (fnX name qual params body scope cl dV kV doc pm an cdv ct)) (hcd : s.heap.CodeRec cdv qual) (hroom : A.depth < recursionLimit)
    (hbind : BindsTo s (fnX name qual params body scope cl dV kV doc pm an cdv ct) args binds) (hloc : ∀ y ∈ binds, scope.names.lookup y.1 = some .local)
    (h : ∀ g L' h₁, Fr h₀ L g m → Fr g L' h₁ (fun y => binds.reverse.lookup y) → News g L' h₁ news → Below A base (env :: outer) g → K.In g → Top p loose mean mg mb g → Ent s.heap g L' news →
      wpAny (model prog w) (A.deeper (envX qual scope L' f cdv cl)) (execs body (envX qual scope L' f cdv cl))
        (fun fl s' => LeaveK h₀ L m g R (match fl with | .ret v => v | _ => .none) s')
        (fun e s' => wpAny (model prog w) (A.deeper (envX qual scope L' f cdv cl)) (leaving (envX qual scope L' f cdv cl) e) (fun _ s'' => R (.error e) s'') (fun e' s'' => R (.error e') s'') s')
        { s with heap := h₁, toks := s.toks + binds.length })
    (hco : scope.isCoroutine = false) (hgen : scope.isGenerator = false) (hk : scope.kind = .function) (hcell : ∀ x ∈ scope.names, x.2 ≠ .cell) : codeAny (model prog w) A (.call (.ref f) args) R s := by
  obtain ⟨FG, BG, st, lv⟩ := groundX (R := R) B F N hA hf hke
  refine codeAny_call_def (fd := fnX name qual params body scope cl dV kV doc pm an cdv ct) (body := body) (binds := binds) hroom ho hd (T.nolimit.keeps F.keep) hcd rfl hbind hcell hloc (fun h₁ hns hk₁ => ?_) hco hgen hk
  refine wpAny_mono (h _ s.heap.objs.size h₁ FG ⟨hns, fun b o e => hk₁ b o (of_hideAll _ e), Nat.le_of_eq (hideAll_size _ _)⟩
    (fun p hp => ⟨hk₁ _ _ (N p hp).1, Nat.ne_of_lt (Heap.lt_size (N p hp).1), hideAll_none _ (List.mem_map_of_mem hp)⟩) BG (X₀.keeps st) (T.keeps st) ⟨fun b o e n => hideAll_get _ e n, fun p hp => Heap.lt_size (N p hp).1, Nat.le_refl _⟩) (fun fl s' hl => lv _ _ hl) fun _ _ y => y

theorem enterC (B : Below A₀ base outer h₀) (F : Fr h₀ L s.heap m) (X₀ : K.In h₀) (N : News h₀ L s.heap news) (T : Top p loose mean mg mb h₀) (hA : A.frames = some (env :: outer)) (hf : env.frame = some L) (hke : env.scope.kind = .function)
    (ho : s.heap.get? f = some fo) (hd : fo.data = .func (fnX name qual params body scope [] dV kV doc pm an cdv ct)) (hcd : s.heap.CodeRec cdv qual) (hroom : A.depth < recursionLimit)
    (hbind : BindsTo s (fnX name qual params body scope [] dV kV doc pm an cdv ct) args binds) (hkind : (binds.all fun y => scope.names.lookup y.1 == some .local || scope.names.lookup y.1 == some .cell) = true)
    (hnd : ((cellsFrom 0 scope.names []).map (·.1)).Nodup)
    (h : ∀ g L' h₁ tk cells, Fr h₀ L g m → Fr g L' h₁ (bindL (envOfC qual scope L' f cdv).kindOf binds fun _ => none) → News g L' h₁ (cells ++ news) →
      CellsAre (bindC (envOfC qual scope L' f cdv).kindOf binds fun _ => none) (cellsFrom (L' + 1) scope.names []) cells → Below A base (env :: outer) g → K.In g → Top p loose mean mg mb g → Ent s.heap g L' news →
      wpAny (model prog w) (A.deeper (envOfC qual scope L' f cdv)) (execs body (envOfC qual scope L' f cdv))
        (fun fl s' => LeaveK h₀ L m g R (match fl with | .ret v => v | _ => .none) s')
        (fun e s' => wpAny (model prog w) (A.deeper (envOfC qual scope L' f cdv)) (leaving (envOfC qual scope L' f cdv) e) (fun _ s'' => R (.error e) s'') (fun e' s'' => R (.error e') s'') s')
        { s with heap := h₁, toks := tk })
    (hco : scope.isCoroutine = false) (hgen : scope.isGenerator = false) (hk : scope.kind = .function) : codeAny (model prog w) A (.call (.ref f) args) R s := by
  obtain ⟨FG, BG, st, lv⟩ := groundX (R := R) B F N hA hf hke
  refine codeAny_call_function hroom ho hd hco hgen rfl hcd (hbind _ _ _ _ ?_)
  refine wpAny_newFunctionEnv_cells hk (kindsX hkind _) fun env' he s' x => ?_
  subst he
  refine ⟨(T.nolimit.keeps F.keep).keeps x.toInCall.keep, codeAny_func ?_⟩
  obtain ⟨h₁, tk, rfl, _⟩ := x.done
  have hk₁ := x.toInCall.keep
  obtain ⟨cells, NC, Y⟩ := Cl.news (h₀ := s.heap) (Nat.le_refl _) fun n c hm => ⟨x.cell n c (lookup_of_mem_nodup (cellsFrom_names scope.names 0 (s.heap.objs.size + 1) [] [] rfl ▸ hnd) hm), x.above n c hm⟩
  refine wpAny_mono (h _ s.heap.objs.size h₁ tk cells FG ⟨x.toInCall.ns, fun b o e => hk₁ b o (of_hideAll _ e), Nat.le_of_eq (hideAll_size _ _)⟩ (fun p hp => ?_) Y BG (X₀.keeps st) (T.keeps st) ⟨fun b o e n => hideAll_get _ e n, fun p hp => Heap.lt_size (N p hp).1, Nat.le_refl _⟩) (fun fl s' hl => lv _ _ hl) fun _ _ y => y
  rcases List.mem_append.mp hp with hp | hp
  · refine ⟨(NC p hp).1, (NC p hp).2.1, ?_⟩
    cases q : (hideAll s.heap (news.map (·.1))).get? p.1 with
    | none => rfl
    | some o => have := of_hideAll _ q; rw [(NC p hp).2.2] at this; cases this
  · exact ⟨hk₁ _ _ (N p hp).1, Nat.ne_of_lt (Heap.lt_size (N p hp).1), hideAll_none _ (List.mem_map_of_mem hp)⟩
end

section
variable {prog : Program} {w : World} {A₀ A : Around} {s : Shared} {base h₀ : Heap} {outer : List Env} {L : Addr} {m : Str → Option Value} {env : Env} {news : List (Addr × Obj)} {K : Frag} {p : Program} {loose : List Str} {mean : ExcName → Option Value} {mg mb : Str → Option Value}
  {R : Result → Shared → Prop} {name qual : Str} {params : Arguments} {body : List Stmt} {scope : Scope} {cl : List (Str × Addr)} {dV kV doc pm cdv ct oc : Value} {an od : Option Addr} {osl : Array (Option Value)} {f : Addr} {args : Args} {binds : List (Str × Value)}
theorem enterK (B : Below A₀ base outer h₀) (F : Fr h₀ L s.heap m) (X₀ : K.In h₀) (N : News h₀ L s.heap news) (T : Top p loose mean mg mb h₀) (hA : A.frames = some (env :: outer)) (hf : env.frame = some L) (hke : env.scope.kind = .function)
    (ho : K.lookup f = some ⟨oc, od, .func (fnOf name qual params body scope dV kV doc pm an cdv ct), osl⟩) (hcd : codeIn K cdv qual = true) (hroom : A.depth < recursionLimit)
    (hbind : BindsTo s (fnOf name qual params body scope dV kV doc pm an cdv ct) args binds) (hloc : ∀ y ∈ binds, scope.names.lookup y.1 = some .local)
    (h : ∀ g L' h₁, Fr h₀ L g m → Fr g L' h₁ (fun y => binds.reverse.lookup y) → News g L' h₁ news → Below A base (env :: outer) g → K.In g → Top p loose mean mg mb g → Ent s.heap g L' news →
      wpAny (model prog w) (A.deeper (envOf qual scope L' f cdv)) (execs body (envOf qual scope L' f cdv))
        (fun fl s' => LeaveK h₀ L m g R (match fl with | .ret v => v | _ => .none) s')
        (fun e s' => wpAny (model prog w) (A.deeper (envOf qual scope L' f cdv)) (leaving (envOf qual scope L' f cdv) e) (fun _ s'' => R (.error e) s'') (fun e' s'' => R (.error e') s'') s')
        { s with heap := h₁, toks := s.toks + binds.length })
    (hco : scope.isCoroutine = false) (hgen : scope.isGenerator = false) (hk : scope.kind = .function) (hcell : ∀ x ∈ scope.names, x.2 ≠ .cell) : codeAny (model prog w) A (.call (.ref f) args) R s :=
  enterX (cl := []) B F X₀ N T hA hf hke ((X₀.keeps F.keep) _ _ ho) rfl (codeRec_of (X₀.keeps F.keep) hcd) hroom hbind hloc h hco hgen hk hcell
theorem enterKC (B : Below A₀ base outer h₀) (F : Fr h₀ L s.heap m) (X₀ : K.In h₀) (N : News h₀ L s.heap news) (T : Top p loose mean mg mb h₀) (hA : A.frames = some (env :: outer)) (hf : env.frame = some L) (hke : env.scope.kind = .function)
    (ho : K.lookup f = some ⟨oc, od, .func (fnOf name qual params body scope dV kV doc pm an cdv ct), osl⟩) (hcd : codeIn K cdv qual = true) (hroom : A.depth < recursionLimit)
    (hbind : BindsTo s (fnOf name qual params body scope dV kV doc pm an cdv ct) args binds) (hkind : (binds.all fun y => scope.names.lookup y.1 == some .local || scope.names.lookup y.1 == some .cell) = true)
    (hnd : ((cellsFrom 0 scope.names []).map (·.1)).Nodup)
    (h : ∀ g L' h₁ tk cells, Fr h₀ L g m → Fr g L' h₁ (bindL (envOfC qual scope L' f cdv).kindOf binds fun _ => none) → News g L' h₁ (cells ++ news) →
      CellsAre (bindC (envOfC qual scope L' f cdv).kindOf binds fun _ => none) (cellsFrom (L' + 1) scope.names []) cells → Below A base (env :: outer) g → K.In g → Top p loose mean mg mb g → Ent s.heap g L' news → (∀ p ∈ news, p.1 < L') →
      wpAny (model prog w) (A.deeper (envOfC qual scope L' f cdv)) (execs body (envOfC qual scope L' f cdv))
        (fun fl s' => LeaveK h₀ L m g R (match fl with | .ret v => v | _ => .none) s')
        (fun e s' => wpAny (model prog w) (A.deeper (envOfC qual scope L' f cdv)) (leaving (envOfC qual scope L' f cdv) e) (fun _ s'' => R (.error e) s'') (fun e' s'' => R (.error e') s'') s')
        { s with heap := h₁, toks := tk })
    (hco : scope.isCoroutine = false) (hgen : scope.isGenerator = false) (hk : scope.kind = .function) : codeAny (model prog w) A (.call (.ref f) args) R s :=
  enterC B F X₀ N T hA hf hke ((X₀.keeps F.keep) _ _ ho) rfl (codeRec_of (X₀.keeps F.keep) hcd) hroom hbind hkind hnd (fun g L' h₁ tk cells a b c d e f g' i => h g L' h₁ tk cells a b c d e f g' i i.lt) hco hgen hk
theorem enterN {c' : Addr} {ctv : Value} (B : Below A₀ base outer h₀) (F : Fr h₀ L s.heap m) (X₀ : K.In h₀) (N : News h₀ L s.heap news) (T : Top p loose mean mg mb h₀) (hA : A.frames = some (env :: outer)) (hf : env.frame = some L) (hke : env.scope.kind = .function)
    (ho : (f, fnMade name qual params body scope cl doc pm c' ctv) ∈ news) (hcd : s.heap.CodeRec (.ref c') qual) (hroom : A.depth < recursionLimit)
    (hbind : BindsTo s (fnX name qual params body scope cl .none .none doc pm none (.ref c') ctv) args binds) (hloc : ∀ y ∈ binds, scope.names.lookup y.1 = some .local)
    (h : ∀ g L' h₁, Fr h₀ L g m → Fr g L' h₁ (fun y => binds.reverse.lookup y) → News g L' h₁ news → Below A base (env :: outer) g → K.In g → Top p loose mean mg mb g → Ent s.heap g L' news →
      wpAny (model prog w) (A.deeper (envX qual scope L' f (.ref c') cl)) (execs body (envX qual scope L' f (.ref c') cl))
        (fun fl s' => LeaveK h₀ L m g R (match fl with | .ret v => v | _ => .none) s')
        (fun e s' => wpAny (model prog w) (A.deeper (envX qual scope L' f (.ref c') cl)) (leaving (envX qual scope L' f (.ref c') cl) e) (fun _ s'' => R (.error e) s'') (fun e' s'' => R (.error e') s'') s')
        { s with heap := h₁, toks := s.toks + binds.length })
    (hco : scope.isCoroutine = false) (hgen : scope.isGenerator = false) (hk : scope.kind = .function)
    (hcell : ∀ x ∈ scope.names, x.2 ≠ .cell) : codeAny (model prog w) A (.call (.ref f) args) R s :=
  enterX B F X₀ N T hA hf hke (N _ ho).1 rfl hcd hroom hbind hloc h hco hgen hk hcell
end

/-- a call of the function object at `f` with `vs`, the ledger `T` ahead; `Post n r T'` behind, n the heap's size ahead -/
def Con (w : World) (f : Addr) (vs : List Value) (Pre : Heap → Prop) (T : List (Addr × Obj)) (d u : Nat) (Post : Nat → Value → List (Addr × Obj) → Prop) : Prop :=
  ∀ (dp un : Nat) (gd : Option (List Code)) (cn : Str) (cs : Scope) (a : Addr) (ccd : Value) (cl : List (Str × Addr)) (outer : List Env) (A₀ : Around) (base h₀ : Heap) (L : Addr) (m : Str → Option Value) (s : Shared) (Q E : Value → Shared → Prop)
    (mean : ExcName → Option Value) (mg mb : Str → Option Value),
    Below A₀ base outer h₀ → Fr h₀ L s.heap m → (hd.heap_39 w.params).In h₀ → News h₀ L s.heap T → Top topProg LO mean mg mb h₀ → cs.kind = .function → dp + d < recursionLimit → un + u < cLine → Pre s.heap →
    (∀ r T' h' tk', Fr h₀ L h' m → News h₀ L h' T' → Post s.heap.objs.size r T' → (∀ b o, s.heap.get? b = some o → b ∉ T.map (·.1) → h'.get? b = some o) → s.heap.objs.size ≤ h'.objs.size → Q r { s with heap := h', toks := tk' }) →
    wpAny (model PySem.Challenge.rw_hr0002_01.row.prog w) (ktrTop dp un gd cn cs L a ccd cl outer) (call (.ref f) vs) Q E s

/-- none of the objects is a record of the machine's own -/
def Solid (l : List (Addr × Obj)) : Prop := ∀ p ∈ l, ∀ vs, p.2.data ≠ .fields vs
/-- all of them are -/
def Airy (l : List (Addr × Obj)) : Prop := ∀ p ∈ l, ∃ vs, p.2.data = .fields vs
theorem apart_of {h₀ h : Heap} {L : Addr} {T rest : List (Addr × Obj)} (N : News h₀ L h (rest ++ T)) (hT : Airy T) (hr : Solid rest) : ∀ p ∈ rest, p.1 ∉ T.map (·.1) := by
  intro p hp hm
  obtain ⟨q, hq, e⟩ := List.mem_map.mp hm
  obtain ⟨vs, hv⟩ := hT q hq
  have h1 := (N p (List.mem_append_left _ hp)).1
  have h2 := (N q (List.mem_append_right _ hq)).1
  rw [e, h1] at h2
  exact hr p hp vs (by rw [Option.some.inj h2]; exact hv)

theorem Con.use {w : World} {f : Addr} {vs : List Value} {Pre : Heap → Prop} {T rest : List (Addr × Obj)} {d u : Nat} {Post : Nat → Value → List (Addr × Obj) → Prop} (C : Con w f vs Pre T d u Post)
    {dp un : Nat} {gd : Option (List Code)} {cn : Str} {cs : Scope} {a : Addr} {ccd : Value} {cl : List (Str × Addr)} {outer : List Env} {A₀ : Around} {base h₀ : Heap} {L : Addr} {m : Str → Option Value} {s : Shared} {Q E : Value → Shared → Prop}
    {mean : ExcName → Option Value} {mg mb : Str → Option Value}
    (B : Below A₀ base outer h₀) (F : Fr h₀ L s.heap m) (X : (hd.heap_39 w.params).In h₀) (N : News h₀ L s.heap (rest ++ T)) (TT : Top topProg LO mean mg mb h₀) (hk : cs.kind = .function) (hd : dp + d < recursionLimit) (hu : un + u < cLine) (hp : Pre s.heap)
    (hr : ∀ p ∈ rest, p.1 ∉ T.map (·.1))
    (h : ∀ r T' h' tk', Fr h₀ L h' m → News h₀ L h' (T' ++ rest) → Post s.heap.objs.size r T' → (∀ b o, s.heap.get? b = some o → b ∉ T.map (·.1) → h'.get? b = some o) → s.heap.objs.size ≤ h'.objs.size → (∀ p ∈ rest ++ T, p.1 < s.heap.objs.size) → Q r { s with heap := h', toks := tk' }) :
    wpAny (model PySem.Challenge.rw_hr0002_01.row.prog w) (ktrTop dp un gd cn cs L a ccd cl outer) (call (.ref f) vs) Q E s :=
  C _ _ _ _ _ _ _ _ _ _ _ _ _ _ _ _ _ _ _ _ B F X (fun p hp => N p (List.mem_append_right _ hp)) TT hk hd hu hp fun r T' h' tk' F' N' P' st sz =>
    h r T' h' tk' F' (fun p hp => (List.mem_append.mp hp).elim (N' p) fun q => ⟨st _ _ (N p (List.mem_append_left _ q)).1 (hr p q), (N p (List.mem_append_left _ q)).2⟩) P' st sz fun p hp => Heap.lt_size (N p hp).1

theorem Con.use0 {w : World} {f : Addr} {vs : List Value} {Pre : Heap → Prop} {T : List (Addr × Obj)} {d u : Nat} {Post : Nat → Value → List (Addr × Obj) → Prop} (C : Con w f vs Pre T d u Post)
    {dp un : Nat} {gd : Option (List Code)} {cn : Str} {cs : Scope} {a : Addr} {ccd : Value} {cl : List (Str × Addr)} {outer : List Env} {A₀ : Around} {base h₀ : Heap} {L : Addr} {m : Str → Option Value} {s : Shared} {Q E : Value → Shared → Prop}
    {mean : ExcName → Option Value} {mg mb : Str → Option Value}
    (B : Below A₀ base outer h₀) (F : Fr h₀ L s.heap m) (X : (hd.heap_39 w.params).In h₀) (N : News h₀ L s.heap T) (TT : Top topProg LO mean mg mb h₀) (hk : cs.kind = .function) (hd : dp + d < recursionLimit) (hu : un + u < cLine) (hp : Pre s.heap)
    (h : ∀ r T' h' tk', Fr h₀ L h' m → News h₀ L h' T' → Post s.heap.objs.size r T' → (∀ b o, s.heap.get? b = some o → b ∉ T.map (·.1) → h'.get? b = some o) → s.heap.objs.size ≤ h'.objs.size → Q r { s with heap := h', toks := tk' }) :
    wpAny (model PySem.Challenge.rw_hr0002_01.row.prog w) (ktrTop dp un gd cn cs L a ccd cl outer) (call (.ref f) vs) Q E s :=
  C _ _ _ _ _ _ _ _ _ _ _ _ _ _ _ _ _ _ _ _ B F X N TT hk hd hu hp h

theorem subNil {l : List (Addr × Obj)} : ∀ p ∈ ([] : List (Addr × Obj)), p ∈ l := fun _ h => nomatch h
theorem subCons {q : Addr × Obj} {k l : List (Addr × Obj)} (h : q ∈ l) (hk : ∀ p ∈ k, p ∈ l) : ∀ p ∈ q :: k, p ∈ l := fun p hp => (List.mem_cons.mp hp).elim (fun e => e ▸ h) (hk p)
theorem News.less {h₀ h : Heap} {L : Addr} {k l : List (Addr × Obj)} (N : News h₀ L h l) (hs : ∀ p ∈ k, p ∈ l) : News h₀ L h k := fun p hp => N p (hs p hp)
theorem awayNil {T : List (Addr × Obj)} : ∀ p ∈ ([] : List (Addr × Obj)), p.1 ∉ T.map (·.1) := fun _ h => nomatch h
theorem awayCons {q : Addr × Obj} {k T : List (Addr × Obj)} (h : ∀ p ∈ T, @Ne Nat p.1 q.1) (hk : ∀ p ∈ k, p.1 ∉ T.map (·.1)) : ∀ p ∈ q :: k, p.1 ∉ T.map (·.1) := fun p hp => (List.mem_cons.mp hp).elim
  (fun e hm => by obtain ⟨x, hx, e2⟩ := List.mem_map.mp hm; exact h x hx (by rw [e2, e])) (hk p)
theorem neNil {b : Nat} : ∀ p ∈ ([] : List (Addr × Obj)), @Ne Nat p.1 b := fun _ h => nomatch h
theorem neCons {q : Addr × Obj} {k : List (Addr × Obj)} {b : Nat} (h : @Ne Nat q.1 b) (hk : ∀ p ∈ k, @Ne Nat p.1 b) : ∀ p ∈ q :: k, @Ne Nat p.1 b := fun p hp => (List.mem_cons.mp hp).elim (fun e => e ▸ h) (hk p)

theorem subApp {a b l : List (Addr × Obj)} (ha : ∀ p ∈ a, p ∈ l) (hb : ∀ p ∈ b, p ∈ l) : ∀ p ∈ a ++ b, p ∈ l := fun p hp => (List.mem_append.mp hp).elim (ha p) (hb p)
theorem awayApp {a b T : List (Addr × Obj)} (ha : ∀ p ∈ a, p.1 ∉ T.map (·.1)) (hb : ∀ p ∈ b, p.1 ∉ T.map (·.1)) : ∀ p ∈ a ++ b, p.1 ∉ T.map (·.1) := fun p hp => (List.mem_append.mp hp).elim (ha p) (hb p)
theorem solidNil : Solid [] := fun _ h => nomatch h
theorem solidCons {q : Addr × Obj} {k : List (Addr × Obj)} (h : ∀ vs, q.2.data ≠ .fields vs) (hk : Solid k) : Solid (q :: k) := fun p hp => (List.mem_cons.mp hp).elim (fun e => e ▸ h) (hk p)
theorem airyApp {a b : List (Addr × Obj)} (ha : Airy a) (hb : Airy b) : Airy (a ++ b) := fun p hp => (List.mem_append.mp hp).elim (ha p) (hb p)
/-- a solid object is none of the airy ones -/
theorem ne_airy {h₀ h : Heap} {L l : Addr} {o : Obj} {T news : List (Addr × Obj)} (N : News h₀ L h news) (hm : (l, o) ∈ news) (hs : ∀ vs, o.data ≠ .fields vs) (hT : Airy T) (hi : ∀ p ∈ T, p ∈ news) : ∀ p ∈ T, p.1 ≠ l := by
  intro p hp e
  obtain ⟨vs, hv⟩ := hT p hp
  have h1 := (N _ hm).1
  have h2 := (N p (hi p hp)).1
  rw [e] at h2
  dsimp only at h1
  rw [h1] at h2
  exact hs vs (by rw [Option.some.inj h2]; exact hv)

/-- what is not old of T₁ was made at or above z -/
def Newer (z : Nat) (T T₁ : List (Addr × Obj)) : Prop := ∀ p ∈ T₁, p.1 ∈ T.map (·.1) ∨ @LE.le Nat _ z p.1
theorem newerNil {z : Nat} {T : List (Addr × Obj)} : Newer z T [] := fun _ h => nomatch h
theorem newerOld {z : Nat} {q : Addr × Obj} {T k : List (Addr × Obj)} (h : q.1 ∈ T.map (·.1)) (hk : Newer z T k) : Newer z T (q :: k) := fun p hp => (List.mem_cons.mp hp).elim (fun e => e ▸ .inl h) (hk p)
theorem newerNew {z : Nat} {q : Addr × Obj} {T k : List (Addr × Obj)} (h : @LE.le Nat _ z q.1) (hk : Newer z T k) : Newer z T (q :: k) := fun p hp => (List.mem_cons.mp hp).elim (fun e => e ▸ .inr h) (hk p)
theorem Newer.app {z : Nat} {T T' a b : List (Addr × Obj)} (ha : Newer z T a) (hb : Newer z T' b) : Newer z (T ++ T') (a ++ b) := fun p hp => (List.mem_append.mp hp).elim
  (fun h => (ha p h).imp (fun x => by rw [List.map_append]; exact List.mem_append_left _ x) id) (fun h => (hb p h).imp (fun x => by rw [List.map_append]; exact List.mem_append_right _ x) id)
theorem Newer.le {z z' : Nat} {T a : List (Addr × Obj)} (ha : Newer z T a) (h : z' ≤ z) : Newer z' T a := fun p hp => (ha p hp).imp id (Nat.le_trans h)
theorem Newer.refl {z : Nat} {T : List (Addr × Obj)} : Newer z T T := fun p hp => .inl (List.mem_map_of_mem hp)
theorem Newer.trans {z z' : Nat} {T a b : List (Addr × Obj)} (ha : Newer z T a) (hb : Newer z' a b) (h : z ≤ z') : Newer z T b := fun p hp => (hb p hp).elim
  (fun x => by obtain ⟨q, hq, e⟩ := List.mem_map.mp x; rw [← e]; exact ha q hq) fun x => .inr (Nat.le_trans h x)
theorem Newer.ne {z I : Nat} {T a : List (Addr × Obj)} (ha : Newer z T a) (hT : ∀ p ∈ T, @Ne Nat p.1 I) (hI : I < z) : ∀ p ∈ a, @Ne Nat p.1 I := fun p hp => (ha p hp).elim
  (fun x => by obtain ⟨q, hq, e⟩ := List.mem_map.mp x; rw [← e]; exact hT q hq) fun x => by omega

theorem withMap {P : Prop} {h₀ h : Heap} {L : Addr} {m : Str → Option Value} (F : Fr h₀ L h m) (k : ∀ mm, Fr h₀ L h mm → mm = m → P) : P := k m F rfl

theorem Con.use1 {w : World} {f : Addr} {vs : List Value} {Pre : Heap → Prop} {news : List (Addr × Obj)} {d u : Nat} {Post : Nat → Value → List (Addr × Obj) → Prop} (C : Con w f vs Pre [] d u Post)
    {dp un : Nat} {gd : Option (List Code)} {cn : Str} {cs : Scope} {a : Addr} {ccd : Value} {cl : List (Str × Addr)} {outer : List Env} {A₀ : Around} {base h₀ : Heap} {L : Addr} {m : Str → Option Value} {s : Shared} {Q E : Value → Shared → Prop}
    {mean : ExcName → Option Value} {mg mb : Str → Option Value}
    (B : Below A₀ base outer h₀) (F : Fr h₀ L s.heap m) (X : (hd.heap_39 w.params).In h₀) (N : News h₀ L s.heap news) (TT : Top topProg LO mean mg mb h₀) (hk : cs.kind = .function) (hd : dp + d < recursionLimit) (hu : un + u < cLine) (hp : Pre s.heap)
    (h : ∀ r T' h' tk', Fr h₀ L h' m → News h₀ L h' (T' ++ news) → Post s.heap.objs.size r T' → (∀ b o, s.heap.get? b = some o → h'.get? b = some o) → s.heap.objs.size ≤ h'.objs.size → (∀ p ∈ news, p.1 < s.heap.objs.size) → Q r { s with heap := h', toks := tk' }) :
    wpAny (model PySem.Challenge.rw_hr0002_01.row.prog w) (ktrTop dp un gd cn cs L a ccd cl outer) (call (.ref f) vs) Q E s :=
  Con.use (rest := news) C B F X (fun p hp => N p (by rw [List.append_nil] at hp; exact hp)) TT hk hd hu hp (fun _ _ h => by cases h) fun r T' h' tk' F' N' P' st sz lt => h r T' h' tk' F' N' P' (fun b o e => st b o e (fun h => by cases h)) sz fun p hp => lt p (List.mem_append_left _ hp)

/-- the walk halts here -/
def Hold (P : Prop) : Prop := P
theorem Hold.halt {P : Prop} (h : Hold P) : P := h
theorem Hold.on {P : Prop} (h : P) : Hold P := h
end Mine
end

theorem Mine.reset3 : True := by
  w_top off
  first | walk1 | exact True.intro

section
open PySem
namespace Mine
theorem bits_le {a : Int} {k : Nat} (h0 : 0 ≤ a) (h : a < 2 ^ k) : Builtin.Int.intBits a ≤ k := by
  refine intBits_le_iff.mpr ?_
  have e : ((2 ^ k : Nat) : Int) = (2 : Int) ^ k := by simp
  have : ((a.natAbs : Nat) : Int) < ((2 ^ k : Nat) : Int) := by rw [e]; omega
  exact Int.ofNat_lt.mp this

theorem and_top (x s : Nat) : x &&& (x / 2 ^ s * 2 ^ s) = x / 2 ^ s * 2 ^ s := by
  rw [← Nat.shiftLeft_eq, ← Nat.shiftRight_eq_div_pow]
  apply Nat.eq_of_testBit_eq
  intro i
  rw [Nat.testBit_and, Nat.testBit_shiftLeft, Nat.testBit_shiftRight]
  by_cases h : s ≤ i
  · have e : s + (i - s) = i := by omega
    simp [h, e]
  · simp [h]
theorem xor_low {x : Int} {s : Nat} (h0 : 0 ≤ x) : Builtin.bitXor x (x.fdiv (2 ^ s) * 2 ^ s) = ((x.toNat % 2 ^ s : Nat) : Int) := by
  obtain ⟨y, rfl⟩ := Int.eq_ofNat_of_zero_le h0
  have e : ((2 : Int) ^ s) = ((2 ^ s : Nat) : Int) := by simp
  have e1 : ((y : Int).fdiv (2 ^ s) * 2 ^ s) = ((y / 2 ^ s * 2 ^ s : Nat) : Int) := by
    rw [e, Int.fdiv_eq_ediv_of_nonneg _ (Int.natCast_nonneg _), ← Int.natCast_ediv, ← Int.natCast_mul]
  rw [e1, PyProof.Rows.bitXor_and]
  have e2 : Builtin.bitAnd (y : Int) ((y / 2 ^ s * 2 ^ s : Nat) : Int) = ((y / 2 ^ s * 2 ^ s : Nat) : Int) := by
    unfold Builtin.bitAnd
    have h1 : decide (0 ≤ (y : Int)) = true := by simp
    have h2 : decide (0 ≤ ((y / 2 ^ s * 2 ^ s : Nat) : Int)) = true := decide_eq_true (Int.natCast_nonneg _)
    rw [h1, h2]
    simp only [Int.toNat_natCast]
    rw [and_top]
  rw [e2]
  have := Nat.div_add_mod' y (2 ^ s)
  simp only [Int.toNat_natCast]
  omega
theorem fdiv_pow {x : Int} {s : Nat} (h0 : 0 ≤ x) : x.fdiv (2 ^ s) = ((x.toNat / 2 ^ s : Nat) : Int) := by
  obtain ⟨y, rfl⟩ := Int.eq_ofNat_of_zero_le h0
  have e : ((2 : Int) ^ s) = ((2 ^ s : Nat) : Int) := by simp
  rw [e, Int.fdiv_eq_ediv_of_nonneg _ (Int.natCast_nonneg _), ← Int.natCast_ediv]; rfl
theorem mid_eq (L R : Int) : (L + R).fdiv (2 ^ Int.toNat 1) = (L + R) / 2 := by
  rw [show ((2 : Int) ^ Int.toNat 1) = 2 from rfl, Int.fdiv_eq_ediv_of_nonneg _ (by decide)]

/-- the k lowest figures of x to the base 2 ^ n, the lowest first -/
noncomputable def digs (n : Nat) : Nat → Nat → List Int
  | 0, _ => []
  | k + 1, x => ((x % 2 ^ n : Nat) : Int) :: digs n k (x / 2 ^ n)
theorem digs_one {n : Nat} {x : Nat} (h : x < 2 ^ n) : digs n 1 x = [(x : Int)] := by
  simp [digs, Nat.mod_eq_of_lt h]
theorem digs_length (n k x : Nat) : (digs n k x).length = k := by
  induction k generalizing x with
  | zero => rfl
  | succ k ih => simp [digs, ih]
theorem digs_split (n : Nat) : ∀ (a b x : Nat), digs n (a + b) x = digs n a (x % 2 ^ (n * a)) ++ digs n b (x / 2 ^ (n * a))
  | 0, b, x => by simp [digs]
  | a + 1, b, x => by
    rw [show a + 1 + b = (a + b) + 1 from by omega]
    simp only [digs]
    rw [digs_split n a b]
    have e : 2 ^ (n * (a + 1)) = 2 ^ n * 2 ^ (n * a) := by rw [← Nat.pow_add]; congr 1; rw [Nat.mul_succ, Nat.add_comm]
    rw [e, Nat.mod_mul_right_mod, Nat.mod_mul_right_div_self, Nat.div_div_eq_div_mul]
    rfl
end Mine
namespace Mine
theorem glue {ds : List Int} {n a b l x : Nat} (h : l + a + b ≤ ds.length) :
    (ds.take l ++ digs n a (x % 2 ^ (n * a)) ++ ds.drop (l + a)).take (l + a) ++ digs n b (x / 2 ^ (n * a)) ++ (ds.take l ++ digs n a (x % 2 ^ (n * a)) ++ ds.drop (l + a)).drop (l + a + b)
      = ds.take l ++ digs n (a + b) x ++ ds.drop (l + a + b) := by
  have h1 : (ds.take l ++ digs n a (x % 2 ^ (n * a))).length = l + a := by
    rw [List.length_append, digs_length, List.length_take]; omega
  rw [List.take_append_of_le_length (by omega), List.take_of_length_le (by omega)]
  rw [List.drop_append, List.drop_of_length_le (by omega), h1, List.nil_append, List.drop_drop, digs_split]
  rw [show l + a + (l + a + b - (l + a)) = l + a + b from by omega]
  simp only [List.append_assoc]

theorem glueI {ds : List Int} {n L M R x lo up : Int} (hn : 1 ≤ n) (hL : 0 ≤ L) (hM : L < M) (hR : M < R) (hR2 : R ≤ ds.length) (hx : 0 ≤ x) (hlo : lo = ((x.toNat % 2 ^ ((M - L) * n).toNat : Nat) : Int)) (hup : up = ((x.toNat / 2 ^ ((M - L) * n).toNat : Nat) : Int)) :
    (ds.take L.toNat ++ digs n.toNat (M - L).toNat lo.toNat ++ ds.drop M.toNat).take M.toNat ++ digs n.toNat (R - M).toNat up.toNat ++ (ds.take L.toNat ++ digs n.toNat (M - L).toNat lo.toNat ++ ds.drop M.toNat).drop R.toNat
      = ds.take L.toNat ++ digs n.toNat (R - L).toNat x.toNat ++ ds.drop R.toNat := by
  have e : ((M - L) * n).toNat = n.toNat * (M - L).toNat := by
    obtain ⟨a, ha⟩ := Int.eq_ofNat_of_zero_le (show 0 ≤ M - L by omega)
    obtain ⟨k, hk⟩ := Int.eq_ofNat_of_zero_le (show 0 ≤ n by omega)
    rw [ha, hk, ← Int.natCast_mul]
    simp only [Int.toNat_natCast]
    exact Nat.mul_comm _ _
  rw [e] at hlo hup
  subst hlo hup
  have e1 := ar_add hL (Int.le_of_lt hM)
  have e2 := ar_add (Int.le_trans hL (Int.le_of_lt hM)) (Int.le_of_lt hR)
  rw [e1] at e2
  have e3 := ar_cut (Int.le_of_lt hM) (Int.le_of_lt hR)
  have e4 := Int.toNat_le.mpr hR2
  rw [e2] at e4
  rw [e2, e1, e3]
  simp only [Int.toNat_natCast]
  exact glue e4
theorem set_one {ds : List Int} {n L R x : Int} (hn : 1 ≤ n) (hL : 0 ≤ L) (hR : L + 1 = R) (hR2 : R ≤ ds.length) (hx : 0 ≤ x) (hx2 : x < 2 ^ (n * (R - L)).toNat) :
    ds.set L.toNat x = ds.take L.toNat ++ digs n.toNat (R - L).toNat x.toNat ++ ds.drop R.toNat := by
  subst hR
  have e1 := ar_one L
  have e2 : (n * (L + 1 - L)).toNat = n.toNat := by rw [Int.add_comm, Int.add_sub_cancel, Int.mul_one]
  have e3 := ar_succ hL
  rw [e2] at hx2
  have e4 : ((2 : Int) ^ n.toNat) = ((2 ^ n.toNat : Nat) : Int) := by simp
  rw [e1, e3, digs_one (by rw [e4] at hx2; exact ar_lt hx2 hx), List.set_eq_take_append_cons_drop, if_pos (ar_lt hR2 hL)]
  have e5 : ((x.toNat : Nat) : Int) = x := Int.toNat_of_nonneg hx
  rw [e5]
  simp
theorem pow_mono {x : Int} {a b : Nat} (h : x < 2 ^ a) (hab : a ≤ b) : x < 2 ^ b := by
  have e (k : Nat) : ((2 : Int) ^ k) = ((2 ^ k : Nat) : Int) := by simp
  have h2 : (2 : Nat) ^ a ≤ 2 ^ b := Nat.pow_le_pow_right (by decide) hab
  rw [e] at h ⊢
  omega
theorem low_lt {x : Int} {s t : Nat} (h : s = t) : ((x.toNat % 2 ^ s : Nat) : Int) < 2 ^ t := by
  subst h
  have e : ((2 : Int) ^ s) = ((2 ^ s : Nat) : Int) := by simp
  rw [e]
  exact Int.ofNat_lt.mpr (Nat.mod_lt _ (Nat.two_pow_pos s))
theorem up_lt {x : Int} {s t u : Nat} (h : u = s + t) (hx : 0 ≤ x) (h2 : x < 2 ^ u) : ((x.toNat / 2 ^ s : Nat) : Int) < 2 ^ t := by
  subst h
  have e (k : Nat) : ((2 : Int) ^ k) = ((2 ^ k : Nat) : Int) := by simp
  rw [e] at h2 ⊢
  refine Int.ofNat_lt.mpr (Nat.div_lt_of_lt_mul ?_)
  rw [← Nat.pow_add]
  omega
theorem le_low {x : Int} {s : Nat} (hx : 0 ≤ x) : ((x.toNat % 2 ^ s : Nat) : Int) ≤ x := by
  have := Nat.mod_le x.toNat (2 ^ s)
  omega
theorem le_up {x : Int} {s : Nat} (hx : 0 ≤ x) : ((x.toNat / 2 ^ s : Nat) : Int) ≤ x := by
  have := Nat.div_le_self x.toNat (2 ^ s)
  omega
end Mine
namespace Mine
theorem up_abs {x : Int} {s : Nat} (h0 : 0 ≤ x) (h : x < 2 ^ 20) : (x.fdiv (2 ^ s)).natAbs < 2 ^ 64 := by
  have h2 := le_up (x := x) (s := s) h0
  rw [fdiv_pow (x := x) (s := s) h0, Int.natAbs_natCast]
  exact Nat.lt_of_lt_of_le (Int.ofNat_lt.mp (Int.lt_of_le_of_lt h2 h : _ < ((2 ^ 20 : Nat) : Int))) (by decide)
end Mine

namespace Mine
theorem bits_split {n L M R : Int} (hn : 1 ≤ n) (h1 : L ≤ M) (h2 : M ≤ R) : (n * (R - L)).toNat = ((M - L) * n).toNat + (n * (R - M)).toNat := by
  have e : n * (R - L) = (M - L) * n + n * (R - M) := by
    rw [Int.mul_comm (M - L) n, ← Int.mul_add]; congr 1; omega
  have p1 : 0 ≤ (M - L) * n := Int.mul_nonneg (by omega) (by omega)
  have p2 : 0 ≤ n * (R - M) := Int.mul_nonneg (by omega) (by omega)
  rw [e]
  exact Int.toNat_add p1 p2
end Mine

namespace Mine
theorem mul_small {n d : Int} (h4 : n ≤ 4) (h0 : 0 ≤ d) (h : d ≤ 12) : (n * d).toNat ≤ 48 := by
  have h1 : n * d ≤ 4 * d := Int.mul_le_mul_of_nonneg_right h4 h0
  omega
theorem getD_mem {ds : List Int} {k : Nat} (h : k < ds.length) : ds.getD k 0 ∈ ds := by
  rw [List.getD_eq_getElem?_getD, List.getElem?_eq_getElem h]; exact List.getElem_mem h
end Mine

namespace Mine
theorem horner_lt {n L M R a b : Int} (hn : 1 ≤ n) (h1 : L ≤ M) (h2 : M ≤ R) (ha : 0 ≤ a) (ha2 : a < 2 ^ (n * (R - M)).toNat) (hb : 0 ≤ b) (hb2 : b < 2 ^ (n * (M - L)).toNat) :
    a * 2 ^ ((M - L) * n).toNat + b < 2 ^ (n * (R - L)).toNat := by
  rw [bits_split hn h1 h2, Int.pow_add, Int.mul_comm (M - L) n] at *
  have p : (0 : Int) < 2 ^ (n * (M - L)).toNat := Int.pow_pos (by decide)
  have e : (a + 1) * 2 ^ (n * (M - L)).toNat ≤ 2 ^ (n * (R - M)).toNat * 2 ^ (n * (M - L)).toNat := Int.mul_le_mul_of_nonneg_right (by omega) (Int.le_of_lt p)
  rw [Int.add_mul, Int.one_mul] at e
  rw [Int.mul_comm (2 ^ (n * (M - L)).toNat)]
  omega
end Mine

namespace Mine
theorem bits_pos {b : Int} (h : b ≠ 0) : (1 : Int) ≤ (Builtin.Int.intBits b : Int) := by
  unfold Builtin.Int.intBits
  have e : (b == 0) = false := by simpa using h
  rw [e]
  simp only [Bool.false_eq_true, if_false]
  omega
end Mine
namespace Mine
/-- what figures to the base B tell, the highest first, behind r -/
noncomputable def horn (B : Int) (r : Int) (ds : List Int) : Int := ds.foldl (fun a d => a * B + d) r
theorem horn_mod {B b : Int} : ∀ {ds : List Int} {r r' : Int}, r % b = r' % b → horn B r ds % b = horn B r' ds % b
  | [], _, _, h => h
  | d :: ds, r, r', h => by
    show horn B (r * B + d) ds % b = horn B (r' * B + d) ds % b
    refine horn_mod ?_
    rw [Int.add_emod, Int.mul_emod, h, ← Int.mul_emod, ← Int.add_emod]
theorem horn_append {B r : Int} {xs ys : List Int} : horn B r (xs ++ ys) = horn B (horn B r xs) ys := by
  unfold horn; rw [List.foldl_append]
theorem horn_digs (n : Nat) : ∀ (k x : Nat), x < 2 ^ (n * k) → horn (2 ^ n) 0 (digs n k x).reverse = x
  | 0, x, h => by
    have : x = 0 := by simp at h; exact h
    subst this; rfl
  | k + 1, x, h => by
    have h2 : x / 2 ^ n < 2 ^ (n * k) := by
      refine Nat.div_lt_of_lt_mul ?_
      rw [← Nat.pow_add, Nat.add_comm, ← Nat.mul_succ]; exact h
    rw [digs, List.reverse_cons, horn_append, horn_digs n k _ h2]
    show ((x / 2 ^ n : Nat) : Int) * 2 ^ n + ((x % 2 ^ n : Nat) : Int) = x
    have e : ((2 : Int) ^ n) = ((2 ^ n : Nat) : Int) := by simp
    rw [e, ← Int.natCast_mul, ← Int.natCast_add]
    exact congrArg _ (Nat.div_add_mod' x (2 ^ n))
theorem digs_range (n : Nat) : ∀ (k x : Nat), ∀ d ∈ digs n k x, 0 ≤ d ∧ d < 2 ^ n
  | 0, _, _, h => nomatch h
  | k + 1, x, d, h => by
    rcases List.mem_cons.mp h with rfl | h
    · have e : ((2 : Int) ^ n) = ((2 ^ n : Nat) : Int) := by simp
      rw [e]
      exact ⟨Int.natCast_nonneg _, Int.ofNat_lt.mpr (Nat.mod_lt _ (Nat.two_pow_pos n))⟩
    · exact digs_range n k _ d h
end Mine

namespace Mine
theorem cdiv_le' {b : Nat} {n : Int} (hn : 1 ≤ n) (hb : b ≤ 12) : ((b : Int) + n - 1).fdiv n ≤ 12 := by
  rw [Int.fdiv_eq_ediv_of_nonneg _ (by omega)]
  have h2 : ((b : Int) + n - 1) / n < 13 := Int.ediv_lt_of_lt_mul (by omega) (by omega)
  omega
end Mine

namespace Mine
theorem toNat_mul' {a b : Int} (ha : 0 ≤ a) (hb : 0 ≤ b) : (a * b).toNat = a.toNat * b.toNat := by
  obtain ⟨x, rfl⟩ := Int.eq_ofNat_of_zero_le ha
  obtain ⟨y, rfl⟩ := Int.eq_ofNat_of_zero_le hb
  rw [← Int.natCast_mul]; simp only [Int.toNat_natCast]
theorem small_turn {r d : Int} {k : Nat} (h0 : 0 ≤ r) (h1 : r < 16) (hd : 0 ≤ d) (hd2 : d < 2 ^ k) (hk : k ≤ 4) : 0 ≤ r * 2 ^ k + d ∧ r * 2 ^ k + d < 2 ^ 20 := by
  have p : (0 : Int) < 2 ^ k := Int.pow_pos (by decide)
  have p2 : (2 : Int) ^ k ≤ 16 := by
    have e : ((2 : Int) ^ k) = ((2 ^ k : Nat) : Int) := by simp
    have h2 : (2 : Nat) ^ k ≤ 2 ^ 4 := Nat.pow_le_pow_right (by decide) hk
    rw [e]; omega
  have a : 0 ≤ r * 2 ^ k := Int.mul_nonneg h0 (Int.le_of_lt p)
  have b : r * 2 ^ k ≤ 15 * 16 := Int.mul_le_mul (by omega) p2 (Int.le_of_lt p) (by decide)
  omega
end Mine

namespace Mine
theorem turn_facts {r d b : Int} {k : Nat} {ns : List Int} (h0 : 0 ≤ r) (h1 : r < b) (hd : 0 ≤ d) (hd2 : d < 2 ^ k) :
    0 ≤ (r * 2 ^ k + d).fmod b ∧ (r * 2 ^ k + d).fmod b < b ∧ horn (2 ^ k) ((r * 2 ^ k + d).fmod b) ns % b = horn (2 ^ k) r (d :: ns) % b ∧ 0 ≤ (r * 2 ^ k + d).fdiv b ∧ (r * 2 ^ k + d).fdiv b < 2 ^ k := by
  have p : (0 : Int) < 2 ^ k := Int.pow_pos (by decide)
  have a : 0 ≤ r * 2 ^ k := Int.mul_nonneg h0 (Int.le_of_lt p)
  have c : (r + 1) * 2 ^ k ≤ b * 2 ^ k := Int.mul_le_mul_of_nonneg_right (by omega) (Int.le_of_lt p)
  rw [Int.add_mul, Int.one_mul] at c
  refine ⟨Int.fmod_nonneg_of_pos _ (by omega), Int.fmod_lt_of_pos _ (by omega), ?_, ?_, ?_⟩
  · show _ = horn (2 ^ k) (r * 2 ^ k + d) ns % b
    refine horn_mod ?_
    rw [Int.fmod_eq_emod_of_nonneg _ (by omega), Int.emod_emod_of_dvd _ (Int.dvd_refl b)]
  · rw [Int.fdiv_eq_ediv_of_nonneg _ (by omega)]; exact Int.ediv_nonneg (by omega) (by omega)
  · rw [Int.fdiv_eq_ediv_of_nonneg _ (by omega)]
    refine Int.ediv_lt_of_lt_mul (by omega) ?_
    rw [Int.mul_comm (2 ^ k) b]; omega
end Mine
end

theorem Mine.reset4 : True := by
  w_top off
  first | walk1 | exact True.intro

section
open PySem PySem.W PyProof.Rows PySem.Calls PySem.Spec
set_option compiler.extract_closed false
set_option Elab.async false
set_option linter.unusedVariables false
set_option linter.unusedSimpArgs false
set_option pp.maxSteps 2000
set_option pp.deepTerms false
set_option pp.deepTerms.threshold 10
namespace Mine
set_option maxRecDepth 100000 in
set_option maxHeartbeats 8000000 in
theorem div2n1n_con (w : World) (a b n : Int) (ta tb tn : Tok) (T : List (Addr × Obj)) (ha : 0 ≤ a) (ha2 : a < 2 ^ 20) (hb : 0 < b) (hb2 : b < 2 ^ 20) (hn : 0 ≤ n) :
    Con w 21 [.int a ta, .int b tb, .int n tn] (fun _ => True) T 10 100 (fun z r T' => ∃ t1 t2 l, z ≤ l ∧ r = .ref l ∧ T' = (l, { cls := .type "tuple", data := .seq #[.int (a.fdiv b) t1, .int (a.fmod b) t2] }) :: T) := by
  have hbits : (Builtin.Int.intBits a : Int) ≤ 20 := by have := bits_le (k := 20) ha ha2; omega
  unfold Con; k_fill; intro dp un gd cn cs c ccd cl outer A₀ base h₀ Lf m s Q E mean mg mb B F X N TT hk hd' hu hpre hret
  refine wpAny_call ?_; k_dflt (refine' enterK ?k1 ?k2 ?k3 ?k4 ?k5 ?kA ?kF ?kK ?k6 ?k7 ?k8 ?k9 ?kB ?_ ?c2 ?c3 ?c4 ?c5; (case kA => exact rfl); (case kF => exact rfl); (case kK => assumption); (case k1 => k_asm); (case k2 => k_asm); (case k3 => k_asm); (case k4 => k_asm); (case k5 => k_asm); (case k6 => k_is); (case k7 => k_is); (case k8 => first | exact Nat.lt_of_le_of_lt (Nat.le_add_right _ _) hd' | ktr_room); (case k9 => first | exact BindsTo.of_eq rfl | (refine' kp_binds ?kx ?ke; (case kx => k_in); (case ke => exact fun _ => rfl))); (case c5 => decide); (case kB => exact locs rfl); (case c2 => exact rfl); (case c3 => exact rfl); (case c4 => exact rfl); k_whole; intro g' L' h' FG' F' N' B' X' T' EN'; (try dsimp only); (try k_fold)); have CH' : CodeHd g' 34 30 := codeHd_of_K X' rfl; have CH2' : CodeHd g' 41 37 := codeHd_of_K X' rfl
  k_steps
  refine' hret _ _ _ _ ?e1 ?e2 ?e3 ?e4 ?e5
  (case e1 => k_asm); (case e4 => exact EN'.stays (by assumption)); (case e5 => exact EN'.below (by assumption))
  case e2 => k_asm
  case e3 => exact ⟨_, _, _, EN'.below (by assumption), rfl, rfl⟩
end Mine
end

theorem Mine.reset5 : True := by
  w_top off
  first | walk1 | exact True.intro

section
open PySem PySem.W PyProof.Rows PySem.Calls PySem.Spec
set_option Elab.async false
set_option linter.unusedVariables false
set_option linter.unusedSimpArgs false
set_option pp.maxSteps 2000
set_option pp.deepTerms false
set_option pp.deepTerms.threshold 10
set_option compiler.extract_closed false
namespace Mine
noncomputable def stB : Stmt → List Stmt
  | .FunctionDef _ _ b _ _ _ _ _ _ _ => b
  | _ => []
noncomputable def stP : Stmt → Arguments
  | .FunctionDef _ p _ _ _ _ _ _ _ _ => p
  | _ => { posonlyargs := [], args := [], vararg := none, kwonlyargs := [], kw_defaults := [], kwarg := none, defaults := [] }
noncomputable def stS : Stmt → Scope
  | .FunctionDef _ _ _ _ _ _ s _ _ _ => s
  | _ => { kind := .module, names := [], isGenerator := false, isCoroutine := false, more := [] }
noncomputable def nth (l : List Stmt) (i : Nat) : Stmt := l.getD i (.Pass ⟨0, 0, 0, 0⟩)
/-- the nested def of `_int2digits` -/
noncomputable def innA : Stmt := nth (stB (nth PySem.Challenge.pw_hr0002_01.main.body 4)) 1
/-- the nested def of `_digits2int` -/
noncomputable def innB : Stmt := nth (stB (nth PySem.Challenge.pw_hr0002_01.main.body 5)) 0

noncomputable abbrev ledA (l cA cI cN f c' : Addr) (oA oI oN oc : Obj) (qual : Str) (P : Arguments) (Bd : List Stmt) (S : Scope) (doc pm ctv : Value) (ep : Nat) (arr : List Value) : List (Addr × Obj) :=
  [(l, W.listOf arr.toArray ep), (cA, oA), (cI, oI), (cN, oN), (f, fnMade (Str.ofString "inner") qual P Bd S [(Str.ofString "n", cN), (Str.ofString "inner", cI), (Str.ofString "a_digits", cA)] doc pm c' ctv), (c', oc)]

set_option maxRecDepth 100000 in
set_option maxHeartbeats 8000000 in
theorem innA_con (w : World) (n : Int) (hn : 1 ≤ n) (hn4 : n ≤ 4) (f c' cA cI cN l : Addr) (oA oI oN oc : Obj) (vs : Array Value) (t tn : Tok) (qual : Str) (doc pm ctv : Value) (ep : Nat)
    (hA : oA.data = .cell (some (.ref l))) (hI : oI.data = .cell (some (.ref f))) (hN : oN.data = .cell (some (.int n tn))) (hoc : oc.data = .fields vs) (hv : vs[1]? = some (.str qual t))
    (P : Arguments) (Bd : List Stmt) (S : Scope) (hP : P = stP innA) (hB : Bd = stB innA) (hS : S = stS innA)
    (hlA : @Ne Nat l cA) (hlI : @Ne Nat l cI) (hlN : @Ne Nat l cN) (hlf : @Ne Nat l f) (hlc : @Ne Nat l c') :
    ∀ (k : Nat) (x L R : Int) (tx tL tR : Tok) (arr : List Value) (ds : List Int), R - L ≤ k → IntsAre arr ds → 0 ≤ L → L < R → R ≤ ds.length → ds.length ≤ 20 → 0 ≤ x → x < 2 ^ (n * (R - L)).toNat → x < 2 ^ 20 →
    Con w f [.int x tx, .int L tL, .int R tR] (fun _ => True) (ledA l cA cI cN f c' oA oI oN oc qual P Bd S doc pm ctv ep arr)
      (k + 2) (8 * (k + 2)) (fun z r T' => ∃ arr', r = .none ∧ IntsAre arr' (ds.take L.toNat ++ digs n.toNat (R - L).toNat x.toNat ++ ds.drop R.toNat) ∧ T' = ledA l cA cI cN f c' oA oI oN oc qual P Bd S doc pm ctv ep arr') := by
  conv at hB => rhs; whnf
  conv at hS => rhs; whnf
  conv at hP => rhs; whnf
  subst hB hS hP
  intro k
  induction k with
  | zero => intro x L R tx tL tR arr ds h1 _ _ h2; exfalso; omega
  | succ k ih =>
  intro x L R tx tL tR arr ds hk hi h0 hLR hRd hd20 hx0 hx1 hx20
  have hn0 : 0 ≤ n := Int.le_trans (by decide) hn
  have hs0 : 0 ≤ ((L + R).fdiv (2 ^ Int.toNat 1) - L) * n := Int.mul_nonneg (Int.sub_nonneg.mpr (midN_ge hLR)) hn0
  have hs1 : ((L + R).fdiv (2 ^ Int.toNat 1) - L) * n ≤ 80 := Int.le_trans (Int.mul_le_mul (mid_span h0 (Int.le_of_lt (midN_lt hLR)) hRd (c := 20) (le_cast hd20 (by decide))) hn4 hn0 (by decide)) (by decide)
  clear hn0
  have hsz : (x.fdiv (2 ^ (((L + R).fdiv (2 ^ Int.toNat 1) - L) * n).toNat)).natAbs < 2 ^ 64 := up_abs hx0 hx20
  unfold Con
  k_fill
  intro dp un gd cn cs c ccd cl outer A₀ base h₀ L₀ m s Q E mean mg mb B F X N TT hk' hd' hu _ hret
  refine wpAny_call ?_
  k_dflt (refine' enterN ?k1 ?k2 ?k3 ?k4 ?k5 ?kA ?kF ?kK ?k6 ?k7 ?k8 ?k9 ?kB ?_ ?c2 ?c3 ?c4 ?c5; (case kA => exact rfl); (case kF => exact rfl); (case kK => assumption); (case k1 => k_asm); (case k2 => k_asm); (case k3 => k_asm); (case k4 => k_asm); (case k5 => k_asm); (case k6 => k_mem); (case k7 => exact codeRec_news (by k_asm) (by k_mem) (by assumption) (by assumption)); (case k8 => first | exact Nat.lt_of_le_of_lt (Nat.le_add_right _ _) hd' | ktr_room); (case k9 => exact BindsTo.of_eq rfl); (case c5 => decide); (case kB => exact locs rfl); (case c2 => exact rfl); (case c3 => exact rfl); (case c4 => exact rfl); k_whole; intro g' L' h' FG' F' N' B' X' T' EN'; (try dsimp only); (try k_fold))
  have CH' : CodeHd g' 34 30 := codeHd_of_K X' rfl
  k_steps
  · refine' hret _ _ _ _ ?e1 ?e2 ?e3 ?e4 ?e5
    case e1 => k_asm
    case e2 => k_asm
    case e4 => exact EN'.stays (by assumption)
    case e5 => exact EN'.below (by assumption)
    case e3 =>
      refine ⟨_, rfl, ?_, rfl⟩
      rw [← set_one hn h0 (by assumption) hRd hx0 hx1]
      assumption
  · k_dflt (refine' Con.use0 (ih _ _ _ _ _ _ arr ds ?h1 hi ?h2 ?h3 ?h4 hd20 ?h5 ?h6 ?h7) ?k1 ?k2 ?k3 ?k4 ?k5 ?k6 ?k7 ?k8 True.intro ?_)
    case k1 => k_asm
    case k2 => k_asm
    case k3 => k_asm
    case k4 => k_asm
    case k5 => k_asm
    case k6 => exact rfl
    case k7 => exact room3 hd' (rA k)
    case k8 => exact room3 hu (rB k)
    case h1 => exact midN_lo hLR hk
    case h2 => exact h0
    case h3 => exact midN_gt hLR (by assumption)
    case h4 => exact Int.le_trans (Int.le_of_lt (midN_lt hLR)) hRd
    case h5 => rw [xor_low hx0]; exact Int.natCast_nonneg _
    case h6 => rw [xor_low hx0]; exact low_lt (by rw [Int.mul_comm])
    case h7 => rw [xor_low hx0]; exact Int.lt_of_le_of_lt (le_low hx0) hx20
    intro r T' h1 tk1 F1 N1 P1 st1 sz1
    obtain ⟨arr1, rfl, i1, rfl⟩ := P1
    try dsimp only
    try k_fold
    k_steps
    have hl1 := i1.length
    have hlen : (ds.take L.toNat ++ digs n.toNat ((L + R).fdiv (2 ^ Int.toNat 1) - L).toNat (Builtin.bitXor x (x.fdiv (2 ^ (((L + R).fdiv (2 ^ Int.toNat 1) - L) * n).toNat) * 2 ^ (((L + R).fdiv (2 ^ Int.toNat 1) - L) * n).toNat)).toNat ++ ds.drop ((L + R).fdiv (2 ^ Int.toNat 1)).toNat).length = ds.length := by
      rw [List.length_append, List.length_append, digs_length, List.length_take, List.length_drop]; exact ar_len h0 (midN_ge hLR) (Int.le_trans (Int.le_of_lt (midN_lt hLR)) hRd)
    k_dflt (refine' Con.use0 (ih _ _ _ _ _ _ arr1 _ ?h1 i1 ?h2 ?h3 ?h4 ?h8 ?h5 ?h6 ?h7) ?k1 ?k2 ?k3 ?k4 ?k5 ?k6 ?k7 ?k8 True.intro ?_)
    case k1 => k_asm
    case k2 => k_asm
    case k3 => k_asm
    case k4 => k_asm
    case k5 => k_asm
    case k6 => exact rfl
    case k7 => exact room3 hd' (rA k)
    case k8 => exact room3 hu (rB k)
    case h1 => exact midN_hi hLR (by assumption) hk
    case h2 => exact Int.le_trans h0 (midN_ge hLR)
    case h3 => exact midN_lt hLR
    case h4 => rw [hlen]; exact hRd
    case h8 => rw [hlen]; exact hd20
    case h5 => rw [fdiv_pow hx0]; exact Int.natCast_nonneg _
    case h6 =>
      rw [fdiv_pow hx0]
      refine up_lt (u := (n * (R - L)).toNat) ?_ hx0 hx1
      exact bits_split hn (midN_ge hLR) (Int.le_of_lt (midN_lt hLR))
    case h7 => rw [fdiv_pow hx0]; exact Int.lt_of_le_of_lt (le_up hx0) hx20
    intro r T' h2 tk2 F2 N2 P2 st2 sz2
    obtain ⟨arr2, rfl, i2, rfl⟩ := P2
    try dsimp only
    try k_fold
    k_steps
    refine' hret _ _ _ _ ?e1 ?e2 ?e3 ?e4 ?e5
    case e1 => k_asm
    case e2 => k_asm
    case e4 => exact EN'.stays F2
    case e5 => exact EN'.below F2
    case e3 =>
      refine ⟨_, rfl, ?_, rfl⟩
      have e := glueI (ds := ds) (n := n) (L := L) (M := (L + R).fdiv (2 ^ Int.toNat 1)) (R := R) hn h0 (midN_gt hLR (by assumption)) (midN_lt hLR) hRd hx0 (xor_low hx0) (fdiv_pow hx0)
      rw [← e]
      exact i2
end Mine
end

theorem Mine.reset6 : True := by
  w_top off
  first | walk1 | exact True.intro

section
open PySem PySem.W PyProof.Rows PySem.Calls PySem.Spec
set_option compiler.extract_closed false
set_option Elab.async false
set_option linter.unusedVariables false
set_option linter.unusedSimpArgs false
set_option pp.maxSteps 2000
set_option pp.deepTerms false
set_option pp.deepTerms.threshold 10
namespace Mine
noncomputable abbrev ledB (cD cI cN f c' : Addr) (oD oI oN oc : Obj) (qual : Str) (P : Arguments) (Bd : List Stmt) (S : Scope) (doc pm ctv : Value) : List (Addr × Obj) :=
  [(cD, oD), (cI, oI), (cN, oN), (f, fnMade (Str.ofString "inner") qual P Bd S [(Str.ofString "n", cN), (Str.ofString "inner", cI), (Str.ofString "digits", cD)] doc pm c' ctv), (c', oc)]

set_option maxRecDepth 100000 in
set_option maxHeartbeats 8000000 in
theorem innB_con (w : World) (n : Int) (hn : 1 ≤ n) (hn4 : n ≤ 4) (f c' cD cI cN l : Addr) (oD oI oN oc : Obj) (vs : Array Value) (t tn : Tok) (qual : Str) (doc pm ctv : Value)
    (hD : oD.data = .cell (some (.ref l))) (hI : oI.data = .cell (some (.ref f))) (hN : oN.data = .cell (some (.int n tn))) (hoc : oc.data = .fields vs) (hv : vs[1]? = some (.str qual t))
    (P : Arguments) (Bd : List Stmt) (S : Scope) (hP : P = stP innB) (hB : Bd = stB innB) (hS : S = stS innB) (arr : List Value) (ds : List Int) (hi : IntsAre arr ds) (hd20 : ds.length ≤ 12) (hds : ∀ d ∈ ds, 0 ≤ d ∧ d < 2 ^ n.toNat)
    (hlD : @Ne Nat l cD) (hlI : @Ne Nat l cI) (hlN : @Ne Nat l cN) (hlf : @Ne Nat l f) (hlc : @Ne Nat l c') :
    ∀ (k : Nat) (L R : Int) (tL tR : Tok), R - L ≤ k → 0 ≤ L → L < R → R ≤ ds.length →
    Con w f [.int L tL, .int R tR] (fun h => h.IsList l arr.toArray) (ledB cD cI cN f c' oD oI oN oc qual P Bd S doc pm ctv)
      (k + 2) (8 * (k + 2)) (fun z r T' => ∃ v t, r = .int v t ∧ 0 ≤ v ∧ v < 2 ^ (n * (R - L)).toNat ∧ T' = ledB cD cI cN f c' oD oI oN oc qual P Bd S doc pm ctv) := by
  conv at hB => rhs; whnf
  conv at hS => rhs; whnf
  conv at hP => rhs; whnf
  subst hB hS hP
  intro k
  induction k with
  | zero => intro L R tL tR h1 _ h2; exfalso; omega
  | succ k ih =>
  intro L R tL tR hkk h0 hLR hRd
  have hn0 : 0 ≤ n := Int.le_trans (by decide) hn
  have hs0 : 0 ≤ ((L + R).fdiv (2 ^ Int.toNat 1) - L) * n := Int.mul_nonneg (Int.sub_nonneg.mpr (midN_ge hLR)) hn0
  have hs1 : ((L + R).fdiv (2 ^ Int.toNat 1) - L) * n ≤ 80 := Int.le_trans (Int.mul_le_mul (mid_span h0 (Int.le_of_lt (midN_lt hLR)) hRd (c := 20) (le_cast hd20 (by decide))) hn4 hn0 (by decide)) (by decide)
  clear hn0
  unfold Con; k_fill; intro dp un gd cn cs c ccd cl outer A₀ base h₀ Lf m s Q E mean mg mb B F X N TT hk hd' hu hpre hret
  refine wpAny_call ?_; k_dflt (refine' enterN ?k1 ?k2 ?k3 ?k4 ?k5 ?kA ?kF ?kK ?k6 ?k7 ?k8 ?k9 ?kB ?_ ?c2 ?c3 ?c4 ?c5; (case kA => exact rfl); (case kF => exact rfl); (case kK => assumption); (case k1 => k_asm); (case k2 => k_asm); (case k3 => k_asm); (case k4 => k_asm); (case k5 => k_asm); (case k6 => k_mem); (case k7 => exact codeRec_news (by k_asm) (by k_mem) (by assumption) (by assumption)); (case k8 => first | exact Nat.lt_of_le_of_lt (Nat.le_add_right _ _) hd' | ktr_room); (case k9 => exact BindsTo.of_eq rfl); (case c5 => decide); (case kB => exact locs rfl); (case c2 => exact rfl); (case c3 => exact rfl); (case c4 => exact rfl); k_whole; intro g' L' h' FG' F' N' B' X' T' EN'; (try dsimp only); (try k_fold)); have CH' : CodeHd g' 34 30 := codeHd_of_K X' rfl; have CH2' : CodeHd g' 41 37 := codeHd_of_K X' rfl
  have hl' : g'.IsList l arr.toArray := by
    obtain ⟨o, ho, r⟩ := hpre
    refine ⟨o, EN'.sub _ _ ho ?_, r⟩
    simp only [List.map_cons, List.map_nil, List.mem_cons, List.not_mem_nil, or_false, not_or]
    exact ⟨hlD, hlI, hlN, hlf, hlc⟩
  k_steps
  · refine' hret _ _ _ _ ?e1 ?e2 ?e3 ?e4 ?e5
    (case e1 => k_asm); (case e4 => exact EN'.stays (by assumption)); (case e5 => exact EN'.below (by assumption))
    (case e2 => k_asm)
    (case e3 =>
      refine ⟨_, _, rfl, ?_, ?_, rfl⟩
      · exact (hds _ (getD_mem (by omega))).1
      · refine pow_mono (hds _ (getD_mem (by omega))).2 ?_
        rw [show R - L = 1 from by omega, Int.mul_one]
        exact Nat.le_refl _)
  · rename_i hne hA hB F1 N1
    have q1 : (n * (R - (L + R).fdiv (2 ^ Int.toNat 1))).toNat ≤ 48 := mul_small hn4 (Int.sub_nonneg.mpr (Int.le_of_lt (midN_lt hLR))) (mid_span (Int.le_trans h0 (midN_ge hLR)) (Int.le_refl R) hRd (c := 12) (le_cast hd20 (by decide)))
    have q2 : (n * ((L + R).fdiv (2 ^ Int.toNat 1) - L)).toNat ≤ 48 := mul_small hn4 (Int.sub_nonneg.mpr (midN_ge hLR)) (mid_span h0 (Int.le_of_lt (midN_lt hLR)) hRd (c := 12) (le_cast hd20 (by decide)))
    k_dflt (refine' Con.use0 (ih _ _ _ _ ?h1 ?h2 ?h3 ?h4) ?k1 ?k2 ?k3 ?k4 ?k5 ?k6 ?k7 ?k8 ?kp ?_)
    (case k1 => k_asm); (case k2 => k_asm); (case k3 => k_asm); (case k5 => k_asm); (case k6 => first | exact rfl | assumption); (case k7 => exact room3 hd' (rA k)); (case k8 => exact room3 hu (rB k))
    (case k4 => k_asm)
    (case kp => exact hl'.at fun o e => F1.keep _ o e)
    (case h1 => exact midN_hi hLR (by assumption) hkk)
    (case h2 => exact Int.le_trans h0 (midN_ge hLR))
    (case h3 => exact midN_lt hLR)
    (case h4 => exact hRd)
    clear q1 q2
    intro r T₁ h1 tk1 F2 N2 P2 st2 sz2
    obtain ⟨v1, t1, rfl, v10, v11, rfl⟩ := P2
    have v12 : v1 < 2 ^ 48 := pow_mono v11 (mul_small hn4 (Int.sub_nonneg.mpr (Int.le_of_lt (midN_lt hLR))) (mid_span (Int.le_trans h0 (midN_ge hLR)) (Int.le_refl R) hRd (c := 12) (le_cast hd20 (by decide))))
    try dsimp only
    try k_fold
    k_steps
    k_dflt (refine' Con.use0 (ih _ _ _ _ ?h1 ?h2 ?h3 ?h4) ?k1 ?k2 ?k3 ?k4 ?k5 ?k6 ?k7 ?k8 ?kp ?_)
    (case k1 => k_asm); (case k2 => k_asm); (case k3 => k_asm); (case k5 => k_asm); (case k6 => first | exact rfl | assumption); (case k7 => exact room3 hd' (rA k)); (case k8 => exact room3 hu (rB k))
    (case k4 => k_asm)
    (case kp => exact hl'.at fun o e => F2.keep _ o e)
    (case h1 => exact midN_lo hLR hkk)
    (case h2 => exact h0)
    (case h3 => exact midN_gt hLR (by assumption))
    (case h4 => exact Int.le_trans (Int.le_of_lt (midN_lt hLR)) hRd)
    intro r T₁ h2 tk2 F3 N3 P3 st3 sz3
    obtain ⟨v2, t2, rfl, v20, v21, rfl⟩ := P3
    try dsimp only
    try k_fold
    k_steps
    refine' hret _ _ _ _ ?e1 ?e2 ?e3 ?e4 ?e5
    (case e1 => k_asm); (case e4 => exact EN'.stays (by assumption)); (case e5 => exact EN'.below (by assumption))
    (case e2 => k_asm)
    (case e3 =>
      refine ⟨_, _, rfl, ?_, ?_, rfl⟩
      · exact Int.add_nonneg (Int.mul_nonneg v10 (Int.le_of_lt (Int.pow_pos (by decide)))) v20
      · exact horner_lt hn (midN_ge hLR) (Int.le_of_lt (midN_lt hLR)) v10 v11 v20 v21)
end Mine
end

theorem Mine.reset7 : True := by
  w_top off
  first | walk1 | exact True.intro

section
open PySem PySem.W PyProof.Rows PySem.Calls PySem.Spec
set_option compiler.extract_closed false
set_option Elab.async false
set_option linter.unusedVariables false
set_option linter.unusedSimpArgs false
set_option pp.maxSteps 2000
set_option pp.deepTerms false
set_option pp.deepTerms.threshold 10
namespace Mine
/-- the ledger's part for the table at `P` of a def whose one nested def `qual` stands at line l, column c: empty, or noted -/
inductive TabSt (P : Addr) (l c : Int) (qual : Str) : List (Addr × Obj) → Prop
  | fresh : TabSt P l c qual [(P, tabObj #[])]
  | made {c' : Addr} {oc : Obj} {vs : Array Value} {t : Tok} : oc.data = .fields vs → vs[1]? = some (.str qual t) → @Ne Nat c' P → TabSt P l c qual [(P, tabObj #[rawInt l, rawInt c, .ref c']), (c', oc)]
theorem TabSt.airy {P : Addr} {l c : Int} {qual : Str} {T : List (Addr × Obj)} (h : TabSt P l c qual T) : Airy T := by
  intro p hp
  cases h with
  | fresh => rw [List.mem_singleton.mp hp]; exact ⟨_, rfl⟩
  | made h1 h2 h3 =>
    rcases List.mem_cons.mp hp with rfl | hp
    · exact ⟨_, rfl⟩
    · rw [List.mem_singleton.mp hp]; exact ⟨_, h1⟩
noncomputable def quA : Str := qualnameIn (envOfC (Str.ofString "_int2digits") (stS (nth PySem.Challenge.pw_hr0002_01.main.body 4)) 0 35 (.ref 34)) (Str.ofString "inner") (Str.ofString "inner")

theorem cdiv_nonneg {b : Nat} {n : Int} (hn : 1 ≤ n) : 0 ≤ ((b : Int) + n - 1).fdiv n := by
  rw [Int.fdiv_eq_ediv_of_nonneg _ (by omega)]
  exact Int.ediv_nonneg (by omega) (by omega)
theorem cdiv_le {b : Nat} {n : Int} (hn : 1 ≤ n) (hb : b ≤ 20) : ((b : Int) + n - 1).fdiv n ≤ 20 := by
  rw [Int.fdiv_eq_ediv_of_nonneg _ (by omega)]
  have h2 : ((b : Int) + n - 1) / n < 21 := Int.ediv_lt_of_lt_mul (by omega) (by omega)
  omega
theorem cdiv_mul {b : Nat} {n : Int} (hn : 1 ≤ n) : (b : Int) ≤ n * ((b : Int) + n - 1).fdiv n := by
  rw [Int.fdiv_eq_ediv_of_nonneg _ (by omega)]
  have h1 := Int.emod_add_mul_ediv ((b : Int) + n - 1) n
  have h2 := Int.emod_lt_of_pos ((b : Int) + n - 1) (show 0 < n by omega)
  omega
theorem lt_bits {a : Int} (h0 : 0 ≤ a) {k : Nat} (h : Builtin.Int.intBits a ≤ k) : a < 2 ^ k := by
  have h1 := intBits_le_iff.mp h
  have e : ((2 : Int) ^ k) = ((2 ^ k : Nat) : Int) := by simp
  rw [e]
  omega
theorem nd_pos {a n : Int} (h0 : 0 ≤ a) (h : a ≠ 0) (hn : 1 ≤ n) : 0 < ((Builtin.Int.intBits a : Int) + n - 1).fdiv n := by
  have h1 := cdiv_nonneg (b := Builtin.Int.intBits a) hn
  rcases Int.lt_or_eq_of_le h1 with h2 | h2
  · exact h2
  · exfalso
    have h3 := cdiv_mul (b := Builtin.Int.intBits a) hn
    rw [← h2, Int.mul_zero] at h3
    have h4 := lt_bits h0 (k := 0) (by omega)
    simp at h4
    omega
theorem nd_lt {a n : Int} (h0 : 0 ≤ a) (hn : 1 ≤ n) : a < 2 ^ (n * (((Builtin.Int.intBits a : Int) + n - 1).fdiv n)).toNat := by
  have h3 := cdiv_mul (b := Builtin.Int.intBits a) hn
  exact lt_bits h0 (by omega)
theorem nd_zero {n : Int} (hn : 1 ≤ n) : ((Builtin.Int.intBits 0 : Int) + n - 1).fdiv n = 0 := by
  rw [Int.fdiv_eq_ediv_of_nonneg _ (by omega), show Builtin.Int.intBits 0 = 0 from rfl]
  exact Int.ediv_eq_zero_of_lt (by omega) (by omega)

set_option maxRecDepth 100000 in
set_option maxHeartbeats 8000000 in
theorem i2d_con (w : World) (a n : Int) (ta tn : Tok) (T : List (Addr × Obj)) (hT : TabSt 30 32 4 quA T) (ha : 0 ≤ a) (ha2 : a < 2 ^ 20) (hn : 1 ≤ n) (hn4 : n ≤ 4) :
    Con w 35 [.int a ta, .int n tn] (fun _ => True) T 40 400 (fun z r T' => ∃ l vs T₁, z ≤ l ∧ r = .ref l ∧ TabSt 30 32 4 quA T₁ ∧ Newer z T T₁ ∧ IntsAre vs (digs n.toNat (((Builtin.Int.intBits a : Int) + n - 1).fdiv n).toNat a.toNat) ∧ T' = (l, W.listOf vs.toArray 0) :: T₁) := by
  have hK0 := cdiv_nonneg (b := Builtin.Int.intBits a) hn
  have hK1 := cdiv_le (b := Builtin.Int.intBits a) hn (bits_le (k := 20) ha ha2)
  cases hT with
  | fresh =>
    unfold Con; k_fill; intro dp un gd cn cs c ccd cl outer A₀ base h₀ Lf m s Q E mean mg mb B F X N TT hk hd' hu hpre hret
    refine wpAny_call ?_; k_dflt (refine' enterKC ?k1 ?k2 ?k3 ?k4 ?k5 ?kA ?kF ?kK ?k6 ?k7 ?k8 ?k9 ?kB ?kD ?_ ?c2 ?c3 ?c4; (case kA => exact rfl); (case kF => exact rfl); (case kK => assumption); (case k1 => k_asm); (case k2 => k_asm); (case k3 => k_asm); (case k4 => k_asm); (case k5 => k_asm); (case k6 => k_is); (case k7 => k_is); (case k8 => first | exact Nat.lt_of_le_of_lt (Nat.le_add_right _ _) hd' | ktr_room); (case k9 => (refine' kp_binds ?kx ?ke; (case kx => k_in); (case ke => exact fun _ => rfl))); (case kB => exact rfl); (case kD => decide +kernel); (case c2 => exact rfl); (case c3 => exact rfl); (case c4 => exact rfl); k_whole; intro g' L' h' tk' cells' FG' F' N' Y' B' X' T' EN' l1; (try k_lt l1); k_cells Y'; (try simp only [List.cons_append, List.nil_append] at N'); (try dsimp only); (try k_lift B'); (try k_fold)); have CH' : CodeHd g' 34 30 := codeHd_of_K X' rfl; have CH2' : CodeHd g' 41 37 := codeHd_of_K X' rfl
    k_steps
    · rename_i o1 o2 o3 dd1 dd2 dd3 l' hA l1a D hB i1 n1 s1 e1 e2 e3 l1b hC oA dA f c' oc vs t ct dc hD tkB dc1 dc2 l1c l2 hE oI F1 N1 dI hne
      have hlen : ((List.replicate ((↑(Builtin.Int.intBits a) + n - 1).fdiv n).toNat [(0 : Int)]).flatten).length = (((Builtin.Int.intBits a : Int) + n - 1).fdiv n).toNat := by simp
      have hn2 : (n1 : Int) = ((Builtin.Int.intBits a : Int) + n - 1).fdiv n := (e3 hK0).trans (Int.one_mul _)
      have hpos := nd_pos ha hne hn
      k_dflt (refine' Con.use (rest := [(l', W.listOf _ 0), (30, _)]) (innA_con w n hn hn4 f c' (L'+1+1) (L'+1+1+1) (L'+1) D oA oI o3 oc vs t tn _ dc _ ct 0 dA dI dd3 dc1 dc2 _ _ _ rfl rfl rfl ?q1 ?q2 ?q3 ?q4 ?q5 20 _ _ _ _ _ _ _ _ ?h1 i1 ?h2 ?h3 ?h4 ?h5 ha ?h6 ha2) ?k1 ?k2 ?k3 ?k4 ?k5 ?k6 ?k7 ?k8 True.intro ?kr ?_)
      (case k1 => k_asm); (case k2 => k_asm); (case k3 => k_asm); (case k5 => k_asm); (case k6 => first | exact rfl | assumption); (case k7 => first | exact room3 hd' (by decide) | ((try simp only [depth_under_make, depth_under_kw, depth_in1, depth_deeper, depth_caller] at *); omega)); (case k8 => first | exact room3 hu (by decide) | ((try simp only [units_in1, units_deeper, Around.mark_units, units_caller] at *); omega))
      (case k4 => (refine' News.less N1 ?_; k_dflt (repeat' (first | exact subNil | (refine' subCons ?_ ?_) | (refine' subApp ?_ ?_) | k_mem | (intro p9 hp9; k_mem)))))
      (case q1 => omega)
      (case q2 => omega)
      (case q3 => omega)
      (case q4 => omega)
      (case q5 => omega)
      (case h1 => rw [Int.sub_zero, hn2]; exact hK1)
      (case h2 => exact Int.le_refl 0)
      (case h3 => rw [hn2]; exact hpos)
      (case h4 => rw [hlen, hn2, Int.toNat_of_nonneg hK0]; exact Int.le_refl _)
      (case h5 => rw [hlen]; exact Int.toNat_le.mpr hK1)
      (case h6 => rw [Int.sub_zero, hn2]; exact nd_lt ha hn)
      (case kr => refine' awayCons ?_ (awayCons ?_ awayNil) <;> (dsimp only [ledA]; repeat' (first | exact neNil | refine' neCons ?_ ?_)) <;> dsimp only <;> omega)
      intro r T' h1 tk1 F2 N2 P2 st2 sz2 _
      obtain ⟨arr2, rfl, i2, rfl⟩ := P2
      dsimp only [ledA, List.cons_append, List.nil_append] at N2
      try dsimp only
      try k_fold
      k_steps
      refine' hret _ [(D, _), (30, _), (c', oc)] _ _ ?e1 ?e2 ?e3 ?e4 ?e5
      (case e1 => k_asm); (case e4 => exact EN'.stays (by assumption)); (case e5 => exact EN'.below (by assumption))
      (case e2 => (refine' News.less (by assumption) ?_; k_dflt (repeat' (first | exact subNil | (refine' subCons ?_ ?_) | (refine' subApp ?_ ?_) | k_mem | (intro p9 hp9; k_mem)))))
      (case e3 =>
        refine ⟨D, _, _, ?_, rfl, .made dc1 dc2 (by omega), newerOld (by simp) (newerNew (Nat.le_trans EN'.size (by dsimp only; omega)) newerNil), ?_, rfl⟩
        · exact Nat.le_trans EN'.size (by omega)
        · have e : (List.replicate ((↑(Builtin.Int.intBits a) + n - 1).fdiv n).toNat [(0 : Int)]).flatten.take (Int.toNat 0) ++ digs n.toNat ((n1 : Int) - 0).toNat a.toNat ++ (List.replicate ((↑(Builtin.Int.intBits a) + n - 1).fdiv n).toNat [(0 : Int)]).flatten.drop (n1 : Int).toNat = digs n.toNat (((Builtin.Int.intBits a : Int) + n - 1).fdiv n).toNat a.toNat := by
            rw [List.drop_of_length_le (by rw [hlen, hn2]; exact Nat.le_refl _), List.append_nil, Int.sub_zero, hn2]
            rfl
          rw [← e]; exact i2)
    · rename_i o1 o2 o3 dd1 dd2 dd3 l' hA l1a D hB i1 n1 s1 e1 e2 e3 l1b hC oA dA f c' oc vs t ct dc hD tkB dc1 dc2 l1c l2 hE oI F1 N1 dI hz kF kN Tc kX
      subst hz
      refine' hret _ [(D, _), (30, _), (c', oc)] _ _ ?e1 ?e2 ?e3 ?e4 ?e5
      (case e1 => k_asm); (case e4 => exact EN'.stays (by assumption)); (case e5 => exact EN'.below (by assumption))
      (case e2 => (refine' News.less kN ?_; k_dflt (repeat' (first | exact subNil | (refine' subCons ?_ ?_) | (refine' subApp ?_ ?_) | k_mem | (intro p9 hp9; k_mem)))))
      (case e3 =>
        refine ⟨D, _, _, ?_, rfl, .made dc1 dc2 (by omega), newerOld (by simp) (newerNew (Nat.le_trans EN'.size (by dsimp only; omega)) newerNil), ?_, rfl⟩
        · exact Nat.le_trans EN'.size (by omega)
        · rw [nd_zero hn]; exact .nil)
  | @made c' oc vs t dc1 dc2 dc3 =>
    unfold Con; k_fill; intro dp un gd cn cs c ccd cl outer A₀ base h₀ Lf m s Q E mean mg mb B F X N TT hk hd' hu hpre hret
    refine wpAny_call ?_; k_dflt (refine' enterKC ?k1 ?k2 ?k3 ?k4 ?k5 ?kA ?kF ?kK ?k6 ?k7 ?k8 ?k9 ?kB ?kD ?_ ?c2 ?c3 ?c4; (case kA => exact rfl); (case kF => exact rfl); (case kK => assumption); (case k1 => k_asm); (case k2 => k_asm); (case k3 => k_asm); (case k4 => k_asm); (case k5 => k_asm); (case k6 => k_is); (case k7 => k_is); (case k8 => first | exact Nat.lt_of_le_of_lt (Nat.le_add_right _ _) hd' | ktr_room); (case k9 => (refine' kp_binds ?kx ?ke; (case kx => k_in); (case ke => exact fun _ => rfl))); (case kB => exact rfl); (case kD => decide +kernel); (case c2 => exact rfl); (case c3 => exact rfl); (case c4 => exact rfl); k_whole; intro g' L' h' tk' cells' FG' F' N' Y' B' X' T' EN' l1; (try k_lt l1); k_cells Y'; (try simp only [List.cons_append, List.nil_append] at N'); (try dsimp only); (try k_lift B'); (try k_fold)); have CH' : CodeHd g' 34 30 := codeHd_of_K X' rfl; have CH2' : CodeHd g' 41 37 := codeHd_of_K X' rfl
    k_steps
    · rename_i o1 o2 o3 dd1 dd2 dd3 l' hA l1a D hB i1 n1 s1 e1 e2 e3 l1b hC oA dA f ct dc hD tkB l1c hE oI F1 N1 dI hne
      have hlen : ((List.replicate ((↑(Builtin.Int.intBits a) + n - 1).fdiv n).toNat [(0 : Int)]).flatten).length = (((Builtin.Int.intBits a : Int) + n - 1).fdiv n).toNat := by simp
      have hn2 : (n1 : Int) = ((Builtin.Int.intBits a : Int) + n - 1).fdiv n := (e3 hK0).trans (Int.one_mul _)
      have hpos := nd_pos ha hne hn
      k_dflt (refine' Con.use (rest := [(l', W.listOf _ 0), (30, _)]) (innA_con w n hn hn4 f c' (L'+1+1) (L'+1+1+1) (L'+1) D oA oI o3 oc vs t tn _ dc _ ct 0 dA dI dd3 dc1 dc2 _ _ _ rfl rfl rfl ?q1 ?q2 ?q3 ?q4 ?q5 20 _ _ _ _ _ _ _ _ ?h1 i1 ?h2 ?h3 ?h4 ?h5 ha ?h6 ha2) ?k1 ?k2 ?k3 ?k4 ?k5 ?k6 ?k7 ?k8 True.intro ?kr ?_)
      (case k1 => k_asm); (case k2 => k_asm); (case k3 => k_asm); (case k5 => k_asm); (case k6 => first | exact rfl | assumption); (case k7 => first | exact room3 hd' (by decide) | ((try simp only [depth_under_make, depth_under_kw, depth_in1, depth_deeper, depth_caller] at *); omega)); (case k8 => first | exact room3 hu (by decide) | ((try simp only [units_in1, units_deeper, Around.mark_units, units_caller] at *); omega))
      (case k4 => (refine' News.less N1 ?_; k_dflt (repeat' (first | exact subNil | (refine' subCons ?_ ?_) | (refine' subApp ?_ ?_) | k_mem | (intro p9 hp9; k_mem)))))
      (case q1 => omega)
      (case q2 => omega)
      (case q3 => omega)
      (case q4 => omega)
      (case q5 => omega)
      (case h1 => rw [Int.sub_zero, hn2]; exact hK1)
      (case h2 => exact Int.le_refl 0)
      (case h3 => rw [hn2]; exact hpos)
      (case h4 => rw [hlen, hn2, Int.toNat_of_nonneg hK0]; exact Int.le_refl _)
      (case h5 => rw [hlen]; exact Int.toNat_le.mpr hK1)
      (case h6 => rw [Int.sub_zero, hn2]; exact nd_lt ha hn)
      (case kr => refine' awayCons ?_ (awayCons ?_ awayNil) <;> (dsimp only [ledA]; repeat' (first | exact neNil | refine' neCons ?_ ?_)) <;> dsimp only <;> omega)
      intro r T' h1 tk1 F2 N2 P2 st2 sz2 _
      obtain ⟨arr2, rfl, i2, rfl⟩ := P2
      dsimp only [ledA, List.cons_append, List.nil_append] at N2
      try dsimp only
      try k_fold
      k_steps
      refine' hret _ [(D, _), (30, _), (c', oc)] _ _ ?e1 ?e2 ?e3 ?e4 ?e5
      (case e1 => k_asm); (case e4 => exact EN'.stays (by assumption)); (case e5 => exact EN'.below (by assumption))
      (case e2 => (refine' News.less (by assumption) ?_; k_dflt (repeat' (first | exact subNil | (refine' subCons ?_ ?_) | (refine' subApp ?_ ?_) | k_mem | (intro p9 hp9; k_mem)))))
      (case e3 =>
        refine ⟨D, _, _, ?_, rfl, .made dc1 dc2 (by omega), newerOld (by simp) (newerOld (by simp) newerNil), ?_, rfl⟩
        · exact Nat.le_trans EN'.size (by omega)
        · have e : (List.replicate ((↑(Builtin.Int.intBits a) + n - 1).fdiv n).toNat [(0 : Int)]).flatten.take (Int.toNat 0) ++ digs n.toNat ((n1 : Int) - 0).toNat a.toNat ++ (List.replicate ((↑(Builtin.Int.intBits a) + n - 1).fdiv n).toNat [(0 : Int)]).flatten.drop (n1 : Int).toNat = digs n.toNat (((Builtin.Int.intBits a : Int) + n - 1).fdiv n).toNat a.toNat := by
            rw [List.drop_of_length_le (by rw [hlen, hn2]; exact Nat.le_refl _), List.append_nil, Int.sub_zero, hn2]
            rfl
          rw [← e]; exact i2)
    · rename_i o1 o2 o3 dd1 dd2 dd3 l' hA l1a D hB i1 n1 s1 e1 e2 e3 l1b hC oA dA f ct dc hD tkB l1c hE oI F1 N1 dI hz kF kN Tc kX
      subst hz
      refine' hret _ [(D, _), (30, _), (c', oc)] _ _ ?e1 ?e2 ?e3 ?e4 ?e5
      (case e1 => k_asm); (case e4 => exact EN'.stays (by assumption)); (case e5 => exact EN'.below (by assumption))
      (case e2 => (refine' News.less kN ?_; k_dflt (repeat' (first | exact subNil | (refine' subCons ?_ ?_) | (refine' subApp ?_ ?_) | k_mem | (intro p9 hp9; k_mem)))))
      (case e3 =>
        refine ⟨D, _, _, ?_, rfl, .made dc1 dc2 (by omega), newerOld (by simp) (newerOld (by simp) newerNil), ?_, rfl⟩
        · exact Nat.le_trans EN'.size (by omega)
        · rw [nd_zero hn]; exact .nil)
end Mine
end

theorem Mine.reset8 : True := by
  w_top off
  first | walk1 | exact True.intro

section
open PySem PySem.W PyProof.Rows PySem.Calls PySem.Spec
set_option compiler.extract_closed false
set_option Elab.async false
set_option linter.unusedVariables false
set_option linter.unusedSimpArgs false
set_option pp.maxSteps 2000
set_option pp.deepTerms false
set_option pp.deepTerms.threshold 10
namespace Mine
noncomputable def quB : Str := qualnameIn (envOfC (Str.ofString "_digits2int") (stS (nth PySem.Challenge.pw_hr0002_01.main.body 5)) 0 42 (.ref 41)) (Str.ofString "inner") (Str.ofString "inner")
theorem list_away {H g : Heap} {L l : Addr} {T : List (Addr × Obj)} {its : Array Value} (h : H.IsList l its) (e : Ent H g L T) (hl : l ∉ T.map (·.1)) : g.IsList l its :=
  let ⟨o, ho, r⟩ := h; ⟨o, e.sub _ _ ho hl, r⟩

set_option maxRecDepth 100000 in
set_option maxHeartbeats 8000000 in
theorem d2i_con (w : World) (l : Addr) (n : Int) (tn : Tok) (T : List (Addr × Obj)) (hT : TabSt 37 47 4 quB T) (hn : 1 ≤ n) (hn4 : n ≤ 4) (arr : List Value) (ds : List Int) (hi : IntsAre arr ds) (hd20 : ds.length ≤ 12) (hds : ∀ d ∈ ds, 0 ≤ d ∧ d < 2 ^ n.toNat)
    (hl : l ∉ T.map (·.1)) :
    Con w 42 [.ref l, .int n tn] (fun h => h.IsList l arr.toArray) T 40 400 (fun z r T' => ∃ v t, r = .int v t ∧ 0 ≤ v ∧ TabSt 37 47 4 quB T' ∧ Newer z T T') := by
  cases hT with
  | fresh =>
    unfold Con; k_fill; intro dp un gd cn cs c ccd cl outer A₀ base h₀ Lf m s Q E mean mg mb B F X N TT hk hd' hu hpre hret
    refine wpAny_call ?_; k_dflt (refine' enterKC ?k1 ?k2 ?k3 ?k4 ?k5 ?kA ?kF ?kK ?k6 ?k7 ?k8 ?k9 ?kB ?kD ?_ ?c2 ?c3 ?c4; (case kA => exact rfl); (case kF => exact rfl); (case kK => assumption); (case k1 => k_asm); (case k2 => k_asm); (case k3 => k_asm); (case k4 => k_asm); (case k5 => k_asm); (case k6 => k_is); (case k7 => k_is); (case k8 => first | exact Nat.lt_of_le_of_lt (Nat.le_add_right _ _) hd' | ktr_room); (case k9 => (refine' kp_binds ?kx ?ke; (case kx => k_in); (case ke => exact fun _ => rfl))); (case kB => exact rfl); (case kD => decide +kernel); (case c2 => exact rfl); (case c3 => exact rfl); (case c4 => exact rfl); k_whole; intro g' L' h' tk' cells' FG' F' N' Y' B' X' T' EN' l1; (try k_lt l1); k_cells Y'; (try simp only [List.cons_append, List.nil_append] at N'); (try dsimp only); (try k_lift B'); (try k_fold)); have CH' : CodeHd g' 34 30 := codeHd_of_K X' rfl; have CH2' : CodeHd g' 41 37 := codeHd_of_K X' rfl
    have hl' := list_away hpre EN' hl
    k_steps
    · rename_i o1 o2 o3 dd1 dd2 dd3 f c' oc vs t ct dc hA tkA dc1 dc2 l1a l2 hB oI F1 N1 dI hne
      have hlt : @LT.lt Nat _ l L' := Nat.lt_of_lt_of_le (by obtain ⟨o, ho, _⟩ := hpre; exact Heap.lt_size ho) EN'.size
      k_dflt (refine' Con.use (rest := [(37, _)]) (innB_con w n hn hn4 f c' (L'+1) (L'+1+1+1) (L'+1+1) l o3 oI o2 oc vs t tn _ dc _ ct dd3 dI dd2 dc1 dc2 _ _ _ rfl rfl rfl arr ds hi hd20 hds ?q1 ?q2 ?q3 ?q4 ?q5 12 _ _ _ _ ?h1 ?h2 ?h3 ?h4) ?k1 ?k2 ?k3 ?k4 ?k5 ?k6 ?k7 ?k8 ?kp ?kr ?_)
      (case k1 => k_asm); (case k2 => k_asm); (case k3 => k_asm); (case k5 => k_asm); (case k6 => first | exact rfl | assumption); (case k7 => first | exact room3 hd' (by decide) | ((try simp only [depth_under_make, depth_under_kw, depth_in1, depth_deeper, depth_caller] at *); omega)); (case k8 => first | exact room3 hu (by decide) | ((try simp only [units_in1, units_deeper, Around.mark_units, units_caller] at *); omega))
      (case k4 => (refine' News.less N1 ?_; k_dflt (repeat' (first | exact subNil | (refine' subCons ?_ ?_) | (refine' subApp ?_ ?_) | k_mem | (intro p9 hp9; k_mem)))))
      (case kp => exact hl'.at fun o e => F1.keep _ o e)
      (case q1 => omega)
      (case q2 => omega)
      (case q3 => omega)
      (case q4 => omega)
      (case q5 => first | omega | (have z := hl; simp only [List.map_cons, List.map_nil, List.mem_cons, List.not_mem_nil, or_false, not_or] at z; exact z.2))
      (case h1 => omega)
      (case h2 => omega)
      (case h3 => omega)
      (case h4 => omega)
      (case kr => refine' awayCons ?_ awayNil <;> (dsimp only [ledB]; repeat' (first | exact neNil | refine' neCons ?_ ?_)) <;> dsimp only <;> omega)
      intro r T₁ h1 tk1 F2 N2 P2 st2 sz2 _
      obtain ⟨v1, t1, rfl, v10, v11, rfl⟩ := P2
      dsimp only [ledB, List.cons_append, List.nil_append] at N2
      try dsimp only
      try k_fold
      k_steps
      refine' hret _ [(37, _), (c', oc)] _ _ ?e1 ?e2 ?e3 ?e4 ?e5
      (case e1 => k_asm); (case e4 => exact EN'.stays (by assumption)); (case e5 => exact EN'.below (by assumption))
      (case e2 => (refine' News.less (by assumption) ?_; k_dflt (repeat' (first | exact subNil | (refine' subCons ?_ ?_) | (refine' subApp ?_ ?_) | k_mem | (intro p9 hp9; k_mem)))))
      (case e3 => exact ⟨_, _, rfl, v10, .made dc1 dc2 (by omega), newerOld (by simp) (newerNew (Nat.le_trans EN'.size (by omega)) newerNil)⟩)
    · rename_i o1 o2 o3 dd1 dd2 dd3 f c' oc vs t ct dc hA tkA dc1 dc2 l1a l2 hB oI F1 N1 dI hz kF kN Tc kX
      refine' hret _ [(37, _), (c', oc)] _ _ ?e1 ?e2 ?e3 ?e4 ?e5
      (case e1 => k_asm); (case e4 => exact EN'.stays (by assumption)); (case e5 => exact EN'.below (by assumption))
      (case e2 => (refine' News.less kN ?_; k_dflt (repeat' (first | exact subNil | (refine' subCons ?_ ?_) | (refine' subApp ?_ ?_) | k_mem | (intro p9 hp9; k_mem)))))
      (case e3 => exact ⟨_, _, rfl, Int.le_refl 0, .made dc1 dc2 (by omega), newerOld (by simp) (newerNew (Nat.le_trans EN'.size (by omega)) newerNil)⟩)
  | @made c' oc vs t dc1 dc2 dc3 =>
    unfold Con; k_fill; intro dp un gd cn cs c ccd cl outer A₀ base h₀ Lf m s Q E mean mg mb B F X N TT hk hd' hu hpre hret
    refine wpAny_call ?_; k_dflt (refine' enterKC ?k1 ?k2 ?k3 ?k4 ?k5 ?kA ?kF ?kK ?k6 ?k7 ?k8 ?k9 ?kB ?kD ?_ ?c2 ?c3 ?c4; (case kA => exact rfl); (case kF => exact rfl); (case kK => assumption); (case k1 => k_asm); (case k2 => k_asm); (case k3 => k_asm); (case k4 => k_asm); (case k5 => k_asm); (case k6 => k_is); (case k7 => k_is); (case k8 => first | exact Nat.lt_of_le_of_lt (Nat.le_add_right _ _) hd' | ktr_room); (case k9 => (refine' kp_binds ?kx ?ke; (case kx => k_in); (case ke => exact fun _ => rfl))); (case kB => exact rfl); (case kD => decide +kernel); (case c2 => exact rfl); (case c3 => exact rfl); (case c4 => exact rfl); k_whole; intro g' L' h' tk' cells' FG' F' N' Y' B' X' T' EN' l1; (try k_lt l1); k_cells Y'; (try simp only [List.cons_append, List.nil_append] at N'); (try dsimp only); (try k_lift B'); (try k_fold)); have CH' : CodeHd g' 34 30 := codeHd_of_K X' rfl; have CH2' : CodeHd g' 41 37 := codeHd_of_K X' rfl
    have hl' := list_away hpre EN' hl
    k_steps
    · rename_i o1 o2 o3 dd1 dd2 dd3 f ct dc hA tkA l1a hB oI F1 N1 dI hne
      have hlt : @LT.lt Nat _ l L' := Nat.lt_of_lt_of_le (by obtain ⟨o, ho, _⟩ := hpre; exact Heap.lt_size ho) EN'.size
      k_dflt (refine' Con.use (rest := [(37, _)]) (innB_con w n hn hn4 f c' (L'+1) (L'+1+1+1) (L'+1+1) l o3 oI o2 oc vs t tn _ dc _ ct dd3 dI dd2 dc1 dc2 _ _ _ rfl rfl rfl arr ds hi hd20 hds ?q1 ?q2 ?q3 ?q4 ?q5 12 _ _ _ _ ?h1 ?h2 ?h3 ?h4) ?k1 ?k2 ?k3 ?k4 ?k5 ?k6 ?k7 ?k8 ?kp ?kr ?_)
      (case k1 => k_asm); (case k2 => k_asm); (case k3 => k_asm); (case k5 => k_asm); (case k6 => first | exact rfl | assumption); (case k7 => first | exact room3 hd' (by decide) | ((try simp only [depth_under_make, depth_under_kw, depth_in1, depth_deeper, depth_caller] at *); omega)); (case k8 => first | exact room3 hu (by decide) | ((try simp only [units_in1, units_deeper, Around.mark_units, units_caller] at *); omega))
      (case k4 => (refine' News.less N1 ?_; k_dflt (repeat' (first | exact subNil | (refine' subCons ?_ ?_) | (refine' subApp ?_ ?_) | k_mem | (intro p9 hp9; k_mem)))))
      (case kp => exact hl'.at fun o e => F1.keep _ o e)
      (case q1 => omega)
      (case q2 => omega)
      (case q3 => omega)
      (case q4 => omega)
      (case q5 => first | omega | (have z := hl; simp only [List.map_cons, List.map_nil, List.mem_cons, List.not_mem_nil, or_false, not_or] at z; exact z.2))
      (case h1 => omega)
      (case h2 => omega)
      (case h3 => omega)
      (case h4 => omega)
      (case kr => refine' awayCons ?_ awayNil <;> (dsimp only [ledB]; repeat' (first | exact neNil | refine' neCons ?_ ?_)) <;> dsimp only <;> omega)
      intro r T₁ h1 tk1 F2 N2 P2 st2 sz2 _
      obtain ⟨v1, t1, rfl, v10, v11, rfl⟩ := P2
      dsimp only [ledB, List.cons_append, List.nil_append] at N2
      try dsimp only
      try k_fold
      k_steps
      refine' hret _ [(37, _), (c', oc)] _ _ ?e1 ?e2 ?e3 ?e4 ?e5
      (case e1 => k_asm); (case e4 => exact EN'.stays (by assumption)); (case e5 => exact EN'.below (by assumption))
      (case e2 => (refine' News.less (by assumption) ?_; k_dflt (repeat' (first | exact subNil | (refine' subCons ?_ ?_) | (refine' subApp ?_ ?_) | k_mem | (intro p9 hp9; k_mem)))))
      (case e3 => exact ⟨_, _, rfl, v10, .made dc1 dc2 (by omega), newerOld (by simp) (newerOld (by simp) newerNil)⟩)
    · rename_i o1 o2 o3 dd1 dd2 dd3 f ct dc hA tkA l1a hB oI F1 N1 dI hz kF kN Tc kX
      refine' hret _ [(37, _), (c', oc)] _ _ ?e1 ?e2 ?e3 ?e4 ?e5
      (case e1 => k_asm); (case e4 => exact EN'.stays (by assumption)); (case e5 => exact EN'.below (by assumption))
      (case e2 => (refine' News.less kN ?_; k_dflt (repeat' (first | exact subNil | (refine' subCons ?_ ?_) | (refine' subApp ?_ ?_) | k_mem | (intro p9 hp9; k_mem)))))
      (case e3 => exact ⟨_, _, rfl, Int.le_refl 0, .made dc1 dc2 (by omega), newerOld (by simp) (newerOld (by simp) newerNil)⟩)
end Mine
end

theorem Mine.reset9 : True := by
  w_top off
  first | walk1 | exact True.intro

section
open PySem PySem.W PyProof.Rows PySem.Calls PySem.Spec
set_option compiler.extract_closed false
set_option Elab.async false
set_option linter.unusedVariables false
set_option linter.unusedSimpArgs false
set_option pp.maxSteps 2000
set_option pp.deepTerms false
set_option pp.deepTerms.threshold 10
namespace Mine
section
variable {prog : Program} {w : World} {A : Around} {E : Value → Shared → Prop} {s : Shared} {env : Env} {h₀ : Heap} {x : Str} {body : List Stmt} {Q : Flow → Shared → Prop} {I : Addr} {lp : Addr × Obj}
theorem rev_ind (J : List Value → (Str → Option Value) → List (Addr × Obj) → Prop)
    (done : ∀ m news h tk, J [] m news → Fr h₀ env.locals h m → News h₀ env.locals h news → Q .next { s with heap := h, toks := tk })
    (turn : ∀ v r m news (it : Obj) h tk, J (v :: r) m news → it.cls = .type "list_reverseiterator" → Fr h₀ env.locals h (fun y => if y = x then some v else m y) → News h₀ env.locals h ((I, it) :: news) →
      wpAny (model prog w) A (execs body env) (UnrPost h₀ env.locals { s with heap := h, toks := tk } I it (fun m' n' => lp ∈ n' ∧ J r m' n') Q) E { s with heap := h, toks := tk }) :
    ∀ r m news, J r m news → RevRest prog w A E h₀ env x body Q s I lp r m news := by
  intro r
  induction r with
  | nil => exact fun m news j => RevRest.zero fun h tk F N => done m news h tk j F N
  | cons v r ih =>
    intro m news j
    refine RevRest.succ fun it h tk hc F N => wpAny_mono (turn v r m news it h tk j hc F N) (fun f s₂ p => ?_) fun _ _ e => e
    cases f with
    | ret v => exact p
    | brk => exact p
    | next => obtain ⟨h', tk, m', n', e, F', N', o, hl, hj⟩ := p; exact ⟨h', tk, m', n', e, F', N', o, hl, ih _ _ hj⟩
    | cont => obtain ⟨h', tk, m', n', e, F', N', o, hl, hj⟩ := p; exact ⟨h', tk, m', n', e, F', N', o, hl, ih _ _ hj⟩
theorem list_ind (J : List Value → (Str → Option Value) → List (Addr × Obj) → Prop)
    (done : ∀ m news h tk, J [] m news → Fr h₀ env.locals h m → News h₀ env.locals h news → Q .next { s with heap := h, toks := tk })
    (turn : ∀ v r m news (it : Obj) h tk, J (v :: r) m news → it.cls = .type "list_iterator" → Fr h₀ env.locals h (fun y => if y = x then some v else m y) → News h₀ env.locals h ((I, it) :: news) →
      wpAny (model prog w) A (execs body env) (UnrPost h₀ env.locals { s with heap := h, toks := tk } I it (fun m' n' => lp ∈ n' ∧ J r m' n') Q) E { s with heap := h, toks := tk }) :
    ∀ r m news, J r m news → ListRest prog w A E h₀ env x body Q s I lp r m news := by
  intro r
  induction r with
  | nil => exact fun m news j => ListRest.zero fun h tk F N => done m news h tk j F N
  | cons v r ih =>
    intro m news j
    refine ListRest.succ fun it h tk hc F N => wpAny_mono (turn v r m news it h tk j hc F N) (fun f s₂ p => ?_) fun _ _ e => e
    cases f with
    | ret v => exact p
    | brk => exact p
    | next => obtain ⟨h', tk, m', n', e, F', N', o, hl, hj⟩ := p; exact ⟨h', tk, m', n', e, F', N', o, hl, ih _ _ hj⟩
    | cont => obtain ⟨h', tk, m', n', e, F', N', o, hl, hj⟩ := p; exact ⟨h', tk, m', n', e, F', N', o, hl, ih _ _ hj⟩
theorem range_ind {a : Int} {n : Nat} (J : Nat → (Str → Option Value) → List (Addr × Obj) → Prop)
    (done : ∀ m news h tk, J n m news → Fr h₀ env.locals h m → News h₀ env.locals h news → Q .next { s with heap := h, toks := tk })
    (turn : ∀ i m news t h tk, i < n → J i m news → Fr h₀ env.locals h (fun y => if y = x then some (.int (a + (i : Int)) t) else m y) → News h₀ env.locals h ((I, itR (a + ((i + 1 : Nat) : Int)) ((n : Int) - ((i + 1 : Nat) : Int))) :: news) →
      wpAny (model prog w) A (execs body env) (UnrPost h₀ env.locals { s with heap := h, toks := tk } I (itR (a + ((i + 1 : Nat) : Int)) ((n : Int) - ((i + 1 : Nat) : Int))) (J (i + 1)) Q) E { s with heap := h, toks := tk }) :
    ∀ k i m news, i + k = n → J i m news → RangeRest prog w A E h₀ env x body Q s I a n k i m news := by
  intro k
  induction k with
  | zero => exact fun i m news e j => RangeRest.zero fun h tk F N => done m news h tk (by rw [show i = n from by omega] at j; exact j) F N
  | succ k ih =>
    intro i m news e j
    refine RangeRest.succ fun t h tk F N => wpAny_mono (turn i m news t h tk (by omega) j F N) (fun f s₂ p => ?_) fun _ _ e => e
    cases f with
    | ret v => exact p
    | brk => exact p
    | next => obtain ⟨h', tk, m', n', e', F', N', o, hj⟩ := p; exact ⟨h', tk, m', n', e', F', N', o, ih _ _ _ (by omega) hj⟩
    | cont => obtain ⟨h', tk, m', n', e', F', N', o, hj⟩ := p; exact ⟨h', tk, m', n', e', F', N', o, ih _ _ _ (by omega) hj⟩
end
theorem offI_of {I : Addr} {it : Obj} : ∀ {l : List (Addr × Obj)}, (∀ p ∈ l, @Ne Nat p.1 I) → OffI I it l
  | [], _ => trivial
  | _ :: _, h => ⟨.inl (h _ (.head _)), offI_of fun p hp => h p (.tail _ hp)⟩
theorem neLt {d : Nat} {l : List (Addr × Obj)} (h : ∀ p ∈ l, @LT.lt Nat _ p.1 d) : ∀ p ∈ l, @Ne Nat p.1 d := fun p hp => Nat.ne_of_lt (h p hp)
theorem neAll {d : Nat} {l : List (Addr × Obj)} (h : AllLt d l) : ∀ p ∈ l, @Ne Nat p.1 d := neLt (ktn_ltOf h)
theorem neApp {b : Nat} {k l : List (Addr × Obj)} (hk : ∀ p ∈ k, @Ne Nat p.1 b) (hl : ∀ p ∈ l, @Ne Nat p.1 b) : ∀ p ∈ k ++ l, @Ne Nat p.1 b := fun p hp => (List.mem_append.mp hp).elim (hk p) (hl p)

/-- a frame's map in normal form: the names `fs` are forgotten, then c, then the rest -/
theorem norm1 {m m₀ : Str → Option Value} {a : Str} (h : ∀ y, y ≠ a → m y = m₀ y) : m = fun y => if y = a then m y else m₀ y := by
  funext y; by_cases h1 : y = a
  · rw [if_pos h1]
  · rw [if_neg h1]; exact h y h1
theorem norm2 {m m₀ : Str → Option Value} {a c : Str} {v : Value} (hc : m c = some v) (hca : c ≠ a) (h : ∀ y, y ≠ a → y ≠ c → m y = m₀ y) : m = fun y => if y = a then m y else if y = c then some v else m₀ y := by
  funext y; by_cases h1 : y = a
  · rw [if_pos h1]
  · rw [if_neg h1]
    by_cases h2 : y = c
    · rw [if_pos h2, h2, hc]
    · rw [if_neg h2]; exact h y h1 h2
theorem norm3 {m m₀ : Str → Option Value} {a b c : Str} {v : Value} (hc : m c = some v) (hca : c ≠ a) (hcb : c ≠ b) (h : ∀ y, y ≠ a → y ≠ b → y ≠ c → m y = m₀ y) : m = fun y => if y = a then m y else if y = b then m y else if y = c then some v else m₀ y := by
  funext y; by_cases h1 : y = a
  · rw [if_pos h1]
  · rw [if_neg h1]
    by_cases h2 : y = b
    · rw [if_pos h2]
    · rw [if_neg h2]
      by_cases h3 : y = c
      · rw [if_pos h3, h3, hc]
      · rw [if_neg h3]; exact h y h1 h2 h3
end Mine
end

section
local macro_rules | `(tactic| k_mem) => `(tactic| first | assumption | (refine' List.mem_append_left _ ?_; k_mem) | (refine' List.mem_append_right _ ?_; k_mem))
local macro_rules | `(tactic| k_all) => `(tactic| assumption)

theorem Mine.reset10 : True := by
  w_top off
  first | walk1 | exact True.intro

section
open PySem PySem.W PyProof.Rows PySem.Calls PySem.Spec
set_option compiler.extract_closed false
set_option Elab.async false
set_option linter.unusedVariables false
set_option linter.unusedSimpArgs false
set_option pp.maxSteps 2000
set_option pp.deepTerms false
set_option pp.deepTerms.threshold 10
namespace Mine
theorem TabSt.obj {P : Addr} {l c : Int} {qual : Str} {T : List (Addr × Obj)} (h : TabSt P l c qual T) {p : Addr × Obj} (hp : p ∈ T) :
    (p.1 = P ∧ ∃ ps, p.2 = tabObj ps ∧ ∀ x t, ps[1]? ≠ some (.str x t)) ∨ ∃ vs t, p.2.data = .fields vs ∧ vs[1]? = some (.str qual t) := by
  cases h with
  | fresh => rw [List.mem_singleton.mp hp]; exact .inl ⟨rfl, _, rfl, fun x t e => by simp at e⟩
  | made h1 h2 h3 =>
    rcases List.mem_cons.mp hp with rfl | hp
    · exact .inl ⟨rfl, _, rfl, fun x t e => by simp [rawInt] at e⟩
    · rw [List.mem_singleton.mp hp]; exact .inr ⟨_, _, h1, h2⟩
theorem tabs_apart {h₀ h : Heap} {L P P' : Addr} {l c l' c' : Int} {q q' : Str} {T T' news : List (Addr × Obj)} (N : News h₀ L h news) (hs : ∀ p ∈ T, p ∈ news) (hs' : ∀ p ∈ T', p ∈ news) (h1 : TabSt P l c q T) (h2 : TabSt P' l' c' q' T') (hP : P ≠ P') (hq : q ≠ q') :
    ∀ p ∈ T', p.1 ∉ T.map (·.1) := by
  intro p hp hm
  obtain ⟨x, hx, e⟩ := List.mem_map.mp hm
  have e1 := (N x (hs x hx)).1
  have e2 := (N p (hs' p hp)).1
  rw [e, e2] at e1
  have e3 : p.2 = x.2 := Option.some.inj e1
  rcases h1.obj hx with ⟨a1, ps, a2, a3⟩ | ⟨vs, t, a1, a2⟩ <;> rcases h2.obj hp with ⟨b1, ps', b2, b3⟩ | ⟨vs', t', b1, b2⟩
  · exact hP (by rw [← a1, ← b1, e])
  · rw [e3, a2] at b1
    cases b1
    exact a3 _ _ b2
  · rw [← e3, b2] at a1
    cases a1
    exact b3 _ _ a2
  · rw [e3, a1] at b1
    cases b1
    rw [a2] at b2
    cases b2
    exact hq rfl
theorem small_list {vs : List Value} {ns : List Int} (h : IntsAre vs ns) (hl : ns.length ≤ 1000) : vs.toArray.toList.length ≤ sizeLine := by
  have e : sizeLine = 16777216 := by decide
  rw [List.toList_toArray, h.length, e]; omega
theorem ints_snoc {vs : List Value} {ns : List Int} (h : IntsAre vs ns) (x : Int) (t : Tok) : IntsAre (vs ++ [.int x t]) (ns ++ [x]) := by
  induction h with
  | nil => exact .cons _ _ .nil
  | cons i t h ih => exact .cons i t ih
theorem quAB : quA ≠ quB := by decide +kernel

/-- both tables -/
def TabsOk (T : List (Addr × Obj)) : Prop := ∃ t30 t37, T = t30 ++ t37 ∧ TabSt 30 32 4 quA t30 ∧ TabSt 37 47 4 quB t37

set_option maxRecDepth 100000 in
set_option maxHeartbeats 8000000 in
theorem dmp_con (w : World) (a b : Int) (ta tb : Tok) (T : List (Addr × Obj)) (hT : TabsOk T) (ha : 0 ≤ a) (ha2 : a < 2 ^ 12) (hb : 0 < b) (hb2 : b < 16) :
    Con w 49 [.int a ta, .int b tb] (fun _ => True) T 60 600 (fun z r T' => ∃ l q t1 t2 T₁, z ≤ l ∧ r = .ref l ∧ TabsOk T₁ ∧ Newer z T T₁ ∧ T' = (l, { cls := .type "tuple", data := .seq #[.int q t1, .int (a % b) t2] }) :: T₁) := by
  obtain ⟨t30, t37, rfl, h30, h37⟩ := hT
  have hn4 : Builtin.Int.intBits b ≤ 4 := bits_le (k := 4) (by omega) hb2
  unfold Con; k_fill; intro dp un gd cn cs c ccd cl outer A₀ base h₀ Lf m s Q E mean mg mb B F X N TT hk hd' hu hpre hret
  refine wpAny_call ?_; k_dflt (refine' enterK ?k1 ?k2 ?k3 ?k4 ?k5 ?kA ?kF ?kK ?k6 ?k7 ?k8 ?k9 ?kB ?_ ?c2 ?c3 ?c4 ?c5; (case kA => exact rfl); (case kF => exact rfl); (case kK => assumption); (case k1 => k_asm); (case k2 => k_asm); (case k3 => k_asm); (case k4 => k_asm); (case k5 => k_asm); (case k6 => k_is); (case k7 => k_is); (case k8 => first | exact Nat.lt_of_le_of_lt (Nat.le_add_right _ _) hd' | ktr_room); (case k9 => first | exact BindsTo.of_eq rfl | (refine' kp_binds ?kx ?ke; (case kx => k_in); (case ke => exact fun _ => rfl))); (case c5 => decide); (case kB => exact locs rfl); (case c2 => exact rfl); (case c3 => exact rfl); (case c4 => exact rfl); k_whole; intro g' L' h' FG' F' N' B' X' T' EN'; (try dsimp only); (try k_fold)); have CH' : CodeHd g' 34 30 := codeHd_of_K X' rfl; have CH2' : CodeHd g' 41 37 := codeHd_of_K X' rfl
  k_steps
  rename_i hA F1 N1
  k_dflt (refine' Con.use (rest := t37) (i2d_con w a _ _ _ t30 h30 ha (by omega) ?q1 ?q2) ?k1 ?k2 ?k3 ?k4 ?k5 ?k6 ?k7 ?k8 True.intro ?kr ?_)
  (case k1 => k_asm); (case k2 => k_asm); (case k3 => k_asm); (case k5 => k_asm); (case k6 => first | exact rfl | assumption); (case k7 => first | exact room3 hd' (by decide) | ((try simp only [depth_under_make, depth_under_kw, depth_in1, depth_deeper, depth_caller] at *); omega)); (case k8 => first | exact room3 hu (by decide) | ((try simp only [units_in1, units_deeper, Around.mark_units, units_caller] at *); omega))
  (case k4 => (refine' News.less N1 ?_; k_dflt (repeat' (first | exact subNil | (refine' subCons ?_ ?_) | (refine' subApp ?_ ?_) | k_mem | (intro p9 hp9; k_mem)))))
  (case q1 => exact bits_pos (by omega))
  (case q2 => omega)
  (case kr => exact tabs_apart N1 (fun p hp => List.mem_append_left _ hp) (fun p hp => List.mem_append_right _ hp) h30 h37 (by decide) quAB)
  have zA := EN'.below F1
  clear N1 F1
  intro r T₂ h1 tk1 F2 N2 P2 st2 sz2 lt2
  obtain ⟨l, vs, t30', hzl, rfl, h30', hnw, i2, rfl⟩ := P2
  simp only [List.cons_append] at N2
  try dsimp only
  try k_fold
  k_steps
  rename_i hB hC lq hD l1a hE D hF F3 N3 l1b
  refine withMap F3 fun mm F3' hmm => ?_
  have hK := cdiv_le' (b := Builtin.Int.intBits a) (n := (Builtin.Int.intBits b : Int)) (bits_pos (by omega)) (bits_le (k := 12) ha ha2)
  have q1 : ∀ p ∈ t30' ++ t37, p.1 ≠ lq := neAll l1a.2
  have q2 : ∀ p ∈ t30' ++ t37, @Ne Nat p.1 D := neAll l1b.2.2
  k_dflt (refine' iter_revUnr (lo := W.listOf vs.toArray 0) (vs := vs) (n := 0) rfl F3' N3 (offI_of (neCons (by omega) (neCons (by omega) q2))) (by k_mem) rfl rfl ?_)
  refine rev_ind (J := fun r m news => ∃ (ds' : List Int) (rv : Int) (t : Tok) (u : Str → Option Value) (qvs : List Value) (qns : List Int) (ep : Nat), IntsAre r ds' ∧ 0 ≤ rv ∧ rv < b ∧ horn (2 ^ (Builtin.Int.intBits b : Int).toNat) rv ds' % b = a % b ∧ IntsAre qvs qns ∧ (∀ q ∈ qns, 0 ≤ q ∧ q < 2 ^ (Builtin.Int.intBits b : Int).toNat) ∧ qns.length + ds'.length ≤ 12 ∧ (∀ d ∈ ds', 0 ≤ d ∧ d < 2 ^ (Builtin.Int.intBits b : Int).toNat)
    ∧ m = (fun y => if y = Str.ofString "a_digit" then u y else if y = Str.ofString "q_digit" then u y else if y = Str.ofString "r" then some (.int rv t) else mm y) ∧ news = (lq, W.listOf qvs.toArray ep) :: (l, W.listOf vs.toArray 0) :: (t30' ++ t37)) ?done ?turn _ _ _ ?start
  case start =>
    refine' ⟨_, 0, _, mm, [], [], 0, IntsAre.reverse i2, Int.le_refl 0, hb, ?s1, .nil, (fun _ h => by cases h), ?s2, ?s3, ?s4, rfl⟩
    case s4 =>
      refine norm3 ?_ (by decide) (by decide) (fun _ _ _ _ => rfl)
      rw [hmm]
      exact rfl
    case s1 =>
      rw [horn_digs]
      · rw [show ((a.toNat : Nat) : Int) = a from Int.toNat_of_nonneg ha]
      · have e := nd_lt ha (bits_pos (b := b) (Int.ne_of_gt hb))
        have e2 : ((2 : Int) ^ ((Builtin.Int.intBits b : Int) * ((Builtin.Int.intBits a : Int) + (Builtin.Int.intBits b : Int) - 1).fdiv (Builtin.Int.intBits b : Int)).toNat) = ((2 ^ ((Builtin.Int.intBits b : Int).toNat * (((Builtin.Int.intBits a : Int) + (Builtin.Int.intBits b : Int) - 1).fdiv (Builtin.Int.intBits b : Int)).toNat) : Nat) : Int) := by
          rw [toNat_mul' (Int.natCast_nonneg _) (cdiv_nonneg (bits_pos (Int.ne_of_gt hb)))]; simp
        rw [e2] at e
        exact ar_lt e ha
    case s2 => rw [List.length_reverse, digs_length, List.length_nil, Nat.zero_add]; exact Int.toNat_le.mpr hK
    case s3 => exact fun d hd => digs_range _ _ _ d (List.mem_reverse.mp hd)
  case done =>
    rintro m news h tk ⟨ds', rv, t, u, qvs, qns, ep, j1, j2, j3, j4, j5, j6, j7, j8, rfl, rfl⟩ F4 N4
    cases j1
    subst hmm
    clear F3 F3' N3
    try dsimp only
    try k_fold
    k_steps
    rename_i hG
    k_dflt (refine' kl_reverse ?k1 ?k2 rfl ?kU ?kz ?_; (case k1 => k_asm); (case k2 => k_asm); (case kU => k_upd); (case kz => exact small_list j5 (by omega)))
    intro h5 F5 N5
    have i5 := IntsAre.reverse j5
    try dsimp only
    try k_fold
    k_steps
    have q5 : lq ∉ t37.map (·.1) := by
      intro hm
      obtain ⟨p, hp, e⟩ := List.mem_map.mp hm
      exact q1 p (List.mem_append_right _ hp) e
    k_dflt (refine' Con.use (rest := (lq, _) :: t30') (d2i_con w lq _ _ t37 h37 (bits_pos (by omega)) (by omega) _ _ i5 ?g1 ?g2 q5) ?k1 ?k2 ?k3 ?k4 ?k5 ?k6 ?k7 ?k8 ?kp ?kr ?_)
    (case k1 => k_asm); (case k2 => k_asm); (case k3 => k_asm); (case k5 => k_asm); (case k6 => first | exact rfl | assumption); (case k7 => first | exact room3 hd' (by decide) | ((try simp only [depth_under_make, depth_under_kw, depth_in1, depth_deeper, depth_caller] at *); omega)); (case k8 => first | exact room3 hu (by decide) | ((try simp only [units_in1, units_deeper, Around.mark_units, units_caller] at *); omega))
    (case k4 => (refine' News.less N5 ?_; k_dflt (repeat' (first | exact subNil | (refine' subCons ?_ ?_) | (refine' subApp ?_ ?_) | k_mem | (intro p9 hp9; k_mem)))))
    (case kp => exact News.isList N5 (by k_mem))
    (case g1 => rw [List.length_reverse]; simp only [List.length_nil] at j7; omega)
    (case g2 => exact fun d hd => j6 d (List.mem_reverse.mp hd))
    (case kr => exact awayCons (fun p hp => q1 p (List.mem_append_right _ hp)) (tabs_apart N5 (fun p hp => List.mem_cons_of_mem _ (List.mem_cons_of_mem _ (List.mem_append_right _ hp))) (fun p hp => List.mem_cons_of_mem _ (List.mem_cons_of_mem _ (List.mem_append_left _ hp))) h37 h30' (by decide) (Ne.symm quAB)))
    intro r9 T9 h9 tk9 F9 N9 P9 st9 sz9 lt9
    obtain ⟨qv, t9, rfl, hq0, h37', hnw'⟩ := P9
    try dsimp only
    try k_fold
    k_steps
    rename_i hK8 hL8 D8 hM8 F8 N8 l8 kF8 kN8 Tc8 kX8
    have e : rv = a % b := by
      rw [← j4]
      show rv = rv % b
      rw [Int.emod_eq_of_lt j2 j3]
    subst e
    have zB := EN'.below F5
    have l8' : @LT.lt Nat _ lq D8 := ktn_ltOf l8 (lq, _) (List.mem_append_right _ (List.mem_cons_self ..))
    refine' hret _ ((D8, _) :: (t30' ++ T9)) _ _ ?e1 ?e2 ?e3 ?e4 ?e5
    (case e1 => k_asm); (case e4 => exact EN'.stays (by assumption)); (case e5 => exact EN'.below (by assumption))
    (case e2 => (refine' News.less kN8 ?_; k_dflt (repeat' (first | exact subNil | (refine' subCons ?_ ?_) | (refine' subApp ?_ ?_) | k_mem | (intro p9 hp9; k_mem)))))
    (case e3 => exact ⟨_, _, _, _, _, (by dsimp only at hzl zA; omega), rfl, ⟨_, _, rfl, h30', h37'⟩, Newer.app (hnw.le zA) (hnw'.le zB), rfl⟩)
  case turn =>
    rintro v r m news it h tk ⟨ds', rv, t, u, qvs, qns, ep, j1, j2, j3, j4, j5, j6, j7, j8, rfl, rfl⟩ hit F4 N4
    cases j1 with
    | cons d td j1' =>
    subst hmm
    clear F3 F3' N3
    try dsimp only
    try k_fold
    k_steps
    rename_i hG ns
    have d1 := j8 d (.head _)
    have e1 := small_turn j2 (Int.lt_trans j3 hb2) d1.1 d1.2 (show (Builtin.Int.intBits b : Int).toNat ≤ 4 from hn4)
    k_dflt (refine' Con.use1 (div2n1n_con w _ b _ _ _ _ [] e1.1 e1.2 hb (by omega) (by omega)) ?k1 ?k2 ?k3 ?k4 ?k5 ?k6 ?k7 ?k8 True.intro ?_)
    (case k1 => k_asm); (case k2 => k_asm); (case k3 => k_asm); (case k5 => k_asm); (case k6 => first | exact rfl | assumption); (case k7 => first | exact room3 hd' (by decide) | ((try simp only [depth_under_make, depth_under_kw, depth_in1, depth_deeper, depth_caller] at *); omega)); (case k8 => first | exact room3 hu (by decide) | ((try simp only [units_in1, units_deeper, Around.mark_units, units_caller] at *); omega))
    (case k4 => k_asm)
    intro r9 T9 h9 tk9 F9 N9 P9 st9 sz9 lt9
    obtain ⟨t1, t2, l9, hz9, rfl, rfl⟩ := P9
    simp only [List.cons_append, List.nil_append] at N9
    have l8 := allLt_of lt9
    simp only [AllLt] at l8
    dsimp only at l8 hz9
    try dsimp only
    try k_fold
    k_steps
    rename_i hH8 hI8 hJ8 hK8 F8 N8
    have e3 := turn_facts (k := (Builtin.Int.intBits b : Int).toNat) (ns := ns) j2 j3 d1.1 d1.2
    rw [List.push_toArray] at N8
    refine withMap F8 fun m8 F8' hm8 => ?_
    refine' UnrEnd.intro F8' N8 ((lq, W.listOf (qvs ++ [Value.int ((rv * 2 ^ (Builtin.Int.intBits b : Int).toNat + d).fdiv b) t1]).toArray (ep + 1)) :: (l, W.listOf vs.toArray 0) :: (t30' ++ t37)) ?u1 ?u2 ⟨List.mem_cons_of_mem _ (List.mem_cons_self ..), ns, (rv * 2 ^ (Builtin.Int.intBits b : Int).toNat + d).fmod b, t2, m8, qvs ++ [Value.int ((rv * 2 ^ (Builtin.Int.intBits b : Int).toNat + d).fdiv b) t1], qns ++ [(rv * 2 ^ (Builtin.Int.intBits b : Int).toNat + d).fdiv b], ep + 1, j1', e3.1, e3.2.1, ?u3, ints_snoc j5 _ _, ?u4, ?u5, (fun x hx => j8 x (.tail _ hx)), ?u6, rfl⟩
    case u6 =>
      refine norm3 ?_ (by decide) (by decide) ?_
      · rw [hm8]; exact rfl
      · intro y h1 h2 h3
        rw [hm8]
        simp only [h1, h2, h3, if_false]
    case u1 => k_dflt (repeat' (first | exact subNil | (refine' subCons ?_ ?_) | (refine' subApp ?_ ?_) | k_mem | (intro p9 hp9; k_mem)))
    case u2 => exact neCons (by omega) (neCons (by omega) q2)
    case u3 => rw [e3.2.2.1]; exact j4
    case u4 =>
      intro q hq
      rcases List.mem_append.mp hq with hq | hq
      · exact j6 q hq
      · rw [List.mem_singleton.mp hq]; exact e3.2.2.2
    case u5 => simp only [List.length_append, List.length_cons, List.length_nil] at j7 ⊢; omega
end Mine
end

theorem Mine.reset11 : True := by
  w_top off
  first | walk1 | exact True.intro

section
open PySem PySem.W PyProof.Rows PySem.Calls PySem.Spec
set_option compiler.extract_closed false
set_option Elab.async false
set_option linter.unusedVariables false
set_option linter.unusedSimpArgs false
set_option pp.maxSteps 2000
set_option pp.deepTerms false
set_option pp.deepTerms.threshold 10
namespace Mine
/-- what a call of int_divmod hands on -/
abbrev DivPost (T : List (Addr × Obj)) (c : Int) (z : Nat) (r : Value) (T' : List (Addr × Obj)) : Prop :=
  ∃ l q t1 t2 T₁, @LE.le Nat _ z l ∧ r = .ref l ∧ TabsOk T₁ ∧ Newer z T T₁ ∧ T' = (l, { cls := .type "tuple", data := .seq #[.int q t1, .int c t2] }) :: T₁
set_option maxRecDepth 100000 in
set_option maxHeartbeats 8000000 in
theorem idm_con (w : World) (a b : Int) (ta tb : Tok) (T : List (Addr × Obj)) (hT : TabsOk T) (ha : 0 ≤ a) (ha2 : a < 2 ^ 12) (hb : 0 < b) (hb2 : b < 16) :
    Con w 56 [.int a ta, .int b tb] (fun _ => True) T 70 700 (DivPost T (a % b)) := by
  unfold Con; k_fill; intro dp un gd cn cs c ccd cl outer A₀ base h₀ Lf m s Q E mean mg mb B F X N TT hk hd' hu hpre hret
  refine wpAny_call ?_; k_dflt (refine' enterK ?k1 ?k2 ?k3 ?k4 ?k5 ?kA ?kF ?kK ?k6 ?k7 ?k8 ?k9 ?kB ?_ ?c2 ?c3 ?c4 ?c5; (case kA => exact rfl); (case kF => exact rfl); (case kK => assumption); (case k1 => k_asm); (case k2 => k_asm); (case k3 => k_asm); (case k4 => k_asm); (case k5 => k_asm); (case k6 => k_is); (case k7 => k_is); (case k8 => first | exact Nat.lt_of_le_of_lt (Nat.le_add_right _ _) hd' | ktr_room); (case k9 => first | exact BindsTo.of_eq rfl | (refine' kp_binds ?kx ?ke; (case kx => k_in); (case ke => exact fun _ => rfl))); (case c5 => decide); (case kB => exact locs rfl); (case c2 => exact rfl); (case c3 => exact rfl); (case c4 => exact rfl); k_whole; intro g' L' h' FG' F' N' B' X' T' EN'; (try dsimp only); (try k_fold)); have CH' : CodeHd g' 34 30 := codeHd_of_K X' rfl; have CH2' : CodeHd g' 41 37 := codeHd_of_K X' rfl
  k_steps
  any_goals (exfalso; omega)
  k_dflt (refine' Con.use0 (dmp_con w a b _ _ T hT ha ha2 hb hb2) ?k1 ?k2 ?k3 ?k4 ?k5 ?k6 ?k7 ?k8 True.intro ?_)
  (case k1 => k_asm); (case k2 => k_asm); (case k3 => k_asm); (case k5 => k_asm); (case k6 => first | exact rfl | assumption); (case k7 => first | exact room3 hd' (by decide) | ((try simp only [depth_under_make, depth_under_kw, depth_in1, depth_deeper, depth_caller] at *); omega)); (case k8 => first | exact room3 hu (by decide) | ((try simp only [units_in1, units_deeper, Around.mark_units, units_caller] at *); omega))
  (case k4 => k_asm)
  have zA := EN'.below (by assumption)
  intro r T₂ h1 tk1 F2 N2 P2 st2 sz2
  obtain ⟨l, q, t1, t2, T₁, hz, rfl, hT1, hn, rfl⟩ := P2
  try dsimp only
  try k_fold
  k_steps
  refine' hret _ _ _ _ ?e1 ?e2 ?e3 ?e4 ?e5
  (case e1 => k_asm); (case e4 => exact EN'.stays (by assumption)); (case e5 => exact EN'.below (by assumption))
  (case e2 => k_asm)
  (case e3 => exact ⟨_, _, _, _, _, Nat.le_trans zA hz, rfl, hT1, hn.le zA, rfl⟩)
end Mine
end

theorem Mine.reset12 : True := by
  w_top off
  first | walk1 | exact True.intro

section
open PySem PySem.W PyProof.Rows PySem.Calls PySem.Spec
set_option compiler.extract_closed false
set_option Elab.async false
set_option linter.unusedVariables false
set_option linter.unusedSimpArgs false
set_option pp.maxSteps 2000
set_option pp.deepTerms false
set_option pp.deepTerms.threshold 10
namespace Mine
section
variable {prog : Program} {w : World} {A : Around} {E : Value → Shared → Prop} {s : Shared} {a b : Addr} {x1 x2 y1 y2 : Int} {t1 t2 u1 u2 : Tok} {oa ob : Obj} {na nb : Nat}
theorem eqB_int {x y : Int} {t u : Tok} {Q : Bool → Shared → Prop} (h : Q (decide (x = y)) s) : wpAny (model prog w) A (eqBool (.int x t) (.int y u)) Q E s :=
  (intKind prog w).eqBool (a := x) (b := y) (intKind_is prog w x t) (intKind_is prog w y u) h
theorem lt_tree {P : Fin → Shared → Prop} (ha : s.heap.get? a = some oa) (ca : oa.cls = .type "tuple") (da : oa.data = .seq #[.int x1 t1, .int x2 t2] na) (hb : s.heap.get? b = some ob) (cb : ob.cls = .type "tuple") (db : ob.data = .seq #[.int y1 u1, .int y2 u2] nb)
    (h : P (.done (.ret (.bool (decide (x1 < y1 ∨ (x1 = y1 ∧ x2 < y2)))))) s) :
    wpAny (model prog w) A (Builtin.«tuple.__lt__» ⟨[.ref a, .ref b], []⟩) P E s := by
  show wpAny _ _ (isInstance (.ref b) (.type "tuple") >>= _) _ _ s
  refine wpAny_bind (wpAny_isInstance ⟨ob, hb, cb⟩ isSubtype_tuple_tuple ?_)
  simp only [Bool.not_true, Bool.false_eq_true, if_false]
  refine wpAny_bind (wpAny_tupleItemsOf ha da ?_)
  refine wpAny_bind (wpAny_tupleItemsOf hb db ?_)
  refine wpAny_bind ?_
  show wpAny _ _ (forIn [((Value.int x1 t1), (Value.int y1 u1)), ((Value.int x2 t2), (Value.int y2 u2))] _ _) _ _ s
  rw [List.forIn_cons]
  refine wpAny_bind (wpAny_bind (eqB_int ?_))
  by_cases e1 : x1 = y1
  · subst e1
    rw [decide_eq_true rfl]
    simp only [Bool.not_true, Bool.false_eq_true, if_false]
    refine wpAny_pure ?_
    dsimp only
    rw [List.forIn_cons]
    refine wpAny_bind (wpAny_bind (eqB_int ?_))
    by_cases e2 : x2 = y2
    · subst e2
      rw [decide_eq_true rfl]
      simp only [Bool.not_true, Bool.false_eq_true, if_false]
      refine wpAny_pure ?_
      dsimp only
      rw [List.forIn_nil]
      refine wpAny_pure (wpAny_pure ?_)
      have e : decide (x1 < x1 ∨ (x1 = x1 ∧ x2 < x2)) = false := decide_eq_false (by omega)
      rw [e] at h
      exact h
    · rw [decide_eq_false e2]
      simp only [Bool.not_false, if_true]
      have e : decide (x1 < x1 ∨ (x1 = x1 ∧ x2 < y2)) = decide (x2 < y2) := decide_eq_decide.mpr (by omega)
      rw [e] at h
      exact wpAny_bind (wpAny_rule (wpAny_bind (wpAny_lt_int (wpAny_bind (wpAny_pure (wpAny_pure (wpAny_pure (wpAny_pure h))))))))
  · rw [decide_eq_false e1]
    simp only [Bool.not_false, if_true]
    have e : decide (x1 < y1 ∨ (x1 = y1 ∧ x2 < y2)) = decide (x1 < y1) := decide_eq_decide.mpr (by omega)
    rw [e] at h
    exact wpAny_bind (wpAny_rule (wpAny_bind (wpAny_lt_int (wpAny_bind (wpAny_pure (wpAny_pure (wpAny_pure (wpAny_pure h))))))))

theorem lt_pair {Q : Value → Shared → Prop} (hu : A.units < cLine) (ha : s.heap.get? a = some oa) (ca : oa.cls = .type "tuple") (da : oa.data = .seq #[.int x1 t1, .int x2 t2] na) (hb : s.heap.get? b = some ob) (cb : ob.cls = .type "tuple") (db : ob.data = .seq #[.int y1 u1, .int y2 u2] nb)
    (h : Q (.bool (decide (x1 < y1 ∨ (x1 = y1 ∧ x2 < y2)))) s) : wpAny (model prog w) A (compareOp .Lt (.ref a) (.ref b)) Q E s := by
  show wpAny _ _ (richCompare .Lt (.ref a) (.ref b)) Q E s
  have hTa : s.TypeIs (.ref a) "tuple" := ⟨oa, ha, ca⟩
  have hTb : s.TypeIs (.ref b) "tuple" := ⟨ob, hb, cb⟩
  exact wpAny_richCompare_same_room (op := .Lt) hTa hTb F.slot_tuple_lt
    (wpAny_call_entry F.slot_tuple_lt hTa F.entry_tuple_lt (lt_tree ha ca da hb cb db ⟨_, rfl, (fun e => nomatch e), h⟩) (F.args_tuple_lt_2 _ _)) hu
end
end Mine
end

theorem Mine.reset13 : True := by
  w_top off
  first | walk1 | exact True.intro

section
open PySem PySem.W PyProof.Rows PySem.Calls PySem.Spec
set_option compiler.extract_closed false
set_option Elab.async false
set_option linter.unusedVariables false
set_option linter.unusedSimpArgs false
set_option pp.maxSteps 2000
set_option pp.deepTerms false
set_option pp.deepTerms.threshold 10
namespace Mine
/-- `v < x` for the i-th item v of vs tells whether i lies below pos; C is what it needs of the heap -/
structure Cmp (w : World) (C : Heap → Prop) (vs : List Value) (x : Value) (pos : Nat) : Prop where
  keeps : ∀ h h', C h → (∀ b o, h.get? b = some o → h'.get? b = some o) → C h'
  lt : ∀ (A : Around) (i : Nat) (v : Value) (s : Shared) (Q E : Value → Shared → Prop), vs[i]? = some v → C s.heap → A.units < cLine → Q (.bool (decide (i < pos))) s → wpAny (model PySem.Challenge.rw_hr0002_01.row.prog w) A (compareOp .Lt v x) Q E s
theorem norm4 {m m₀ : Str → Option Value} {a c d : Str} {v v' : Value} (hc : m c = some v) (hd : m d = some v') (hca : c ≠ a) (hda : d ≠ a) (hdc : d ≠ c) (h : ∀ y, y ≠ a → y ≠ c → y ≠ d → m y = m₀ y) : m = fun y => if y = a then m y else if y = c then some v else if y = d then some v' else m₀ y := by
  funext y; by_cases h1 : y = a
  · rw [if_pos h1]
  · rw [if_neg h1]
    by_cases h2 : y = c
    · rw [if_pos h2, h2, hc]
    · rw [if_neg h2]
      by_cases h3 : y = d
      · rw [if_pos h3, h3, hd]
      · rw [if_neg h3]; exact h y h1 h2 h3

local macro_rules | `(tactic| walk_at "exec While Compare cons nil") => `(tactic| (refine Hold.halt ?_))
theorem lk_peek {K : Frag} {f : Addr} {oc oc' : Value} {od od' : Option Addr} {fd fd' : FuncData} {osl osl' : Array (Option Value)} {args : Args} {binds : List (Str × Value)} (h1 : K.lookup f = some ⟨oc, od, .func fd, osl⟩) (h2 : K.lookup f = some ⟨oc', od', .func fd', osl'⟩) (hb : ∀ S, peek K S (bindArgs fd args) = some binds) : ∀ S, peek K S (bindArgs fd' args) = some binds := by
  cases h1.symm.trans h2; exact hb
set_option maxRecDepth 100000 in
set_option maxHeartbeats 8000000 in
theorem bis_gen (w : World) (al : List Value) (t0 : Tok) (l : Addr) (vs : List Value) (x : Value) (pos : Nat) (hpos : pos ≤ vs.length) (hlen : vs.length ≤ 64) (C : Heap → Prop) (hC : Cmp w C vs x pos)
    (hb : ∃ oc od fd osl, (hd.heap_39 w.params).lookup 74 = some ⟨oc, od, .func fd, osl⟩ ∧ ∀ S, peek (hd.heap_39 w.params) S (bindArgs fd ⟨al, []⟩) = some [(Str.ofString "a", .ref l), (Str.ofString "x", x), (Str.ofString "lo", .int 0 t0), (Str.ofString "hi", .none), (Str.ofString "key", .none)]) :
    Con w 74 al (fun h => h.IsList l vs.toArray ∧ C h) [] 10 100 (fun z r T' => ∃ t, r = .int (pos : Int) t ∧ T' = []) := by
  obtain ⟨ocb, odb, fdb, osb, hb1, hb2⟩ := hb
  unfold Con; k_fill; intro dp un gd cn cs c ccd cl outer A₀ base h₀ Lf m s Q E mean mg mb B F X N TT hk hd' hu hpre hret
  refine wpAny_call ?_; k_dflt (refine' enterK ?k1 ?k2 ?k3 ?k4 ?k5 ?kA ?kF ?kK ?k6 ?k7 ?k8 ?k9 ?kB ?_ ?c2 ?c3 ?c4 ?c5; (case kA => exact rfl); (case kF => exact rfl); (case kK => assumption); (case k1 => k_asm); (case k2 => k_asm); (case k3 => k_asm); (case k4 => k_asm); (case k5 => k_asm); (case k6 => k_is); (case k7 => k_is); (case k8 => first | exact Nat.lt_of_le_of_lt (Nat.le_add_right _ _) hd' | ktr_room); (case k9 => (refine' kp_binds ?kx (lk_peek hb1 ?ky hb2); (case kx => k_in); (case ky => (refine' Eq.trans ?kp ?kq; (case kp => k_is); (case kq => rfl))))); (case c5 => decide); (case kB => exact locs rfl); (case c2 => exact rfl); (case c3 => exact rfl); (case c4 => exact rfl); k_whole; intro g' L' h' FG' F' N' B' X' T' EN'; (try dsimp only); (try k_fold)); have CH' : CodeHd g' 34 30 := codeHd_of_K X' rfl; have CH2' : CodeHd g' 41 37 := codeHd_of_K X' rfl
  have hl' : g'.IsList l vs.toArray := let ⟨o, ho, q⟩ := hpre.1; ⟨o, EN'.sub _ _ ho (fun h => by cases h), q⟩
  have hc' : C g' := hC.keeps _ _ hpre.2 fun b o e => EN'.sub _ _ e (fun h => by cases h)
  k_steps
  have ln : vs.toArray.size = vs.length := List.size_toArray
  refine Calls.call_len_list (hl'.at fun o e => F'.keep _ o e) (by omega) ?_
  rw [ln]
  try dsimp only
  try k_fold
  k_steps
  refine Hold.on ?_
  rename_i hA F1 N1
  refine withMap F1 fun mm F1' hmm => ?_
  refine While_inv2 (n₀ := vs.length) (fun n m news => ∃ (lo hi : Int) (tl th : Tok) (u : Str → Option Value), 0 ≤ lo ∧ lo ≤ (pos : Int) ∧ (pos : Int) ≤ hi ∧ hi ≤ vs.length ∧ n = (hi - lo).toNat ∧ m = (fun y => if y = Str.ofString "mid" then u y else if y = Str.ofString "lo" then some (.int lo tl) else if y = Str.ofString "hi" then some (.int hi th) else mm y) ∧ news = []) F1' N1 ?start ?turn
  case start =>
    refine' ⟨0, vs.length, _, _, mm, Int.le_refl 0, Int.natCast_nonneg _, Int.ofNat_le.mpr hpos, Int.le_refl _, (by rw [Int.sub_zero]; rfl), ?s1, rfl⟩
    case s1 =>
      refine norm4 ?_ ?_ (by decide) (by decide) (by decide) (fun _ _ _ _ => rfl)
      · rw [hmm]; exact rfl
      · rw [hmm]; exact rfl
  case turn =>
    rintro n m news h tk F2 N2 ⟨lo, hi, tl, th, u, j0, j1, j2, j3, rfl, rfl, rfl⟩
    subst hmm
    clear F1 F1' N1
    try dsimp only
    try k_fold
    k_steps
    · rename_i hlt hB F3 N3
      have hm2 : (lo + hi).fdiv 2 = (lo + hi) / 2 := Int.fdiv_eq_ediv_of_nonneg _ (by decide)
      obtain ⟨v, hv⟩ : ∃ v, vs[((lo + hi).fdiv 2).toNat]? = some v := ⟨_, List.getElem?_eq_getElem (ar_lt (Int.lt_of_lt_of_le (mid_lt hlt) j3) (Int.le_trans j0 (mid_ge hlt)))⟩
      have hl3 := hl'.at fun o e => F3.keep _ o e
      refine tail_any hl3.typeIs slot_list_getitem.lookup (wpAny_getItem_list hl3 (by omega) (by omega) (by simpa using hv) ?_) (by with_unfolding_all rfl)
      clear hm2
      try dsimp only
      try k_fold
      k_steps
      refine hC.lt _ _ v _ _ _ hv (hC.keeps _ _ hc' fun b o e => F3.keep _ o e) ?_ ?_
      · show un + 3 < cLine
        omega
      try dsimp only
      try k_fold
      k_steps
      · rename_i hcm hC4 F4 N4
        have hm2 : (lo + hi).fdiv 2 = (lo + hi) / 2 := Int.fdiv_eq_ediv_of_nonneg _ (by decide)
        refine withMap F4 fun m4 F4' hm4 => ?_
        refine' ⟨_, _, m4, [], (hi - ((lo + hi).fdiv 2 + 1)).toNat, rfl, F4', N4, ar_less (Int.lt_add_one_of_le (mid_ge hlt)) (mid_lt hlt), (lo + hi).fdiv 2 + 1, hi, _, th, m4, Int.le_trans (Int.le_trans j0 (mid_ge hlt)) (Int.le_of_lt (Int.lt_add_one_of_le (Int.le_refl _))), by omega, by omega, by omega, rfl, ?s2, rfl⟩
        case s2 =>
          refine norm4 ?_ ?_ (by decide) (by decide) (by decide) ?_
          · rw [hm4]; exact rfl
          · rw [hm4]; exact rfl
          · intro y h1 h2 h3
            rw [hm4]
            simp only [h1, h2, h3, if_false]
      · rename_i hcm hC4 F4 N4
        have hm2 : (lo + hi).fdiv 2 = (lo + hi) / 2 := Int.fdiv_eq_ediv_of_nonneg _ (by decide)
        refine withMap F4 fun m4 F4' hm4 => ?_
        refine' ⟨_, _, m4, [], ((lo + hi).fdiv 2 - lo).toNat, rfl, F4', N4, ar_less2 (mid_ge hlt) (mid_lt hlt), lo, (lo + hi).fdiv 2, tl, _, m4, j0, j1, by omega, Int.le_trans (Int.le_of_lt (mid_lt hlt)) j3, rfl, ?s3, rfl⟩
        case s3 =>
          refine norm4 ?_ ?_ (by decide) (by decide) (by decide) ?_
          · rw [hm4]; exact rfl
          · rw [hm4]; exact rfl
          · intro y h1 h2 h3
            rw [hm4]
            simp only [h1, h2, h3, if_false]
    · rename_i hge kF kN Tc kX
      have e : lo = (pos : Int) := by omega
      subst e
      refine' hret _ _ _ _ ?e1 ?e2 ?e3 ?e4 ?e5
      (case e1 => k_asm); (case e4 => exact EN'.stays (by assumption)); (case e5 => exact EN'.below (by assumption))
      (case e2 => k_asm)
      (case e3 => exact ⟨_, rfl, rfl⟩)
theorem bis_con (w : World) (l : Addr) (vs : List Value) (x : Value) (pos : Nat) (hpos : pos ≤ vs.length) (hlen : vs.length ≤ 64) (C : Heap → Prop) (hC : Cmp w C vs x pos) :
    Con w 74 [.ref l, x] (fun h => h.IsList l vs.toArray ∧ C h) [] 10 100 (fun z r T' => ∃ t, r = .int (pos : Int) t ∧ T' = []) := by
  exact bis_gen w _ _ l vs x pos hpos hlen C hC ⟨_, _, _, _, by k_is, by exact fun _ => rfl⟩
theorem bis_con4 (w : World) (t0 : Tok) (l : Addr) (vs : List Value) (x : Value) (pos : Nat) (hpos : pos ≤ vs.length) (hlen : vs.length ≤ 64) (C : Heap → Prop) (hC : Cmp w C vs x pos) :
    Con w 74 [.ref l, x, .int 0 t0, .none] (fun h => h.IsList l vs.toArray ∧ C h) [] 10 100 (fun z r T' => ∃ t, r = .int (pos : Int) t ∧ T' = []) := by
  exact bis_gen w _ t0 l vs x pos hpos hlen C hC ⟨_, _, _, _, by k_is, by exact fun _ => rfl⟩
end Mine
end

theorem Mine.reset14 : True := by
  w_top off
  first | walk1 | exact True.intro

section
open PySem PySem.W PyProof.Rows PySem.Calls PySem.Spec
set_option compiler.extract_closed false
set_option Elab.async false
set_option linter.unusedVariables false
set_option linter.unusedSimpArgs false
set_option pp.maxSteps 2000
set_option pp.deepTerms false
set_option pp.deepTerms.threshold 10
namespace Mine
theorem ins_eq {vs : List Value} {pos : Nat} {x : Value} (h : pos ≤ vs.length) : kl_ins vs.toArray.toList (pos : Int) x = vs.take pos ++ x :: vs.drop pos := by
  unfold kl_ins
  rw [List.toList_toArray, if_neg (by omega), Int.toNat_natCast, Nat.min_eq_left h]
set_option maxRecDepth 100000 in
set_option maxHeartbeats 8000000 in
theorem ins_con (w : World) (l : Addr) (vs : List Value) (ep : Nat) (x : Value) (pos : Nat) (hpos : pos ≤ vs.length) (hlen : vs.length ≤ 64) (C : Heap → Prop) (hC : Cmp w C vs x pos) (hCl : ∀ h h', C h → (∀ b o, h.get? b = some o → b ≠ l → h'.get? b = some o) → C h') :
    Con w 65 [.ref l, x] (fun h => C h) [(l, W.listOf vs.toArray ep)] 20 200 (fun z r T' => r = .none ∧ T' = [(l, W.listOf (vs.take pos ++ x :: vs.drop pos).toArray (ep + 1))]) := by
  unfold Con; k_fill; intro dp un gd cn cs c ccd cl outer A₀ base h₀ Lf m s Q E mean mg mb B F X N TT hk hd' hu hpre hret
  refine wpAny_call ?_; k_dflt (refine' enterK ?k1 ?k2 ?k3 ?k4 ?k5 ?kA ?kF ?kK ?k6 ?k7 ?k8 ?k9 ?kB ?_ ?c2 ?c3 ?c4 ?c5; (case kA => exact rfl); (case kF => exact rfl); (case kK => assumption); (case k1 => k_asm); (case k2 => k_asm); (case k3 => k_asm); (case k4 => k_asm); (case k5 => k_asm); (case k6 => k_is); (case k7 => k_is); (case k8 => first | exact Nat.lt_of_le_of_lt (Nat.le_add_right _ _) hd' | ktr_room); (case k9 => first | exact BindsTo.of_eq rfl | (refine' kp_binds ?kx ?ke; (case kx => k_in); (case ke => exact fun _ => rfl))); (case c5 => decide); (case kB => exact locs rfl); (case c2 => exact rfl); (case c3 => exact rfl); (case c4 => exact rfl); k_whole; intro g' L' h' FG' F' N' B' X' T' EN'; (try dsimp only); (try k_fold)); have CH' : CodeHd g' 34 30 := codeHd_of_K X' rfl; have CH2' : CodeHd g' 41 37 := codeHd_of_K X' rfl
  have hc' : C g' := hCl _ _ hpre fun b o e n => EN'.sub _ _ e (by simpa using n)
  k_steps
  have hc2 : C h' := hC.keeps _ _ hc' fun b o e => F'.keep b o e
  k_dflt (refine' Con.use1 (bis_con4 w _ l vs x pos hpos hlen C hC) ?k1 ?k2 ?k3 ?k4 ?k5 ?k6 ?k7 ?k8 ⟨News.isList N' (by k_mem), hc2⟩ ?_)
  (case k1 => k_asm); (case k2 => k_asm); (case k3 => k_asm); (case k5 => k_asm); (case k6 => first | exact rfl | assumption); (case k7 => first | exact room3 hd' (by decide) | ((try simp only [depth_under_make, depth_under_kw, depth_in1, depth_deeper, depth_caller] at *); omega)); (case k8 => first | exact room3 hu (by decide) | ((try simp only [units_in1, units_deeper, Around.mark_units, units_caller] at *); omega))
  (case k4 => k_asm)
  intro r9 T9 h9 tk9 F9 N9 P9 st9 sz9 lt9
  obtain ⟨t9, rfl, rfl⟩ := P9
  simp only [List.nil_append] at N9
  try dsimp only
  try k_fold
  k_steps
  have sl : sizeLine = 16777216 := by decide
  k_dflt (refine' kl_insert ?k1 ?k2 ?kf (ins_eq hpos) ?kU ?kz ?_; (case k1 => k_asm); (case k2 => k_asm); (case kU => k_upd); (case kz => (rw [List.toList_toArray, sl]; omega)); (case kf => (unfold Builtin.List.listFitsIndex; simp only [Bool.and_eq_true, decide_eq_true_eq]; omega)))
  intro h5 F5 N5
  try dsimp only
  try k_fold
  k_steps
  refine' hret _ _ _ _ ?e1 ?e2 ?e3 ?e4 ?e5
  (case e1 => k_asm); (case e4 => exact EN'.stays (by assumption)); (case e5 => exact EN'.below (by assumption))
  (case e2 => k_asm)
  (case e3 => exact ⟨rfl, rfl⟩)
end Mine
end

theorem Mine.reset15 : True := by
  w_top off
  first | walk1 | exact True.intro

section
open PySem PySem.W PyProof.Rows PySem.Calls PySem.Spec
set_option compiler.extract_closed false
set_option Elab.async false
set_option linter.unusedVariables false
set_option linter.unusedSimpArgs false
set_option pp.maxSteps 2000
set_option pp.deepTerms false
set_option pp.deepTerms.threshold 10
namespace Mine
theorem i2d_conT (w : World) (a n : Int) (ta tn : Tok) (T : List (Addr × Obj)) (hT : TabsOk T) (ha : 0 ≤ a) (ha2 : a < 2 ^ 20) (hn : 1 ≤ n) (hn4 : n ≤ 4) :
    Con w 35 [.int a ta, .int n tn] (fun _ => True) T 40 400 (fun z r T' => ∃ l vs T₁, @LE.le Nat _ z l ∧ r = .ref l ∧ TabsOk T₁ ∧ Newer z T T₁ ∧ IntsAre vs (digs n.toNat (((Builtin.Int.intBits a : Int) + n - 1).fdiv n).toNat a.toNat) ∧ T' = (l, W.listOf vs.toArray 0) :: T₁) := by
  obtain ⟨t30, t37, rfl, h30, h37⟩ := hT
  intro dp un gd cn cs c ccd cl outer A₀ base h₀ Lf m s Q E mean mg mb B F X N TT hk hd' hu hpre hret
  refine Con.use (rest := t37) (i2d_con w a n ta tn t30 h30 ha ha2 hn hn4) B F X (News.less N (subApp (fun p hp => List.mem_append_right _ hp) fun p hp => List.mem_append_left _ hp)) TT hk hd' hu True.intro
    (tabs_apart N (fun p hp => List.mem_append_left _ hp) (fun p hp => List.mem_append_right _ hp) h30 h37 (by decide) quAB) ?_
  intro r T₂ h1 tk1 F2 N2 P2 st2 sz2 lt2
  obtain ⟨l, vs, t30', hz, rfl, h30', hnw, i2, rfl⟩ := P2
  refine hret _ ((l, W.listOf vs.toArray 0) :: (t30' ++ t37)) _ _ F2 ?_ ⟨l, vs, _, hz, rfl, ⟨_, _, rfl, h30', h37⟩, hnw.app Newer.refl, i2, rfl⟩ (fun b o e n => st2 b o e fun h => n (by rw [List.map_append]; exact List.mem_append_left _ h)) sz2
  rw [List.cons_append] at N2
  exact N2
theorem range_small {B : Int} (h0 : 0 ≤ B) (h : B < 2 ^ 20) : Builtin.Range.small 0 B 1 = true := small_one (by decide) (by decide) (by omega) (by omega)
end Mine
end

theorem Mine.reset16 : True := by
  w_top off
  first | walk1 | exact True.intro

section
open PySem
namespace Mine
theorem digs_nought (n : Nat) : ∀ k, digs n k 0 = List.replicate k 0
  | 0 => rfl
  | k + 1 => by rw [digs, Nat.zero_div, digs_nought n k, Nat.zero_mod]; rfl
theorem digs_more {n K m x : Nat} (hx : x < 2 ^ K) (hK : K ≤ n) (hm : n ≤ K + m) : (digs 1 K x ++ List.replicate m (0 : Int)).take n = digs 1 n x := by
  obtain ⟨j, rfl⟩ := Nat.exists_eq_add_of_le hK
  rw [digs_split, Nat.one_mul, Nat.mod_eq_of_lt hx, Nat.div_eq_of_lt hx, digs_nought, List.take_append, digs_length, List.take_of_length_le (by rw [digs_length]; omega)]
  rw [show K + j - K = j from by omega, List.take_replicate, Nat.min_eq_left (by omega)]
theorem rep_flat (m : Nat) (x : Int) : (List.replicate m [x]).flatten = List.replicate m x := by
  induction m with
  | zero => rfl
  | succ m ih => rw [List.replicate_succ, List.flatten_cons, ih]; rfl
/-- the figures that the lots' def lays for a lot -/
theorem fig_eq {n i : Nat} {ds : List Int} (hi : i < 2 ^ n) (hds : ds = digs (1 : Int).toNat (((Builtin.Int.intBits (0 + (i : Int)) : Int) + 1 - 1).fdiv 1).toNat (0 + (i : Int)).toNat) :
    ds.length ≤ n ∧ (ds ++ (List.replicate (n : Int).toNat [(0 : Int)]).flatten).take (n : Int).toNat = digs 1 n i := by
  have e1 : (((Builtin.Int.intBits (0 + (i : Int)) : Int) + 1 - 1).fdiv 1).toNat = Builtin.Int.intBits (i : Int) := by
    rw [Int.fdiv_eq_ediv_of_nonneg _ (by decide), Int.ediv_one, Int.zero_add]; omega
  have e2 : (0 + (i : Int)).toNat = i := by omega
  have hb : Builtin.Int.intBits (i : Int) ≤ n := bits_le (by omega) (by
    have e : ((2 : Int) ^ n) = ((2 ^ n : Nat) : Int) := by simp
    rw [e]; omega)
  have hx : i < 2 ^ Builtin.Int.intBits (i : Int) := by
    have h := lt_bits (a := (i : Int)) (by omega) (Nat.le_refl _)
    have e : ((2 : Int) ^ Builtin.Int.intBits (i : Int)) = ((2 ^ Builtin.Int.intBits (i : Int) : Nat) : Int) := by simp
    rw [e] at h; omega
  rw [e1, e2] at hds
  rw [hds, rep_flat, Int.toNat_natCast]
  exact ⟨by rw [digs_length]; exact hb, digs_more hx hb (by omega)⟩
end Mine
namespace Mine
/-- the numbers of a lot: those whose figure is 1 -/
noncomputable def pick (ns fs : List Int) : List Int := ((List.range ns.length).filter fun k => fs.getD k 0 == 1).map fun k => ns.getD k 0
/-- a lot of cnt numbers that come together to what goes by cnt -/
noncomputable def good (ns : List Int) (cnt : Int) (lot : Nat) : Bool := (digs 1 ns.length lot).sum == cnt && (pick ns (digs 1 ns.length lot)).sum % cnt == 0
theorem ones_len : ∀ {fs : List Int}, (∀ d ∈ fs, 0 ≤ d ∧ d < 2) → ((((List.range fs.length).filter fun k => fs.getD k 0 == 1).length : Nat) : Int) = fs.sum
  | [], _ => rfl
  | d :: fs, h => by
    have ih := ones_len (fs := fs) fun x hx => h x (.tail _ hx)
    rw [List.length_cons, List.range_succ_eq_map, List.filter_cons, List.filter_map, List.sum_cons, ← ih]
    have e : ((fun k => (d :: fs).getD k 0 == 1) ∘ Nat.succ) = fun k => fs.getD k 0 == 1 := by
      funext k; simp [List.getD_cons_succ]
    rw [e]
    have hd := h d (.head _)
    rw [List.getD_cons_zero]
    by_cases h1 : d = 1
    · subst h1
      simp only [BEq.rfl, if_true, List.length_cons, List.length_map]
      omega
    · have h2 : d = 0 := by omega
      subst h2
      simp
theorem sum_lt : ∀ {l : List Int} {b : Int}, (∀ x ∈ l, 0 ≤ x ∧ x ≤ b) → 0 ≤ l.sum ∧ l.sum ≤ l.length * b
  | [], b, _ => by simp
  | x :: l, b, h => by
    have ih := sum_lt (l := l) (b := b) fun y hy => h y (.tail _ hy)
    have hx := h x (.head _)
    rw [List.sum_cons, List.length_cons]
    have e : ((l.length + 1 : Nat) : Int) * b = l.length * b + b := by rw [Int.natCast_add, Int.add_mul]; simp
    omega
theorem pick_sum {ns : List Int} {i : Nat} {c : Int} (hns : ∀ x ∈ ns, 0 ≤ x ∧ x < 1000) (hs : (digs 1 ns.length i).sum = c) (hc : c ≤ 3) : 0 ≤ (pick ns (digs 1 ns.length i)).sum ∧ (pick ns (digs 1 ns.length i)).sum < 2 ^ 12 := by
  have h1 := sum_lt (l := pick ns (digs 1 ns.length i)) (b := 999) (by
    intro x hx
    obtain ⟨k, hk, rfl⟩ := List.mem_map.mp hx
    have hk2 := List.mem_range.mp (List.mem_filter.mp hk).1
    have := hns _ (getD_mem hk2)
    omega)
  have h2 := ones_len (fs := digs 1 ns.length i) (fun d hd => by have := digs_range 1 _ _ d hd; simpa using this)
  rw [digs_length, hs] at h2
  have h3 : (((pick ns (digs 1 ns.length i)).length : Nat) : Int) = c := by
    unfold pick; rw [List.length_map]; exact h2
  rw [h3] at h1
  omega
open PyProof.Rows in
theorem pick_range {ns fs : List Int} : ((rangeInts 0 1 ns.length).filter fun k => fs.getD k.toNat 0 == 1).map (fun k => ns.getD k.toNat 0) = pick ns fs := by
  rw [rangeInts_zero_one, List.filter_map, List.map_map]
  rfl
open PyProof.Rows in
theorem carried_ints {ys : List Value} {g : Int → Int} : ∀ {l : List Int}, CarriedAll ys (l.map fun k => PyData.int (g k)) → IntsAre ys (l.map g) := by
  intro l
  induction l generalizing ys with
  | nil => intro h; cases h; exact .nil
  | cons k l ih =>
    intro h
    cases h with
    | cons h1 h2 => cases h1; exact .cons _ _ (ih h2)
open PySem.W PyProof.Rows in
theorem newsPlain {h₀ h : Heap} {L D : Addr} {m : Str → Option Value} {news : List (Addr × Obj)} {items : Array Value} (F : Fr h₀ L h m) (N : News h₀ L h news) (x : NewPlain h news D items) (hf : h₀.get? D = none) :
    ∃ n, News h₀ L h ((D, W.listOf items n) :: news) ∧ ∀ p ∈ news, @Ne Nat p.1 D := by
  have hne := x.ne_locals F
  obtain ⟨⟨n, e⟩, hn⟩ := x
  refine ⟨n, fun p hp => ?_, hn⟩
  rcases List.mem_cons.mp hp with rfl | hp
  · exact ⟨e, hne, hf⟩
  · exact N p hp
end Mine
namespace Mine
theorem filt_yes {p : Nat → Bool} {i : Nat} {x : Int} (h : p i = true) (hx : x = (i : Int)) : ((List.range (i + 1)).filter p).map (fun k : Nat => (k : Int)) = ((List.range i).filter p).map (fun k : Nat => (k : Int)) ++ [x] := by
  subst hx
  rw [List.range_succ, List.filter_append, List.map_append, List.filter_cons, if_pos h]; rfl
theorem filt_no {p : Nat → Bool} {i : Nat} (h : p i = false) : ((List.range (i + 1)).filter p).map (fun k : Nat => (k : Int)) = ((List.range i).filter p).map (fun k : Nat => (k : Int)) := by
  rw [List.range_succ, List.filter_append, List.map_append, List.filter_cons, if_neg (by rw [h]; decide)]; simp
theorem good_yes {ns : List Int} {c : Int} {i : Nat} (h1 : (digs 1 ns.length i).sum = c) (h2 : (pick ns (digs 1 ns.length i)).sum % c = 0) : good ns c i = true := by
  unfold good; rw [h1, h2]; simp
theorem good_no1 {ns : List Int} {c : Int} {i : Nat} (h1 : (digs 1 ns.length i).sum ≠ c) : good ns c i = false := by
  unfold good; rw [beq_false_of_ne h1]; rfl
theorem good_no2 {ns : List Int} {c : Int} {i : Nat} (h2 : (pick ns (digs 1 ns.length i)).sum % c ≠ 0) : good ns c i = false := by
  unfold good; rw [beq_false_of_ne h2]; simp
end Mine
namespace Mine
theorem fv_len {fvs : List PySem.Value} {i : Nat} {p : Nat → Bool} (h : PyProof.Rows.IntsAre fvs (((List.range i).filter p).map fun k : Nat => (k : Int))) : fvs.length ≤ i := by
  rw [h.length, List.length_map]
  exact Nat.le_trans (List.length_filter_le _ _) (by rw [List.length_range]; exact Nat.le_refl _)
end Mine
end

theorem Mine.reset17 : True := by
  w_top off
  first | walk1 | exact True.intro

section
open PySem PySem.W PyProof.Rows PySem.Calls PySem.Spec
set_option compiler.extract_closed false
set_option Elab.async false
set_option linter.unusedVariables false
set_option linter.unusedSimpArgs false
set_option pp.maxSteps 2000
set_option pp.deepTerms false
set_option pp.deepTerms.threshold 10
namespace Mine
local macro_rules | `(tactic| walk_at "pyIter ref") => `(tactic| ((with_reducible show wpAny _ _ (pyIter (Value.ref _)) (fun it s₂ => LoopAtV _ _ _ _ _ _ _ _ _ it s₂) _ _); refine Hold.halt ?_))
local macro_rules | `(tactic| walk_at "call ref") => `(tactic| (refine Hold.halt ?_))
local macro_rules | `(tactic| walk_at "eval ListComp") => `(tactic| (refine Hold.halt ?_))
theorem pow_le5 {k : Nat} (h : k ≤ 5) : (2 : Int) ^ k ≤ 32 := by
  have e : ((2 : Int) ^ k) = ((2 ^ k : Nat) : Int) := by simp
  have h2 : (2 : Nat) ^ k ≤ 2 ^ 5 := Nat.pow_le_pow_right (by decide) h
  rw [e]; omega
theorem compRange {prog : Program} {w : World} {A : Around} {E : Value → Shared → Prop} {s : Shared} {h₀ : Heap} {L : Addr} {m : Str → Option Value} {env : Env} {elt iter : PySem.Expr} {x : Str} {px : Pos} {ifs : List PySem.Expr} {scope : Scope} {cl : List (Str × Addr)} {pos : Pos} {Q : Value → Shared → Prop} (pz : Int → Bool) (d : Int → PyData)
    (hF0 : Fr h₀ L s.heap m) (hh : A.handled = none) (hclos : closureFor scope env = pure cl) (hcell : ∀ y ∈ scope.names, y.2 ≠ .cell) (hkind : scope.kind = .function)
    (hnames : ∀ y ∈ scope.names, y.2 = .local → scope.names.lookup y.1 = some .local) (hx : scope.names.lookup x = some .local) (hs : ∀ x, foldedSetIterable iter env x = pure x)
    (h : wpAny (model prog w) A (eval iter env) (fun xv s₁ => Hold <| ∃ news : List (Addr × Obj), ∃ r a₀ b₀ c₀ t₀ u₀ v₀, ∃ n : Nat, xv = .ref r ∧ IsRange s₁.heap r a₀ b₀ c₀ t₀ u₀ v₀ ∧ Builtin.Range.small a₀ b₀ c₀ = true ∧ Builtin.Range.rangeSize a₀ b₀ c₀ = (n : Int) ∧ n ≤ sizeLine ∧ Fr h₀ L s₁.heap m ∧ News h₀ L s₁.heap news ∧
      (∀ C a v s₂ m₂ E', s₁.heap.objs.size ≤ C → a ∈ rangeInts a₀ c₀ n → ItemKind.int.is a v → s₂.heap.Ns (compEnvC scope cl C env).locals m₂ → m₂ x = some v → (∀ b o, s₁.heap.get? b = some o → s₂.heap.get? b = some o) →
        wpAny (model prog w) A (forIn ifs true fun c r => if r = true then do let ok ← isTrue c (compEnvC scope cl C env) (eval c (compEnvC scope cl C env)); pure (ForInStep.yield ok) else pure (ForInStep.yield r))
          (fun ok s₃ => ok = pz a ∧ Keeps s₂ s₃) E' s₂) ∧
      (∀ C a v s₂ m₂ E', s₁.heap.objs.size ≤ C → a ∈ rangeInts a₀ c₀ n → ItemKind.int.is a v → pz a = true → s₂.heap.Ns (compEnvC scope cl C env).locals m₂ → m₂ x = some v → (∀ b o, s₁.heap.get? b = some o → s₂.heap.get? b = some o) →
        wpAny (model prog w) A (eval elt (compEnvC scope cl C env)) (fun y s₃ => Carried y (d a) ∧ Keeps s₂ s₃) E' s₂) ∧
      (∀ D (ys : List Value) h' tk, Fr h₀ L h' m → News h₀ L h' news → h₀.get? D = none → h'.IsList D ys.toArray → NewPlain h' news D ys.toArray → CarriedAll ys (((rangeInts a₀ c₀ n).filter pz).map d) → Q (.ref D) { s₁ with heap := h', toks := tk })) E s) :
    wpAny (model prog w) A (eval (.ListComp elt [⟨.Name x px, iter, ifs, 0⟩] scope pos) env) Q E s := ListComp_DCr hh hclos hcell hkind hnames hx h hs
set_option maxRecDepth 100000 in
set_option maxHeartbeats 8000000 in
theorem lots_con (w : World) (D : Addr) (vs : List Value) (ns : List Int) (cnt : Int) (tc : Tok) (T : List (Addr × Obj)) (hT : TabsOk T) (hi : IntsAre vs ns) (hlen : ns.length ≤ 5) (hns : ∀ x ∈ ns, 0 ≤ x ∧ x < 1000) (hc : 2 ≤ cnt) (hc2 : cnt ≤ 3) (hD : D ∉ T.map (·.1)) :
    Con w 79 [.ref D, .int cnt tc] (fun h => h.IsList D vs.toArray) T 100 1000 (fun z r T' => ∃ l fvs ep T₁, @LE.le Nat _ z l ∧ r = .ref l ∧ IntsAre fvs (((List.range (2 ^ ns.length)).filter (good ns cnt)).map fun x : Nat => (x : Int)) ∧ TabsOk T₁ ∧ Newer z T T₁ ∧ T' = (l, W.listOf fvs.toArray ep) :: T₁) := by
  unfold Con; k_fill; intro dp un gd cn cs c ccd cl outer A₀ base h₀ Lf m s Q E mean mg mb B F X N TT hk hd' hu hpre hret
  refine wpAny_call ?_; k_dflt (refine' enterKC ?k1 ?k2 ?k3 ?k4 ?k5 ?kA ?kF ?kK ?k6 ?k7 ?k8 ?k9 ?kB ?kD ?_ ?c2 ?c3 ?c4; (case kA => exact rfl); (case kF => exact rfl); (case kK => assumption); (case k1 => k_asm); (case k2 => k_asm); (case k3 => k_asm); (case k4 => k_asm); (case k5 => k_asm); (case k6 => k_is); (case k7 => k_is); (case k8 => first | exact Nat.lt_of_le_of_lt (Nat.le_add_right _ _) hd' | ktr_room); (case k9 => (refine' kp_binds ?kx ?ke; (case kx => k_in); (case ke => exact fun _ => rfl))); (case kB => exact rfl); (case kD => decide +kernel); (case c2 => exact rfl); (case c3 => exact rfl); (case c4 => exact rfl); k_whole; intro g' L' h' tk' cells' FG' F' N' Y' B' X' T' EN' l1; (try k_lt l1); k_cells Y'; (try simp only [List.cons_append, List.nil_append] at N'); (try dsimp only); (try k_lift B'); (try k_fold)); have CH' : CodeHd g' 34 30 := codeHd_of_K X' rfl; have CH2' : CodeHd g' 41 37 := codeHd_of_K X' rfl
  have hl' := list_away hpre EN' hD
  k_steps
  rename_i oF oN dF dN lf hA l1a hB F1 N1 hC tkA t₁ u₁ v₁ hR F2 N2 hk2
  refine Hold.on ?_
  have hp5 : (2 : Int) ^ (ns.length : Int).toNat ≤ 32 := pow_le5 (by omega)
  have hp0 : (0 : Int) < 2 ^ (ns.length : Int).toNat := Int.pow_pos (by decide)
  refine withMap F2 fun mm F2' hmm => ?_
  k_dflt (refine' iter_rangeUnr (n := 2 ^ ns.length) rfl hR (range_small (Int.le_of_lt hp0) (by omega)) ?kn F2' N2 (fun I hI => ?_))
  case kn => rw [rangeSize_nat, Int.sub_zero, Int.toNat_natCast, Int.toNat_of_nonneg (Int.le_of_lt (Int.pow_pos (by decide)))]; simp
  have hI1 := allLt_of hI
  simp only [AllLt] at hI1
  refine range_ind (J := fun i m news => ∃ (u : Str → Option Value) (fvs : List Value) (TB : List (Addr × Obj)) (ep : Nat) (oF : Obj) (fv : Option Value), IntsAre fvs (((List.range i).filter (good ns cnt)).map fun x : Nat => (x : Int)) ∧ TabsOk TB ∧ Newer s.heap.objs.size T TB ∧ (∀ p ∈ TB, p.1 ≠ lf) ∧ (∀ p ∈ TB, p.1 ≠ L' + 1) ∧ (∀ p ∈ TB, p.1 ≠ L' + 1 + 1) ∧ (∀ p ∈ TB, p.1 ≠ I) ∧ oF.data = .cell fv ∧ m = (fun y => if y = Str.ofString "lot" then u y else mm y) ∧ news = (lf, W.listOf fvs.toArray ep) :: (L' + 1 + 1, oF) :: (L' + 1, oN) :: TB) ?done ?turn _ _ _ _ (by simp) ?start
  case start =>
    refine ⟨mm, [], T, 0, oF, _, .nil, hT, Newer.refl, neAll l1a.2.2, ?_, ?_, neAll hI1.2.2.2, dF, norm1 (fun _ _ => rfl), rfl⟩
    · exact neLt fun p hp => Nat.lt_of_lt_of_le (l1 p hp) (by omega)
    · exact neLt fun p hp => Nat.lt_of_lt_of_le (l1 p hp) (by omega)
  case done =>
    rintro m news h tk ⟨u, fvs, TB, ep, oF', fv, j1, j2, j3, j4, j5, j6, j7, j8, rfl, rfl⟩ F4 N4
    subst hmm
    clear F2 F2' N2 F1 N1
    try dsimp only
    try k_fold
    k_steps
    rename_i kF kN Tc kX
    refine' hret _ ((lf, _) :: TB) _ _ ?e1 ?e2 ?e3 ?e4 ?e5
    (case e1 => k_asm); (case e4 => exact EN'.stays (by assumption)); (case e5 => exact EN'.below (by assumption))
    (case e2 => (refine' News.less kN ?_; k_dflt (repeat' (first | exact subNil | (refine' subCons ?_ ?_) | (refine' subApp ?_ ?_) | k_mem | (intro p9 hp9; k_mem)))))
    (case e3 => exact ⟨_, _, _, _, Nat.le_trans EN'.size (by omega), rfl, j1, j2, j3, rfl⟩)
  case turn =>
    rintro i m news t h tk hlt ⟨u, fvs, TB, ep, oF', fv, j1, j2, j3, j4, j5, j6, j7, j8, rfl, rfl⟩ F4 N4
    subst hmm
    clear F2 F2' N2 F1 N1
    try dsimp only
    try k_fold
    k_steps
    refine Hold.on ?_
    have hfl := fv_len j1
    have hlt5 : (2 : Nat) ^ ns.length ≤ 2 ^ 5 := Nat.pow_le_pow_right (by decide) hlen
    k_dflt (refine' Con.use (rest := (I, _) :: (lf, _) :: (L' + 1 + 1, oF') :: (L' + 1, oN) :: []) (i2d_conT w _ 1 _ _ TB j2 ?g1 ?g2 (by decide) (by decide)) ?k1 ?k2 ?k3 ?k4 ?k5 ?k6 ?k7 ?k8 True.intro ?kr ?_)
    (case k1 => k_asm); (case k2 => k_asm); (case k3 => k_asm); (case k5 => k_asm); (case k6 => first | exact rfl | assumption); (case k7 => first | exact room3 hd' (by decide) | ((try simp only [depth_under_make, depth_under_kw, depth_in1, depth_deeper, depth_caller] at *); omega)); (case k8 => first | exact room3 hu (by decide) | ((try simp only [units_in1, units_deeper, Around.mark_units, units_caller] at *); omega))
    (case k4 => (refine' News.less N4 ?_; k_dflt (repeat' (first | exact subNil | (refine' subCons ?_ ?_) | (refine' subApp ?_ ?_) | k_mem | (intro p9 hp9; k_mem)))))
    (case g1 => omega)
    (case g2 => omega)
    (case kr => exact awayCons j7 (awayCons j4 (awayCons j6 (awayCons j5 awayNil))))
    intro r1 T1 h1 tk1 F5 N5 P5 st5 sz5 lt5
    obtain ⟨l2, dvs, TB2, hz2, rfl, hTB2, hnw2, i2, rfl⟩ := P5
    have N6 := News.less (k := (l2, W.listOf dvs.toArray 0) :: (I, _) :: (lf, W.listOf fvs.toArray ep) :: (L' + 1 + 1, oF') :: (L' + 1, oN) :: TB2) N5 (by k_dflt (repeat' (first | exact subNil | (refine' subCons ?_ ?_) | (refine' subApp ?_ ?_) | k_mem | (intro p9 hp9; k_mem))))
    clear N5
    have l5 := allLt_of lt5
    simp only [List.cons_append, List.nil_append, AllLt] at l5
    dsimp only at l5 hz2 hnw2
    have a4 := hnw2.ne j4 (by omega)
    have a5 := hnw2.ne j5 (by omega)
    have a6 := hnw2.ne j6 (by omega)
    have a7 := hnw2.ne j7 (by omega)
    obtain ⟨ds, hds⟩ : ∃ ds, ds = digs (1 : Int).toNat (((Builtin.Int.intBits (0 + (i : Int)) : Int) + 1 - 1).fdiv 1).toNat (0 + (i : Int)).toNat := ⟨_, rfl⟩
    rw [← hds] at i2
    obtain ⟨hdl, hfig⟩ := fig_eq hlt hds
    clear hds
    try dsimp only
    try k_fold
    k_steps
    · refine Hold.on ?_
      k_dflt (refine' compRange (fun k => (digs 1 ns.length i).getD k.toNat 0 == 1) (fun k => PyData.int (ns.getD k.toNat 0)) ?kF rfl rfl (by decide) rfl (by decide) rfl (fun _ => rfl) ?_)
      (case kF => k_asm)
      try dsimp only
      try k_fold
      k_steps
      rename_i b1 b2 b3 b4 b5 b6 b7 b8 b9 b10 b11 b12 b13 b14 b15 b16 b17 Dg gvs hG iG cG lG l1G hH oG F27 N28 dG hJ tkJ tJ F33 N34 hsum hK tkK t₁ u₁ v₁ hR FK NK kK
      rw [hfig] at iG hsum
      refine Hold.on ?_
      have NK' := News.less (k := (Dg, W.listOf gvs.toArray 0) :: (I, _) :: (lf, W.listOf fvs.toArray ep) :: (L' + 1 + 1, oG) :: (L' + 1, oN) :: TB2) NK (by k_dflt (repeat' (first | exact subNil | (refine' subCons ?_ ?_) | (refine' subApp ?_ ?_) | k_mem | (intro p9 hp9; k_mem))))
      clear NK N34 F33 N28 F27 cG lG b16 b6 b8 b9 b10 b11 hfig hdl i2
      k_dflt (refine' ⟨_, _, _, _, _, _, _, _, ns.length, rfl, hR, range_small (by omega) (by omega), ?r1, ?r2, FK, NK', ?r3, ?r4, ?r5⟩)
      case r1 => rw [rangeSize_nat]; simp
      case r2 => have : sizeLine = 16777216 := by decide
                 omega
      case r3 =>
        intro C a v s₂ m₂ E' hC ha hv hns2 hm2 hkeep
        obtain ⟨tv, rfl⟩ := hv
        obtain ⟨hb0, hb1⟩ := mem_rangeInts ha
        have hdl2 := digs_length 1 ns.length i
        k_steps
        exact ⟨_, _, rfl, fun _ _ e => e⟩
      case r4 =>
        intro C a v s₂ m₂ E' hC ha hv hp hns2 hm2 hkeep
        obtain ⟨tv, rfl⟩ := hv
        obtain ⟨hb0, hb1⟩ := mem_rangeInts ha
        k_steps
        · exact .int _ _
        · exact ⟨_, _, rfl, fun _ _ e => e⟩
      case r5 =>
        intro D2 ys h7 tk7 F7 N7 hfr hl7 hpl hca
        have i7 := carried_ints (g := fun k => ns.getD k.toNat 0) hca
        rw [pick_range] at i7
        obtain ⟨ep2, N8, ne8⟩ := newsPlain F7 N7 hpl hfr
        clear hca hl7 hpl N7 NK' FK hR
        k_steps
        refine Hold.on ?_
        have hS := pick_sum hns hsum hc2
        rename_i hM tkM tM F9 N9
        have N10 := News.less (k := (I, _) :: (lf, W.listOf fvs.toArray ep) :: (L' + 1 + 1, oG) :: (L' + 1, oN) :: TB2) N9 (by k_dflt (repeat' (first | exact subNil | (refine' subCons ?_ ?_) | (refine' subApp ?_ ?_) | k_mem | (intro p9 hp9; k_mem))))
        have zM := EN'.below F9
        clear N9 N8
        k_dflt (refine' Con.use (rest := (I, _) :: (lf, W.listOf fvs.toArray ep) :: (L' + 1 + 1, oG) :: (L' + 1, oN) :: []) (idm_con w _ cnt _ _ TB2 hTB2 hS.1 hS.2 (by omega) (by omega)) ?k1 ?k2 ?k3 ?k4 ?k5 ?k6 ?k7 ?k8 True.intro ?kr ?_)
        (case k1 => k_asm); (case k2 => k_asm); (case k3 => k_asm); (case k5 => k_asm); (case k6 => first | exact rfl | assumption); (case k7 => first | exact room3 hd' (by decide) | ((try simp only [depth_under_make, depth_under_kw, depth_in1, depth_deeper, depth_caller] at *); omega)); (case k8 => first | exact room3 hu (by decide) | ((try simp only [units_in1, units_deeper, Around.mark_units, units_caller] at *); omega))
        (case k4 => (refine' News.less N10 ?_; k_dflt (repeat' (first | exact subNil | (refine' subCons ?_ ?_) | (refine' subApp ?_ ?_) | k_mem | (intro p9 hp9; k_mem)))))
        (case kr => exact awayCons a7 (awayCons a4 (awayCons a6 (awayCons a5 awayNil))))
        intro r3 T3 h3 tk3 F11 N11 P11 st11 sz11 lt11
        obtain ⟨l3, q3, t31, t32, TB3, hz3, rfl, hTB3, hnw3, rfl⟩ := P11
        have N12 := News.less (k := (l3, _) :: (I, _) :: (lf, W.listOf fvs.toArray ep) :: (L' + 1 + 1, oG) :: (L' + 1, oN) :: TB3) N11 (by k_dflt (repeat' (first | exact subNil | (refine' subCons ?_ ?_) | (refine' subApp ?_ ?_) | k_mem | (intro p9 hp9; k_mem))))
        clear N11 N10
        have l11 := allLt_of lt11
        simp only [List.cons_append, List.nil_append, AllLt] at l11
        dsimp only at l11 hz3 hnw3
        have d4 := hnw3.ne a4 (by omega)
        have d5 := hnw3.ne a5 (by omega)
        have d6 := hnw3.ne a6 (by omega)
        have d7 := hnw3.ne a7 (by omega)
        try dsimp only
        try k_fold
        k_steps
        · rename_i hmod hN hO F13 N13
          rw [List.push_toArray] at N13
          refine withMap F13 fun m8 F13' hm8 => ?_
          refine' UnrEnd.intro F13' N13 ((lf, W.listOf (fvs ++ [Value.int (0 + (i : Int)) t]).toArray (ep + 1)) :: (L' + 1 + 1, oG) :: (L' + 1, oN) :: TB3) ?u1 ?u2 ⟨m8, fvs ++ [Value.int (0 + (i : Int)) t], TB3, ep + 1, oG, _, ?u3, hTB3, (j3.trans hnw2 ?u4).trans hnw3 ?u5, d4, d5, d6, d7, dG, ?u6, rfl⟩
          case u6 =>
            refine norm1 ?_
            intro y h1
            rw [hm8]
            simp only [h1, if_false]
          case u1 => k_dflt (repeat' (first | exact subNil | (refine' subCons ?_ ?_) | (refine' subApp ?_ ?_) | k_mem | (intro p9 hp9; k_mem)))
          case u2 => refine neCons ?_ (neCons ?_ (neCons ?_ d7)) <;> (dsimp only; omega)
          case u3 => rw [filt_yes (x := 0 + (i : Int)) (good_yes hsum hmod) (Int.zero_add _)]; exact ints_snoc j1 _ _
          case u4 => exact EN'.below F4
          case u5 => exact zM
        · rename_i hmod
          refine' UnrEnd.intro ?u0 N12 ((lf, W.listOf fvs.toArray ep) :: (L' + 1 + 1, oG) :: (L' + 1, oN) :: TB3) ?u1 ?u2 ⟨_, fvs, TB3, ep, oG, _, ?u3, hTB3, (j3.trans hnw2 ?u4).trans hnw3 ?u5, d4, d5, d6, d7, dG, ?u6, rfl⟩
          case u0 => k_asm
          case u6 =>
            refine norm1 ?_
            intro y h1
            simp only [h1, if_false]
          case u1 => k_dflt (repeat' (first | exact subNil | (refine' subCons ?_ ?_) | (refine' subApp ?_ ?_) | k_mem | (intro p9 hp9; k_mem)))
          case u2 => refine neCons ?_ (neCons ?_ (neCons ?_ d7)) <;> (dsimp only; omega)
          case u3 => rw [filt_no (good_no2 hmod)]; exact j1
          case u4 => exact EN'.below F4
          case u5 => exact zM
    · rename_i b1 b2 b3 b4 b5 b6 b7 b8 b9 b10 b11 b12 b13 b14 b15 b16 b17 Dg gvs hG iG cG lG l1G hH oG F27 N28 dG hJ tkJ tJ F33 N34 hsum
      rw [hfig] at hsum
      refine withMap F33 fun m8 F13' hm8 => ?_
      refine' UnrEnd.intro F13' N34 ((lf, W.listOf fvs.toArray ep) :: (L' + 1 + 1, oG) :: (L' + 1, oN) :: TB2) ?u1 ?u2 ⟨m8, fvs, TB2, ep, oG, _, ?u3, hTB2, j3.trans hnw2 ?u4, a4, a5, a6, a7, dG, ?u6, rfl⟩
      case u6 =>
        refine norm1 ?_
        intro y h1
        rw [hm8]
        simp only [h1, if_false]
      case u1 => k_dflt (repeat' (first | exact subNil | (refine' subCons ?_ ?_) | (refine' subApp ?_ ?_) | k_mem | (intro p9 hp9; k_mem)))
      case u2 => refine neCons ?_ (neCons ?_ (neCons ?_ a7)) <;> (dsimp only; omega)
      case u3 => rw [filt_no (good_no1 hsum)]; exact j1
      case u4 => exact EN'.below F4
end Mine
end

theorem Mine.reset18 : True := by
  w_top off
  first | walk1 | exact True.intro

section
open PySem PySem.W PyProof.Rows PySem.Calls PySem.Spec
set_option compiler.extract_closed false
set_option Elab.async false
set_option linter.unusedVariables false
set_option linter.unusedSimpArgs false
set_option pp.maxSteps 2000
set_option pp.deepTerms false
set_option pp.deepTerms.threshold 10
namespace Mine
/-- a pair of ints that the call has made, where it lies -/
structure Pr where
  a : Addr
  r : Int
  k : Int
  t : Tok
  u : Tok
noncomputable def Pr.ref (e : Pr) : Value := .ref e.a
noncomputable def Pr.obj (e : Pr) : Obj := { cls := .type "tuple", data := .seq #[.int e.r e.t, .int e.k e.u] }
noncomputable def Pr.ent (e : Pr) : Addr × Obj := (e.a, e.obj)
/-- where x belongs among the pairs -/
noncomputable def posOf (es : List Pr) (x : Int) : Nat := (es.takeWhile fun e => decide (e.r < x)).length
def Up (es : List Pr) : Prop := es.Pairwise fun e f => e.r < f.r
theorem posOf_le : ∀ (es : List Pr) (x : Int), posOf es x ≤ es.length
  | [], _ => Nat.le_refl _
  | e :: es, x => by
    unfold posOf
    rw [List.takeWhile_cons]
    by_cases h : e.r < x
    · rw [if_pos (decide_eq_true h)]; exact Nat.succ_le_succ (posOf_le es x)
    · rw [if_neg (by simpa using h)]; exact Nat.zero_le _
theorem posOf_iff : ∀ {es : List Pr} {x : Int} {i : Nat} {e : Pr}, Up es → es[i]? = some e → (i < posOf es x ↔ e.r < x)
  | [], _, _, _, _, h => by simp at h
  | f :: es, x, i, e, hu, h => by
    unfold posOf
    rw [List.takeWhile_cons]
    have hu' := List.pairwise_cons.mp hu
    by_cases hf : f.r < x
    · rw [if_pos (decide_eq_true hf), List.length_cons]
      cases i with
      | zero => simp at h; subst h; simp [hf]
      | succ i =>
        have h' : es[i]? = some e := by simpa using h
        rw [Nat.succ_lt_succ_iff]
        exact posOf_iff (x := x) hu'.2 h'
    · rw [if_neg (by simpa using hf)]
      refine ⟨fun q => absurd q (Nat.not_lt_zero _), fun q => ?_⟩
      cases i with
      | zero => simp at h; subst h; exact absurd q hf
      | succ i =>
        have h' : es[i]? = some e := by simpa using h
        have := hu'.1 e (List.mem_of_getElem? h')
        omega
/-- what the comparing needs of the heap: the pairs, and x's own -/
def PairsAt (es : List Pr) (x : Pr) (h : Heap) : Prop := (∀ e ∈ es, h.get? e.a = some e.obj) ∧ h.get? x.a = some x.obj
theorem cmpPairs (w : World) (es : List Pr) (x : Pr) (hu : Up es) (hk : ∀ e ∈ es, e.r = x.r → x.k ≤ e.k) : Cmp w (PairsAt es x) (es.map Pr.ref) (.ref x.a) (posOf es x.r) where
  keeps := fun h h' c k => ⟨fun e he => k _ _ (c.1 e he), k _ _ c.2⟩
  lt := fun A i v s Q E hv c hun hq => by
    rw [List.getElem?_map] at hv
    obtain ⟨e, he, rfl⟩ := Option.map_eq_some_iff.mp hv
    have hm := List.mem_of_getElem? he
    refine lt_pair hun (c.1 e hm) rfl rfl c.2 rfl rfl ?_
    have q : decide (e.r < x.r ∨ (e.r = x.r ∧ e.k < x.k)) = decide (i < posOf es x.r) := by
      refine decide_eq_decide.mpr ?_
      rw [posOf_iff hu he]
      refine ⟨fun q => q.elim id fun q => ?_, Or.inl⟩
      have := hk e hm q.1
      omega
    rw [q]
    exact hq
theorem pairsAway {es : List Pr} {x : Pr} {l : Addr} (h1 : ∀ e ∈ es, e.a ≠ l) (h2 : x.a ≠ l) : ∀ h h', PairsAt es x h → (∀ b o, h.get? b = some o → b ≠ l → h'.get? b = some o) → PairsAt es x h' :=
  fun _ _ c k => ⟨fun e he => k _ _ (c.1 e he) (h1 e he), k _ _ c.2 h2⟩
/-- the pair at its place, or a place where none of its kind stands -/
theorem up_insert {es : List Pr} {x : Pr} (hu : Up es) (hn : ∀ e ∈ es, e.r ≠ x.r) : Up (es.take (posOf es x.r) ++ x :: es.drop (posOf es x.r)) := by
  have hlt : ∀ e ∈ es.take (posOf es x.r), e.r < x.r := by
    intro e he
    obtain ⟨i, hi, rfl⟩ := List.mem_iff_getElem.mp he
    have hi' : i < posOf es x.r := by rw [List.length_take] at hi; omega
    have hget : es[i]? = some (es.take (posOf es x.r))[i] := by
      rw [List.getElem_take]
      exact List.getElem?_eq_getElem _
    exact (posOf_iff hu hget).mp hi'
  have hgt : ∀ e ∈ es.drop (posOf es x.r), x.r < e.r := by
    intro e he
    obtain ⟨i, hi, rfl⟩ := List.mem_iff_getElem.mp he
    have hget : es[posOf es x.r + i]? = some (es.drop (posOf es x.r))[i] := by
      rw [List.getElem_drop]
      exact List.getElem?_eq_getElem _
    have h1 := (posOf_iff (x := x.r) hu hget)
    have h2 := hn _ (List.mem_of_getElem? hget)
    omega
  have hs : (es.take (posOf es x.r) ++ es.drop (posOf es x.r)).Pairwise fun e f => e.r < f.r := by rw [List.take_append_drop]; exact hu
  obtain ⟨p1, p2, p3⟩ := List.pairwise_append.mp hs
  refine List.pairwise_append.mpr ⟨p1, List.pairwise_cons.mpr ⟨hgt, p2⟩, fun e he f hf => ?_⟩
  rcases List.mem_cons.mp hf with rfl | hf
  · exact hlt e he
  · exact p3 e he f hf
theorem TabsOk.airy {T : List (Addr × Obj)} (h : TabsOk T) : Airy T := by
  obtain ⟨a, b, rfl, h1, h2⟩ := h
  refine airyApp (fun p hp => ?_) fun p hp => ?_
  · rcases h1.obj hp with ⟨_, ps, e, _⟩ | ⟨vs, _, e, _⟩
    · exact ⟨_, by rw [e]⟩
    · exact ⟨vs, e⟩
  · rcases h2.obj hp with ⟨_, ps, e, _⟩ | ⟨vs, _, e, _⟩
    · exact ⟨_, by rw [e]⟩
    · exact ⟨vs, e⟩
theorem solidPrs (es : List Pr) : Solid (es.map Pr.ent) := fun p hp vs => by
  obtain ⟨e, _, rfl⟩ := List.mem_map.mp hp
  exact fun h => by cases h
theorem solidApp {a b : List (Addr × Obj)} (ha : Solid a) (hb : Solid b) : Solid (a ++ b) := fun p hp => (List.mem_append.mp hp).elim (ha p) (hb p)
theorem solid_ne {h₀ h : Heap} {L I : Addr} {it : Obj} {S news : List (Addr × Obj)} (N : News h₀ L h news) (hI : (I, it) ∈ news) (hf : ∃ vs, it.data = .fields vs) (hS : Solid S) (hs : ∀ p ∈ S, p ∈ news) : ∀ p ∈ S, @Ne Nat p.1 I := by
  intro p hp e
  obtain ⟨vs, hv⟩ := hf
  have h1 := (N _ hI).1
  have h2 := (N p (hs p hp)).1
  dsimp only at h1
  rw [show p.1 = I from e, h1] at h2
  exact hS p hp vs (by rw [← Option.some.inj h2]; exact hv)
theorem solid_apart {h₀ h : Heap} {L : Addr} {S T news : List (Addr × Obj)} (N : News h₀ L h news) (hT : TabsOk T) (hS : Solid S) (hs : ∀ p ∈ S, p ∈ news) (ht : ∀ p ∈ T, p ∈ news) : ∀ p ∈ S, p.1 ∉ T.map (·.1) := by
  intro p hp hm
  obtain ⟨q, hq, e⟩ := List.mem_map.mp hm
  exact solid_ne (I := q.1) (it := q.2) N (ht q hq) (hT.airy q hq) hS hs p hp e.symm
/-- a pair is no list -/
theorem pr_ne {h₀ h : Heap} {L l : Addr} {xs : Array Value} {ep : Nat} {e : Pr} {news : List (Addr × Obj)} (N : News h₀ L h news) (hl : (l, W.listOf xs ep) ∈ news) (he : e.ent ∈ news) : e.a ≠ l := by
  intro q
  have h1 := (N _ hl).1
  have h2 := (N _ he).1
  have h3 : h.get? l = some e.obj := by rw [← q]; exact h2
  rw [h3] at h1
  have h4 := congrArg Obj.cls (Option.some.inj h1)
  have h5 : (Value.type "tuple") = .type "list" := h4
  injection h5 with h6
  exact absurd h6 (by decide)
theorem norm_f3 {m m₀ : Str → Option Value} {a b c : Str} (h : ∀ y, y ≠ a → y ≠ b → y ≠ c → m y = m₀ y) : m = fun y => if y = a then m y else if y = b then m y else if y = c then m y else m₀ y := by
  funext y; by_cases h1 : y = a
  · rw [if_pos h1]
  · rw [if_neg h1]
    by_cases h2 : y = b
    · rw [if_pos h2]
    · rw [if_neg h2]
      by_cases h3 : y = c
      · rw [if_pos h3]
      · rw [if_neg h3]; exact h y h1 h2 h3
theorem no_other {es : List Pr} {x : Int} (hu : Up es) (h : ∀ e, es[posOf es x]? = some e → e.r ≠ x) : ∀ e ∈ es, e.r ≠ x := by
  intro e he q
  obtain ⟨i, hi⟩ := List.mem_iff_getElem?.mp he
  have h1 := posOf_iff (x := x) hu hi
  have h2 : ¬ i < posOf es x := fun q2 => by have := h1.mp q2; omega
  by_cases h3 : i = posOf es x
  · exact h e (by rw [← h3]; exact hi) q
  · have h4 : posOf es x < i := by omega
    have hl : i < es.length := by
      obtain ⟨a, _⟩ := List.getElem?_eq_some_iff.mp hi
      exact a
    have hg : es[posOf es x]? = some es[posOf es x] := List.getElem?_eq_getElem (by omega)
    have h5 := posOf_iff (x := x) hu hg
    have h6 := h _ hg
    have h7 := List.pairwise_iff_getElem.mp hu (posOf es x) i (by omega) hl h4
    have h8 : es[i] = e := by
      obtain ⟨a, b⟩ := List.getElem?_eq_some_iff.mp hi
      exact b
    rw [h8] at h7
    omega
theorem up_len : ∀ {es : List Pr} {lo hi : Int}, Up es → (∀ e ∈ es, lo ≤ e.r ∧ e.r < hi) → (es.length : Int) ≤ hi - lo ∨ es = []
  | [], _, _, _, _ => .inr rfl
  | e :: es, lo, hi, hu, h => by
    have hu' := List.pairwise_cons.mp hu
    have h0 := h e (.head _)
    left
    rcases up_len (lo := lo + 1) (hi := hi) hu'.2 (fun f hf => by
      have h1 := hu'.1 f hf
      have h2 := h f (.tail _ hf)
      omega) with q | q
    · rw [List.length_cons]; omega
    · rw [q, List.length_cons, List.length_nil]; omega
theorem stretch_sum {ns : List Int} {a b : Nat} {c : Int} (hab : a ≤ b) (hc : 0 < c) (h : (ns.take a).sum % c = (ns.take b).sum % c) : ((ns.drop a).take (b - a)).sum % c = 0 := by
  have e : (ns.take b).sum = (ns.take a).sum + ((ns.drop a).take (b - a)).sum := by
    have e1 : ns.take b = ns.take a ++ (ns.drop a).take (b - a) := by
      conv => lhs; rw [← Nat.add_sub_cancel' hab, List.take_add]
    rw [e1, List.sum_append]
  rw [e] at h
  have h2 := Int.emod_emod_of_dvd ((ns.take a).sum) (Int.dvd_refl c)
  have h3 : ((ns.take a).sum + ((ns.drop a).take (b - a)).sum) % c = ((ns.take a).sum + 0) % c := by rw [← h, Int.add_zero]
  have h4 := (Int.emod_add_cancel_left).mp h3
  rw [h4]
  exact Int.zero_emod c
theorem ins_map {es : List Pr} {x : Pr} (p : Nat) : (es.map Pr.ref).take p ++ x.ref :: (es.map Pr.ref).drop p = (es.take p ++ x :: es.drop p).map Pr.ref := by
  rw [List.map_append, List.map_cons, List.map_take, List.map_drop]
theorem ins_mem {es : List Pr} {x e : Pr} {p : Nat} (h : e ∈ es.take p ++ x :: es.drop p) : e = x ∨ e ∈ es := by
  rcases List.mem_append.mp h with h | h
  · exact .inr (List.mem_of_mem_take h)
  · rcases List.mem_cons.mp h with h | h
    · exact .inl h
    · exact .inr (List.mem_of_mem_drop h)
theorem ins_len {es : List Pr} {x : Pr} {p : Nat} (h : p ≤ es.length) : (es.take p ++ x :: es.drop p).length = es.length + 1 := by
  rw [List.length_append, List.length_cons, List.length_take, List.length_drop, Nat.min_eq_left h, ← Nat.add_assoc, Nat.add_sub_cancel' h]
theorem ins_ent {es : List Pr} {x : Pr} {p : Nat} {l : List (Addr × Obj)} (hx : x.ent ∈ l) (h : ∀ q ∈ es.map Pr.ent, q ∈ l) : ∀ q ∈ (es.take p ++ x :: es.drop p).map Pr.ent, q ∈ l := by
  intro q hq
  obtain ⟨e, he, rfl⟩ := List.mem_map.mp hq
  rcases ins_mem he with rfl | he
  · exact hx
  · exact h _ (List.mem_map_of_mem he)
theorem away1 {l : Addr} {o : Obj} {k : List (Addr × Obj)} (h : ∀ p ∈ k, @Ne Nat p.1 l) : ∀ p ∈ k, p.1 ∉ [(l, o)].map (·.1) := fun p hp hm => h p hp (by simpa using hm)
end Mine
end

theorem Mine.reset19 : True := by
  w_top off
  first | walk1 | exact True.intro

section
open PySem PySem.W PyProof.Rows PySem.Calls PySem.Spec
set_option compiler.extract_closed false
set_option Elab.async false
set_option linter.unusedVariables false
set_option linter.unusedSimpArgs false
set_option pp.maxSteps 2000
set_option pp.deepTerms false
set_option pp.deepTerms.threshold 10
namespace Mine
local macro_rules | `(tactic| walk_at "pyIter ref") => `(tactic| ((with_reducible show wpAny _ _ (pyIter (Value.ref _)) (fun it s₂ => LoopAtV _ _ _ _ _ _ _ _ _ it s₂) _ _); refine Hold.halt ?_))
local macro_rules | `(tactic| walk_at "call ref") => `(tactic| (refine Hold.halt ?_))
theorem stretch_fin {ns : List Int} {a : Int} {i : Nat} {c : Int} (h0 : 0 ≤ a) (h1 : a < i) (hc : 0 < c) (h : (ns.take a.toNat).sum % c = (ns.take i).sum % c) : ((ns.drop a.toNat).take ((i : Int) - a).toNat).sum % c = 0 := by
  rw [ar_sub h0]
  exact stretch_sum (Nat.le_of_lt (ar_lt h1 h0)) hc h
set_option maxRecDepth 100000 in
set_option maxHeartbeats 8000000 in
theorem stretch_con (w : World) (D : Addr) (vs : List Value) (ns : List Int) (cnt : Int) (tc : Tok) (T : List (Addr × Obj)) (hT : TabsOk T) (hi : IntsAre vs ns) (hlen : ns.length ≤ 5) (hlc : cnt ≤ ns.length) (hns : ∀ x ∈ ns, 0 ≤ x ∧ x < 1000) (hc : 2 ≤ cnt) (hc2 : cnt ≤ 3) :
    Con w 86 [.ref D, .int cnt tc] (fun h => h.IsList D vs.toArray ∧ D ∉ T.map (·.1)) T 110 1100 (fun z r T' => ∃ P i k ti tk T₁, @LE.le Nat _ z P ∧ r = .ref P ∧ 0 ≤ i ∧ i < k ∧ k ≤ cnt ∧ ((ns.drop i.toNat).take (k - i).toNat).sum % cnt = 0 ∧ TabsOk T₁ ∧ Newer z T T₁ ∧ T' = (P, { cls := .type "tuple", data := .seq #[.int i ti, .int k tk] }) :: T₁) := by
  unfold Con; k_fill; intro dp un gd cn cs c ccd cl outer A₀ base h₀ Lf m s Q E mean mg mb B F X N TT hk hd' hu hpre hret
  refine wpAny_call ?_; k_dflt (refine' enterK ?k1 ?k2 ?k3 ?k4 ?k5 ?kA ?kF ?kK ?k6 ?k7 ?k8 ?k9 ?kB ?_ ?c2 ?c3 ?c4 ?c5; (case kA => exact rfl); (case kF => exact rfl); (case kK => assumption); (case k1 => k_asm); (case k2 => k_asm); (case k3 => k_asm); (case k4 => k_asm); (case k5 => k_asm); (case k6 => k_is); (case k7 => k_is); (case k8 => first | exact Nat.lt_of_le_of_lt (Nat.le_add_right _ _) hd' | ktr_room); (case k9 => first | exact BindsTo.of_eq rfl | (refine' kp_binds ?kx ?ke; (case kx => k_in); (case ke => exact fun _ => rfl))); (case c5 => decide); (case kB => exact locs rfl); (case c2 => exact rfl); (case c3 => exact rfl); (case c4 => exact rfl); k_whole; intro g' L' h' FG' F' N' B' X' T' EN'; (try dsimp only); (try k_fold)); have CH' : CodeHd g' 34 30 := codeHd_of_K X' rfl; have CH2' : CodeHd g' 41 37 := codeHd_of_K X' rfl
  have hl' := list_away hpre.1 EN' hpre.2
  k_steps
  rename_i lf hA l1a hB F1 N1 hC tkA t₁ u₁ v₁ hR F2 N2 hk2
  refine Hold.on ?_
  obtain ⟨n, rfl⟩ : ∃ n : Nat, cnt = n := ⟨cnt.toNat, (Int.toNat_of_nonneg (Int.le_trans (by decide) hc)).symm⟩
  refine withMap F2 fun mm F2' hmm => ?_
  k_dflt (refine' iter_rangeUnr (n := n + 1) rfl hR (range_small (by omega) (by omega)) ?kn F2' N2 (fun I hI => ?_))
  case kn => rw [rangeSize_nat, Int.sub_zero]; rfl
  have hI1 := allLt_of hI
  simp only [AllLt] at hI1
  refine range_ind (J := fun i m news => ∃ (u : Str → Option Value) (es : List Pr) (TB : List (Addr × Obj)) (ep : Nat), es.length = i ∧ Up es ∧ (∀ e ∈ es, 0 ≤ e.k ∧ e.k < i ∧ e.r = (ns.take e.k.toNat).sum % (n : Int)) ∧ TabsOk TB ∧ Newer s.heap.objs.size T TB ∧ (∀ p ∈ TB, p.1 ≠ I) ∧ m = (fun y => if y = Str.ofString "rest" then u y else if y = Str.ofString "place" then u y else if y = Str.ofString "k" then u y else mm y) ∧ news = (lf, W.listOf (es.map Pr.ref).toArray ep) :: (es.map Pr.ent ++ TB)) ?done ?turn _ _ _ _ (by simp) ?start
  case start =>
    exact ⟨mm, [], T, 0, rfl, List.Pairwise.nil, (fun _ h => nomatch h), hT, Newer.refl, neAll hI1.2, norm_f3 (fun _ _ _ _ => rfl), rfl⟩
  case done =>
    rintro m news h tk ⟨u, es, TB, ep, j1, j2, j3, j4, j5, j6, rfl, rfl⟩ F4 N4
    exfalso
    rcases up_len (lo := 0) (hi := (n : Int)) j2 (fun e he => by
      have := (j3 e he).2.2
      rw [this]
      exact ⟨Int.emod_nonneg _ (by omega), Int.emod_lt_of_pos _ (by omega)⟩) with q | q
    · omega
    · rw [q, List.length_nil] at j1; omega
  case turn =>
    rintro i m news t h tk hlt ⟨u, es, TB, ep, j1, j2, j3, j4, j5, j6, rfl, rfl⟩ F4 N4
    subst hmm
    simp only [Int.zero_add] at F4
    clear F2 F2' N2 F1 N1
    try dsimp only
    try k_fold
    k_steps
    rename_i SD sws hA2 F5 N5 sI sC sL sl1 hB2 tkB tB F6 N6
    refine Hold.on ?_
    simp only [Int.toNat_natCast] at sI ⊢
    have hS : 0 ≤ (ns.take i).sum ∧ (ns.take i).sum < 2 ^ 12 := by
      have h1 := sum_lt (l := ns.take i) (b := 999) (fun x hx => by
        have := hns x (List.mem_of_mem_take hx)
        omega)
      have h2 : (ns.take i).length ≤ i := by rw [List.length_take]; exact Nat.min_le_left _ _
      exact ar_sum h1 h2 hlt hc2
    have N7 := News.less (k := (I, _) :: (lf, W.listOf (es.map Pr.ref).toArray ep) :: (es.map Pr.ent ++ TB)) N6 (by k_dflt (repeat' (first | exact subNil | (refine' subCons ?_ ?_) | (refine' subApp ?_ ?_) | k_mem | (intro p9 hp9; k_mem))))
    have zF4 := EN'.below F6
    clear sl1 sC sL N6 N5 F5
    have ke : ∀ p ∈ (lf, W.listOf (es.map Pr.ref).toArray ep) :: es.map Pr.ent, p.1 ∉ TB.map (·.1) := solid_apart N7 j4 (solidCons (fun vs h => by cases h) (solidPrs es)) (fun p hp => .tail _ (by rw [← List.cons_append]; exact List.mem_append_left _ hp)) (fun p hp => .tail _ (.tail _ (List.mem_append_right _ hp)))
    k_dflt (refine' Con.use (rest := (I, _) :: (lf, W.listOf (es.map Pr.ref).toArray ep) :: es.map Pr.ent) (idm_con w _ (n : Int) _ _ TB j4 hS.1 hS.2 (by omega) (by omega)) ?k1 ?k2 ?k3 ?k4 ?k5 ?k6 ?k7 ?k8 True.intro ?kr ?_)
    (case k1 => k_asm); (case k2 => k_asm); (case k3 => k_asm); (case k5 => k_asm); (case k6 => first | exact rfl | assumption); (case k7 => first | exact room3 hd' (by decide) | ((try simp only [depth_under_make, depth_under_kw, depth_in1, depth_deeper, depth_caller] at *); omega)); (case k8 => first | exact room3 hu (by decide) | ((try simp only [units_in1, units_deeper, Around.mark_units, units_caller] at *); omega))
    (case k4 => exact N7)
    (case kr => exact awayCons j6 ke)
    intro r3 T3 h3 tk3 F11 N11 P11 st11 sz11 lt11
    obtain ⟨l3, q3, t31, t32, TB3, hz3, rfl, hTB3, hnw3, rfl⟩ := P11
    have N12 := News.less (k := (l3, _) :: (I, _) :: (lf, W.listOf (es.map Pr.ref).toArray ep) :: (es.map Pr.ent ++ TB3)) N11 (by k_dflt (repeat' (first | exact subNil | (refine' subCons ?_ ?_) | (refine' subApp ?_ ?_) | k_mem | (intro p9 hp9; k_mem))))
    clear N11 N7
    have I11 : @LT.lt Nat _ I _ := lt11 _ (.head _)
    dsimp only at I11 hz3 hnw3
    have d6 := hnw3.ne j6 I11
    try dsimp only
    try k_fold
    k_steps
    rename_i hC3 P0 hD3 F13 N13 l13
    refine Hold.on ?_
    obtain ⟨rv, hrv⟩ : ∃ rv, rv = (ns.take i).sum % (n : Int) := ⟨_, rfl⟩
    have hr0 : 0 ≤ rv := by rw [hrv]; exact Int.emod_nonneg _ (by omega)
    have hr1 : rv < n := by rw [hrv]; exact Int.emod_lt_of_pos _ (by omega)
    simp only [← hrv] at F13 N13 ⊢
    have N14 : ∃ t0, News g' L' hD3 ((P0, (Pr.mk P0 rv 0 t32 t0).obj) :: (I, itR (0 + ((i + 1 : Nat) : Int)) (((n + 1 : Nat) : Int) - ((i + 1 : Nat) : Int))) :: (lf, W.listOf (es.map Pr.ref).toArray ep) :: (es.map Pr.ent ++ TB3)) := ⟨_, News.less N13 (by k_dflt (repeat' (first | exact subNil | (refine' subCons ?_ ?_) | (refine' subApp ?_ ?_) | k_mem | (intro p9 hp9; k_mem))))⟩
    obtain ⟨t0, N14⟩ := N14
    have hp0 : ∀ e ∈ es, hD3.get? e.a = some e.obj := fun e he => (N14 e.ent (.tail _ (.tail _ (.tail _ (List.mem_append_left _ (List.mem_map_of_mem he)))))).1
    have hcA := cmpPairs w es (Pr.mk P0 rv 0 t32 t0) j2 (fun e he _ => (j3 e he).1)
    have hpl := posOf_le es rv
    k_dflt (refine' Con.use1 (bis_con w lf (es.map Pr.ref) (.ref P0) (posOf es rv) (by rw [List.length_map]; exact hpl) (by rw [List.length_map]; omega) _ hcA) ?k1 ?k2 ?k3 ?k4 ?k5 ?k6 ?k7 ?k8 ⟨News.isList N14 (by k_mem), hp0, (N14 _ (.head _)).1⟩ ?_)
    (case k1 => k_asm); (case k2 => k_asm); (case k3 => k_asm); (case k5 => k_asm); (case k6 => first | exact rfl | assumption); (case k7 => first | exact room3 hd' (by decide) | ((try simp only [depth_under_make, depth_under_kw, depth_in1, depth_deeper, depth_caller] at *); omega)); (case k8 => first | exact room3 hu (by decide) | ((try simp only [units_in1, units_deeper, Around.mark_units, units_caller] at *); omega))
    (case k4 => exact N14)
    intro r5 T5 h5 tk5 F15 N15 P15 st15 sz15 lt15
    obtain ⟨tp, rfl, rfl⟩ := P15
    simp only [List.nil_append] at N15
    clear N13 N14 hcA hp0
    have hno := no_other (x := rv) j2
    obtain ⟨p, hp⟩ : ∃ p, p = posOf es rv := ⟨_, rfl⟩
    simp only [← hp] at F15 N15 hpl hno ⊢
    have hl2 : (es.map Pr.ref).length = es.length := List.length_map _
    try dsimp only
    try k_fold
    k_steps
    rename_i hE F16 N16
    have ln : (es.map Pr.ref).toArray.size = es.length := by simp
    refine Calls.call_len_list (News.isList N16 (.tail _ (.tail _ (.head _)))) (by omega) ?_
    rw [ln]
    try dsimp only
    try k_fold
    k_steps
    · rename_i hlt2
      obtain ⟨e, he⟩ : ∃ e, es[p]? = some e := ⟨_, List.getElem?_eq_getElem (by first | exact hlt2 | exact Int.ofNat_lt.mp hlt2 | omega)⟩
      have hem := List.mem_of_getElem? he
      have hj3 := j3 e hem
      have hno2 : e.r ≠ rv → ∀ e ∈ es, e.r ≠ rv := fun q => hno fun e' he' => by rw [he] at he'; rw [← Option.some.inj he']; exact q
      have hv : (es.map Pr.ref)[p]? = some (.ref e.a) := by rw [List.getElem?_map, he]; rfl
      have hmm2 : e.ent ∈ es.map Pr.ent := List.mem_map_of_mem hem
      obtain ⟨ea, er, ek, et, eu⟩ := e
      have N17 := News.less (k := (ea, { cls := .type "tuple", data := .seq #[.int er et, .int ek eu] }) :: (P0, (Pr.mk P0 rv 0 t32 t0).obj) :: (I, itR (0 + ((i + 1 : Nat) : Int)) (((n + 1 : Nat) : Int) - ((i + 1 : Nat) : Int))) :: (lf, W.listOf (es.map Pr.ref).toArray ep) :: (es.map Pr.ent ++ TB3)) N16 (subCons (.tail _ (.tail _ (.tail _ (List.mem_append_left _ hmm2)))) (by k_dflt (repeat' (first | exact subNil | (refine' subCons ?_ ?_) | (refine' subApp ?_ ?_) | k_mem | (intro p9 hp9; k_mem)))))
      dsimp only at hj3 hno2
      clear hmm2 hem he
      have il := News.isList N17 (.tail _ (.tail _ (.tail _ (.head _))))
      refine tail_any il.typeIs slot_list_getitem.lookup (wpAny_getItem_list il (by omega) (by omega) (by simpa using hv) ?_) (by with_unfolding_all rfl)
      try dsimp only
      try k_fold
      k_steps
      · rename_i heq
        refine tail_any il.typeIs slot_list_getitem.lookup (wpAny_getItem_list il (by omega) (by omega) (by simpa using hv) ?_) (by with_unfolding_all rfl)
        try dsimp only
        try k_fold
        k_steps
        (with_reducible conv => whnf)
        k_steps
        rename_i P9 hK2 F17 N18 l18 kF kN Tc kX
        refine' hret _ ((P9, _) :: TB3) _ _ ?e1 ?e2 ?e3 ?e4 ?e5
        (case e1 => k_asm); (case e4 => exact EN'.stays (by assumption)); (case e5 => exact EN'.below (by assumption))
        (case e2 => (refine' News.less kN ?_; k_dflt (repeat' (first | exact subNil | (refine' subCons ?_ ?_) | (refine' subApp ?_ ?_) | k_mem | (intro p9 hp9; k_mem)))))
        (case e3 => exact ⟨P9, _, _, _, _, TB3, Nat.le_trans zF4 (by omega), rfl, hj3.1, hj3.2.1, by omega, stretch_fin hj3.1 hj3.2.1 (by omega) (by rw [← hj3.2.2, ← hrv]; exact heq), hTB3, j5.trans hnw3 zF4, rfl⟩)
      · rename_i hne P1 hI2 F17 N17 l17
        have hn2 := hno2 hne
        refine Hold.on ?_
        have N18 : ∃ t1, News g' L' hI2 (((P1, (Pr.mk P1 rv i t32 t1).obj) :: (I, itR (0 + ((i + 1 : Nat) : Int)) (((n + 1 : Nat) : Int) - ((i + 1 : Nat) : Int))) :: (es.map Pr.ent ++ TB3)) ++ [(lf, W.listOf (es.map Pr.ref).toArray ep)]) := ⟨_, News.less N17 (by k_dflt (repeat' (first | exact subNil | (refine' subCons ?_ ?_) | (refine' subApp ?_ ?_) | k_mem | (intro p9 hp9; k_mem))))⟩
        obtain ⟨t1, N18⟩ := N18
        have hlN : (lf, W.listOf (es.map Pr.ref).toArray ep) ∈ ((P1, (Pr.mk P1 rv i t32 t1).obj) :: (I, itR (0 + ((i + 1 : Nat) : Int)) (((n + 1 : Nat) : Int) - ((i + 1 : Nat) : Int))) :: (es.map Pr.ent ++ TB3)) ++ [(lf, W.listOf (es.map Pr.ref).toArray ep)] := List.mem_append_right _ (.head _)
        have heN : ∀ q ∈ es.map Pr.ent, q ∈ ((P1, (Pr.mk P1 rv i t32 t1).obj) :: (I, itR (0 + ((i + 1 : Nat) : Int)) (((n + 1 : Nat) : Int) - ((i + 1 : Nat) : Int))) :: (es.map Pr.ent ++ TB3)) ++ [(lf, W.listOf (es.map Pr.ref).toArray ep)] := fun q hq => List.mem_append_left _ (.tail _ (.tail _ (List.mem_append_left _ hq)))
        have htN : ∀ q ∈ TB3, q ∈ ((P1, (Pr.mk P1 rv i t32 t1).obj) :: (I, itR (0 + ((i + 1 : Nat) : Int)) (((n + 1 : Nat) : Int) - ((i + 1 : Nat) : Int))) :: (es.map Pr.ent ++ TB3)) ++ [(lf, W.listOf (es.map Pr.ref).toArray ep)] := fun q hq => List.mem_append_left _ (.tail _ (.tail _ (List.mem_append_right _ hq)))
        have hea : ∀ e ∈ es, e.a ≠ lf := fun e he => pr_ne N18 hlN (heN _ (List.mem_map_of_mem he))
        have hta : ∀ p ∈ TB3, @Ne Nat p.1 lf := fun p hp e => solid_apart (S := [(lf, W.listOf (es.map Pr.ref).toArray ep)]) N18 hTB3 (solidCons (fun vs h => by cases h) solidNil) (fun p hp => by rw [List.mem_singleton.mp hp]; exact hlN) htN (lf, W.listOf (es.map Pr.ref).toArray ep) (.head _) (List.mem_map.mpr ⟨p, hp, e⟩)
        have hpI : @Ne Nat P1 lf := by omega
        have hII : @Ne Nat I lf := by omega
        have hcB := cmpPairs w es (Pr.mk P1 rv i t32 t1) j2 (fun e he q => absurd q (hn2 e he))
        have hps : (Pr.mk P1 rv i t32 t1).r = rv := rfl
        rw [hps, ← hp] at hcB
        k_dflt (refine' Con.use (rest := (P1, (Pr.mk P1 rv i t32 t1).obj) :: (I, itR (0 + ((i + 1 : Nat) : Int)) (((n + 1 : Nat) : Int) - ((i + 1 : Nat) : Int))) :: (es.map Pr.ent ++ TB3)) (ins_con w lf (es.map Pr.ref) ep (.ref P1) p (by omega) (by omega) _ hcB (pairsAway hea hpI)) ?k1 ?k2 ?k3 ?k4 ?k5 ?k6 ?k7 ?k8 ⟨fun e he => (N18 _ (heN _ (List.mem_map_of_mem he))).1, (N18 _ (.head _)).1⟩ ?kr ?_)
        (case k1 => k_asm); (case k2 => k_asm); (case k3 => k_asm); (case k5 => k_asm); (case k6 => first | exact rfl | assumption); (case k7 => first | exact room3 hd' (by decide) | ((try simp only [depth_under_make, depth_under_kw, depth_in1, depth_deeper, depth_caller] at *); omega)); (case k8 => first | exact room3 hu (by decide) | ((try simp only [units_in1, units_deeper, Around.mark_units, units_caller] at *); omega))
        (case k4 => exact N18)
        (case kr => exact away1 (neCons hpI (neCons hII (neApp (fun p hp => by obtain ⟨e, he, rfl⟩ := List.mem_map.mp hp; exact hea e he) hta))))
        intro r7 T7 h7 tk7 F19 N19 P19 st19 sz19 lt19
        obtain ⟨rfl, rfl⟩ := P19
        have hmp : (es.map Pr.ref).take p ++ Value.ref P1 :: (es.map Pr.ref).drop p = _ := ins_map (x := Pr.mk P1 rv i t32 t1) p
        rw [hmp] at N19
        have hI9 : (I, itR (0 + ((i + 1 : Nat) : Int)) (((n + 1 : Nat) : Int) - ((i + 1 : Nat) : Int))) ∈ [(lf, W.listOf ((es.take p ++ Pr.mk P1 rv i t32 t1 :: es.drop p).map Pr.ref).toArray (ep + 1))] ++ ((P1, (Pr.mk P1 rv i t32 t1).obj) :: (I, itR (0 + ((i + 1 : Nat) : Int)) (((n + 1 : Nat) : Int) - ((i + 1 : Nat) : Int))) :: (es.map Pr.ent ++ TB3)) := List.mem_append_right _ (.tail _ (.head _))
        have hs9 : ∀ q ∈ (es.take p ++ Pr.mk P1 rv i t32 t1 :: es.drop p).map Pr.ent, q ∈ [(lf, W.listOf ((es.take p ++ Pr.mk P1 rv i t32 t1 :: es.drop p).map Pr.ref).toArray (ep + 1))] ++ ((P1, (Pr.mk P1 rv i t32 t1).obj) :: (I, itR (0 + ((i + 1 : Nat) : Int)) (((n + 1 : Nat) : Int) - ((i + 1 : Nat) : Int))) :: (es.map Pr.ent ++ TB3)) := ins_ent (x := Pr.mk P1 rv i t32 t1) (List.mem_append_right _ (.head _)) (fun q hq => List.mem_append_right _ (.tail _ (.tail _ (List.mem_append_left _ hq))))
        have hE9 : ∀ q ∈ (es.take p ++ Pr.mk P1 rv i t32 t1 :: es.drop p).map Pr.ent, @Ne Nat q.1 I := solid_ne N19 hI9 ⟨_, rfl⟩ (solidPrs _) hs9
        clear hcB hlN heN htN N18 N17
        k_steps
        refine' UnrEnd.intro ?u0 N19 ((lf, W.listOf ((es.take p ++ Pr.mk P1 rv i t32 t1 :: es.drop p).map Pr.ref).toArray (ep + 1)) :: ((es.take p ++ Pr.mk P1 rv i t32 t1 :: es.drop p).map Pr.ent ++ TB3)) ?u1 ?u2 ⟨_, es.take p ++ Pr.mk P1 rv i t32 t1 :: es.drop p, TB3, ep + 1, ?v1, ?v2, ?v3, hTB3, j5.trans hnw3 ?v4, d6, ?u6, rfl⟩
        case u0 => k_asm
        case u6 =>
          refine norm_f3 ?_
          intro y h1 h2 h3
          simp only [h1, h2, h3, if_false]
        case u1 => exact subCons hI9 (subCons (List.mem_append_left _ (.head _)) (subApp hs9 (fun q hq => List.mem_append_right _ (.tail _ (.tail _ (List.mem_append_right _ hq))))))
        case u2 => exact neCons (by dsimp only; omega) (neApp hE9 d6)
        case v1 => rw [ins_len (by omega), j1]
        case v2 => rw [hp]; exact up_insert (x := Pr.mk P1 rv i t32 t1) j2 hn2
        case v3 =>
          intro e he
          rcases ins_mem he with rfl | he
          · exact ⟨by dsimp only; omega, by dsimp only; omega, by dsimp only; rw [Int.toNat_natCast]; exact hrv⟩
          · have := j3 e he
            exact ⟨this.1, by omega, this.2.2⟩
        case v4 => exact zF4
    · rename_i hlt2 P1 hI2 F17 N17 l17
      have hn2 := hno fun e he => by obtain ⟨a, _⟩ := List.getElem?_eq_some_iff.mp he; omega
      refine Hold.on ?_
      have N18 : ∃ t1, News g' L' hI2 (((P1, (Pr.mk P1 rv i t32 t1).obj) :: (I, itR (0 + ((i + 1 : Nat) : Int)) (((n + 1 : Nat) : Int) - ((i + 1 : Nat) : Int))) :: (es.map Pr.ent ++ TB3)) ++ [(lf, W.listOf (es.map Pr.ref).toArray ep)]) := ⟨_, News.less N17 (by k_dflt (repeat' (first | exact subNil | (refine' subCons ?_ ?_) | (refine' subApp ?_ ?_) | k_mem | (intro p9 hp9; k_mem))))⟩
      obtain ⟨t1, N18⟩ := N18
      have hlN : (lf, W.listOf (es.map Pr.ref).toArray ep) ∈ ((P1, (Pr.mk P1 rv i t32 t1).obj) :: (I, itR (0 + ((i + 1 : Nat) : Int)) (((n + 1 : Nat) : Int) - ((i + 1 : Nat) : Int))) :: (es.map Pr.ent ++ TB3)) ++ [(lf, W.listOf (es.map Pr.ref).toArray ep)] := List.mem_append_right _ (.head _)
      have heN : ∀ q ∈ es.map Pr.ent, q ∈ ((P1, (Pr.mk P1 rv i t32 t1).obj) :: (I, itR (0 + ((i + 1 : Nat) : Int)) (((n + 1 : Nat) : Int) - ((i + 1 : Nat) : Int))) :: (es.map Pr.ent ++ TB3)) ++ [(lf, W.listOf (es.map Pr.ref).toArray ep)] := fun q hq => List.mem_append_left _ (.tail _ (.tail _ (List.mem_append_left _ hq)))
      have htN : ∀ q ∈ TB3, q ∈ ((P1, (Pr.mk P1 rv i t32 t1).obj) :: (I, itR (0 + ((i + 1 : Nat) : Int)) (((n + 1 : Nat) : Int) - ((i + 1 : Nat) : Int))) :: (es.map Pr.ent ++ TB3)) ++ [(lf, W.listOf (es.map Pr.ref).toArray ep)] := fun q hq => List.mem_append_left _ (.tail _ (.tail _ (List.mem_append_right _ hq)))
      have hea : ∀ e ∈ es, e.a ≠ lf := fun e he => pr_ne N18 hlN (heN _ (List.mem_map_of_mem he))
      have hta : ∀ p ∈ TB3, @Ne Nat p.1 lf := fun p hp e => solid_apart (S := [(lf, W.listOf (es.map Pr.ref).toArray ep)]) N18 hTB3 (solidCons (fun vs h => by cases h) solidNil) (fun p hp => by rw [List.mem_singleton.mp hp]; exact hlN) htN (lf, W.listOf (es.map Pr.ref).toArray ep) (.head _) (List.mem_map.mpr ⟨p, hp, e⟩)
      have hpI : @Ne Nat P1 lf := by omega
      have hII : @Ne Nat I lf := by omega
      have hcB := cmpPairs w es (Pr.mk P1 rv i t32 t1) j2 (fun e he q => absurd q (hn2 e he))
      have hps : (Pr.mk P1 rv i t32 t1).r = rv := rfl
      rw [hps, ← hp] at hcB
      k_dflt (refine' Con.use (rest := (P1, (Pr.mk P1 rv i t32 t1).obj) :: (I, itR (0 + ((i + 1 : Nat) : Int)) (((n + 1 : Nat) : Int) - ((i + 1 : Nat) : Int))) :: (es.map Pr.ent ++ TB3)) (ins_con w lf (es.map Pr.ref) ep (.ref P1) p (by omega) (by omega) _ hcB (pairsAway hea hpI)) ?k1 ?k2 ?k3 ?k4 ?k5 ?k6 ?k7 ?k8 ⟨fun e he => (N18 _ (heN _ (List.mem_map_of_mem he))).1, (N18 _ (.head _)).1⟩ ?kr ?_)
      (case k1 => k_asm); (case k2 => k_asm); (case k3 => k_asm); (case k5 => k_asm); (case k6 => first | exact rfl | assumption); (case k7 => first | exact room3 hd' (by decide) | ((try simp only [depth_under_make, depth_under_kw, depth_in1, depth_deeper, depth_caller] at *); omega)); (case k8 => first | exact room3 hu (by decide) | ((try simp only [units_in1, units_deeper, Around.mark_units, units_caller] at *); omega))
      (case k4 => exact N18)
      (case kr => exact away1 (neCons hpI (neCons hII (neApp (fun p hp => by obtain ⟨e, he, rfl⟩ := List.mem_map.mp hp; exact hea e he) hta))))
      intro r7 T7 h7 tk7 F19 N19 P19 st19 sz19 lt19
      obtain ⟨rfl, rfl⟩ := P19
      have hmp : (es.map Pr.ref).take p ++ Value.ref P1 :: (es.map Pr.ref).drop p = _ := ins_map (x := Pr.mk P1 rv i t32 t1) p
      rw [hmp] at N19
      have hI9 : (I, itR (0 + ((i + 1 : Nat) : Int)) (((n + 1 : Nat) : Int) - ((i + 1 : Nat) : Int))) ∈ [(lf, W.listOf ((es.take p ++ Pr.mk P1 rv i t32 t1 :: es.drop p).map Pr.ref).toArray (ep + 1))] ++ ((P1, (Pr.mk P1 rv i t32 t1).obj) :: (I, itR (0 + ((i + 1 : Nat) : Int)) (((n + 1 : Nat) : Int) - ((i + 1 : Nat) : Int))) :: (es.map Pr.ent ++ TB3)) := List.mem_append_right _ (.tail _ (.head _))
      have hs9 : ∀ q ∈ (es.take p ++ Pr.mk P1 rv i t32 t1 :: es.drop p).map Pr.ent, q ∈ [(lf, W.listOf ((es.take p ++ Pr.mk P1 rv i t32 t1 :: es.drop p).map Pr.ref).toArray (ep + 1))] ++ ((P1, (Pr.mk P1 rv i t32 t1).obj) :: (I, itR (0 + ((i + 1 : Nat) : Int)) (((n + 1 : Nat) : Int) - ((i + 1 : Nat) : Int))) :: (es.map Pr.ent ++ TB3)) := ins_ent (x := Pr.mk P1 rv i t32 t1) (List.mem_append_right _ (.head _)) (fun q hq => List.mem_append_right _ (.tail _ (.tail _ (List.mem_append_left _ hq))))
      have hE9 : ∀ q ∈ (es.take p ++ Pr.mk P1 rv i t32 t1 :: es.drop p).map Pr.ent, @Ne Nat q.1 I := solid_ne N19 hI9 ⟨_, rfl⟩ (solidPrs _) hs9
      clear hcB hlN heN htN N18 N17
      k_steps
      refine' UnrEnd.intro ?u0 N19 ((lf, W.listOf ((es.take p ++ Pr.mk P1 rv i t32 t1 :: es.drop p).map Pr.ref).toArray (ep + 1)) :: ((es.take p ++ Pr.mk P1 rv i t32 t1 :: es.drop p).map Pr.ent ++ TB3)) ?u1 ?u2 ⟨_, es.take p ++ Pr.mk P1 rv i t32 t1 :: es.drop p, TB3, ep + 1, ?v1, ?v2, ?v3, hTB3, j5.trans hnw3 ?v4, d6, ?u6, rfl⟩
      case u0 => k_asm
      case u6 =>
        refine norm_f3 ?_
        intro y h1 h2 h3
        simp only [h1, h2, h3, if_false]
      case u1 => exact subCons hI9 (subCons (List.mem_append_left _ (.head _)) (subApp hs9 (fun q hq => List.mem_append_right _ (.tail _ (.tail _ (List.mem_append_right _ hq))))))
      case u2 => exact neCons (by dsimp only; omega) (neApp hE9 d6)
      case v1 => rw [ins_len (by omega), j1]
      case v2 => rw [hp]; exact up_insert (x := Pr.mk P1 rv i t32 t1) j2 hn2
      case v3 =>
        intro e he
        rcases ins_mem he with rfl | he
        · exact ⟨by dsimp only; omega, by dsimp only; omega, by dsimp only; rw [Int.toNat_natCast]; exact hrv⟩
        · have := j3 e he
          exact ⟨this.1, by omega, this.2.2⟩
      case v4 => exact zF4
end Mine
end

end

theorem Mine.reset20 : True := by
  w_top off
  first | walk1 | exact True.intro

section
open PySem PySem.W PyProof.Rows PySem.Calls PySem.Spec
set_option compiler.extract_closed false
set_option Elab.async false
set_option linter.unusedVariables false
set_option linter.unusedSimpArgs false
set_option pp.maxSteps 2000
set_option pp.deepTerms false
set_option pp.deepTerms.threshold 10
namespace Mine
open PySem
theorem lk_list_keys : typeLookup (.type "list") "keys" = pure none := by rw [typeLookup_type, builtinLookup_eq_fast]; kernel_rfl
theorem lk_list_gah : typeLookup (.type "list") "__getattr__" = pure none := by rw [typeLookup_type, builtinLookup_eq_fast]; kernel_rfl
theorem attr_no_first : ((Manifest.find? "AttributeError").elim false fun t => t.mro.contains "StopIteration" || t.mro.contains "SystemExit") = false := by decide +kernel
theorem sub_attr : isSubtype (.type "AttributeError") (.type "AttributeError") = pure true := by rw [isSubtype_type]; kernel_rfl
section
variable {prog : Program} {w : World} {A : Around} {E : Value → Shared → Prop} {h : Heap} {g : Array GenState} {d : Drawn} {t : Nat} {os : OsState} {a : Addr} {its : Array Value} {n : Nat}
theorem raise_attr {α : Type} {msg : Str} {v : Value} {name : Str} {Q : α → Shared → Prop} (hh : A.handled = none) (hm : msg.length ≤ sizeLine)
    (hE : ∀ h' tk' e, (∀ b o, h.get? b = some o → h'.get? b = some o) → (∃ o, h'.get? e = some o ∧ o.cls = .type "AttributeError") → E (.ref e) ⟨h', g, d, tk', os⟩) :
    wpAny (model prog w) A (raiseAttrError v name msg : Sem α) Q E ⟨h, g, d, t, os⟩ := by
  unfold raiseAttrError
  refine wpAny_bind (wpAny_mkStr (wpAny_bind ?_) hm)
  unfold newExc newTuple
  refine wpAny_bind (wpAny_newObj_type ?_)
  refine wpAny_bind (m := firstArgMember _ _) (wpAny_of_eq (a := Value.none) (by simp only [firstArgMember, attr_no_first]; rfl) ?_)
  refine wpAny_newObj_type ?_
  have hs := sub_attr
  dsimp only
  repeat (any_goals (first | assumption | wp_step))
  unfold raiseNew
  refine wpAny_bind (wpAny_handled ?_)
  rw [hh]
  first
    | refine wpAny_throw ?_
    | refine wpAny_bind (wpAny_pure (wpAny_throw ?_))
  refine hE _ _ _ ?_ ?_
  · intro b o' e
    have hb : @LT.lt Nat _ b _ := Heap.lt_size e
    exact (Heap.get?_update_other _ _ (by rw [Heap.size_push]; exact Nat.ne_of_gt (Nat.lt_succ_of_lt hb))).trans (Heap.get?_push_of_some _ (Heap.get?_push_of_some _ e))
  · exact ⟨_, Heap.get?_update_self _ (Heap.get?_push_size _ rfl) rfl, rfl⟩
theorem keys_entry {tk : Tok} {Q : Fin → Shared → Prop} (hh : A.handled = none) (hx : h.get? a = some { cls := .type "list", data := .seq its n })
    (hE : ∀ h' tk' e, (∀ b o, h.get? b = some o → h'.get? b = some o) → (∃ o, h'.get? e = some o ∧ o.cls = .type "AttributeError") → E (.ref e) ⟨h', g, d, tk', os⟩) :
    wpAny (model prog w) A (Builtin.«object.__getattribute__» ⟨[.ref a, .str "keys" tk], []⟩) Q E ⟨h, g, d, t, os⟩ := by
  have hT : (⟨h, g, d, t, os⟩ : Shared).TypeIs (.ref a) "list" := ⟨_, hx, rfl⟩
  have f1 := lk_list_keys
  repeat (any_goals (first | assumption | wp_step))
  refine raise_attr hh (by decide +kernel) hE
theorem keys_call {tk : Tok} {R : Result → Shared → Prop} (hh : A.handled = none) (hx : h.get? a = some { cls := .type "list", data := .seq its n })
    (hE : ∀ h' tk' e, (∀ b o, h.get? b = some o → h'.get? b = some o) → (∃ o, h'.get? e = some o ∧ o.cls = .type "AttributeError") → R (.error (.ref e)) ⟨h', g, d, tk', os⟩) :
    codeAny (model prog w) A (.call (.builtin "list.__getattribute__") ⟨[.ref a, .str "keys" tk], []⟩) R ⟨h, g, d, t, os⟩ :=
  codeAny_call_builtin F.slot_list_getattribute.plain F.entry_list_ga (F.slot_list_getattribute.check _ _ _ _ _ _ _ _ (show (⟨h, g, d, t, os⟩ : Shared).TypeIs (.ref a) "list" from ⟨_, hx, rfl⟩) (F.args_list_getattribute_2 _ _) (keys_entry (by simp [hh]) hx hE))
theorem keys_by {tk : Tok} {Q : Value → Shared → Prop} (hh : A.handled = none) (hx : h.get? a = some { cls := .type "list", data := .seq its n })
    (hE : ∀ h' tk' e, (∀ b o, h.get? b = some o → h'.get? b = some o) → (∃ o, h'.get? e = some o ∧ o.cls = .type "AttributeError") → E (.ref e) ⟨h', g, d, tk', os⟩) :
    wpAny (model prog w) A (getAttrBy (.ref a) (.str "keys" tk) false) Q E ⟨h, g, d, t, os⟩ := by
  have hT : (⟨h, g, d, t, os⟩ : Shared).TypeIs (.ref a) "list" := ⟨_, hx, rfl⟩
  have f2 := F.slot_list_getattribute.lookup
  have f3 := F.slot_list_getattribute.bind (.ref a)
  have f4 := lk_list_gah
  have f5 := sub_attr
  repeat (any_goals (first | assumption | wp_step))
  refine keys_call hh hx ?_
  intro h' tk' e hk hty
  obtain ⟨o, ho, hoc⟩ := hty
  have hT2 : (⟨h', g, d, tk', os⟩ : Shared).TypeIs (.ref e) "AttributeError" := ⟨_, ho, hoc⟩
  have hfin := hE h' tk' e hk ⟨o, ho, hoc⟩
  repeat (any_goals (first | assumption | wp_step))
theorem keys_attr {Q : Option Value → Shared → Prop} (hh : A.handled = none) (hx : h.get? a = some { cls := .type "list", data := .seq its n })
    (hq : ∀ h' tk', (∀ b o, h.get? b = some o → h'.get? b = some o) → Q none ⟨h', g, d, tk', os⟩) :
    wpAny (model prog w) A (getAttr? (.ref a) "keys") Q E ⟨h, g, d, t, os⟩ := by
  unfold getAttr? getAttrBy?
  have f5 := sub_attr
  refine wpAny_bind (wpAny_mkText ?_)
  refine wpAny_bind (wpAny_attempt (keys_by hh hx ?_))
  intro h' tk' e hk hty
  obtain ⟨o, ho, hoc⟩ := hty
  have hT2 : (⟨h', g, d, tk', os⟩ : Shared).TypeIs (.ref e) "AttributeError" := ⟨_, ho, hoc⟩
  have hfin := hq h' tk' hk
  repeat (any_goals (first | assumption | wp_step))
end
end Mine
end

theorem Mine.reset21 : True := by
  w_top off
  first | walk1 | exact True.intro

section
open PySem PySem.W PyProof.Rows PySem.Calls PySem.Spec
set_option compiler.extract_closed false
set_option Elab.async false
set_option linter.unusedVariables false
set_option linter.unusedSimpArgs false
set_option pp.maxSteps 2000
set_option pp.deepTerms false
set_option pp.deepTerms.threshold 10
namespace Mine
/-- the count, and the numbers that the law takes from its script -/
theorem cnt_range {x : Int} : 2 ≤ 2 + x.fmod 2 ∧ 2 + x.fmod 2 ≤ 3 := by
  rw [Int.fmod_eq_emod_of_nonneg _ (by decide)]
  omega
theorem taken_len {xs : List Int} {c : Int} (h : 2 ≤ c) (h3 : c ≤ 3) : (((List.take (2 * c - 1).toNat (xs ++ [1, 2, 3, 5, 8, 13, 21])).filter fun _ => true).map fun a => a.fmod 1000).length = (2 * c - 1).toNat := by
  rw [List.filter_eq_self.mpr (fun _ _ => rfl), List.length_map, List.length_take, List.length_append]
  exact Nat.min_eq_left (Nat.le_trans (Int.toNat_le.mpr (show 2 * c - 1 ≤ ((7 : Nat) : Int) by omega)) (Nat.le_add_left 7 xs.length))
theorem taken_range {l : List Int} : ∀ x ∈ (l.filter fun _ => true).map (fun a => a.fmod 1000), 0 ≤ x ∧ x < 1000 := by
  intro x hx
  obtain ⟨a, _, rfl⟩ := List.mem_map.mp hx
  rw [Int.fmod_eq_emod_of_nonneg _ (by decide)]
  omega
end Mine
end

theorem Mine.reset22 : True := by
  w_top off
  first | walk1 | exact True.intro

section
open PySem PySem.W PyProof.Rows PySem.Calls PySem.Spec
set_option compiler.extract_closed false
set_option Elab.async false
set_option linter.unusedVariables false
set_option linter.unusedSimpArgs false
set_option pp.maxSteps 2000
set_option pp.deepTerms false
set_option pp.deepTerms.threshold 10
namespace Mine
theorem sum_emod {α : Type} (l : List α) (f : α → Int) (c : Int) : (l.map f).sum % c = (l.map fun a => f a % c).sum % c := by
  induction l with
  | nil => rfl
  | cons a l ih => rw [List.map_cons, List.map_cons, List.sum_cons, List.sum_cons, Int.add_emod, ih, ← Int.add_emod, Int.emod_add_emod]
theorem pick_mod (ns fs : List Int) (c : Int) : (pick ns fs).sum % c = (pick (ns.map (· % c)) fs).sum % c := by
  unfold pick
  rw [sum_emod, List.length_map]
  congr 2
  refine List.map_congr_left fun k hk => ?_
  have hk2 : k < ns.length := List.mem_range.mp (List.mem_filter.mp hk).1
  simp [List.getD_eq_getElem?_getD, List.getElem?_map, List.getElem?_eq_getElem hk2]
theorem good_mod (ns : List Int) (c : Int) (lot : Nat) : good ns c lot = good (ns.map (· % c)) c lot := by
  unfold good
  rw [pick_mod, List.length_map]
theorem three {x : Int} : x % 3 ∈ [0, 1, 2] := mod_mem (n := 3) (by decide)
theorem two {x : Int} : x % 2 ∈ [0, 1] := mod_mem (n := 2) (by decide)
theorem egz3 : ∀ a ∈ [(0 : Int), 1, 2], ∀ b ∈ [(0 : Int), 1, 2], ∀ c ∈ [(0 : Int), 1, 2], ∀ d ∈ [(0 : Int), 1, 2], ∀ e ∈ [(0 : Int), 1, 2], ((List.range 32).any fun lot => good [a, b, c, d, e] 3 lot) = true := by decide +kernel
theorem egz2 : ∀ a ∈ [(0 : Int), 1], ∀ b ∈ [(0 : Int), 1], ∀ c ∈ [(0 : Int), 1], ((List.range 8).any fun lot => good [a, b, c] 2 lot) = true := by decide +kernel
theorem egz {ns : List Int} {cnt : Int} (hl : ns.length = (2 * cnt - 1).toNat) (h2 : 2 ≤ cnt) (h3 : cnt ≤ 3) : ((List.range (2 ^ ns.length)).filter (good ns cnt)).map (fun x : Nat => (x : Int)) ≠ [] := by
  suffices h : ((List.range (2 ^ ns.length)).any fun lot => good (ns.map (· % cnt)) cnt lot) = true by
    obtain ⟨l, hl1, hl2⟩ := List.any_eq_true.mp h
    rw [← good_mod] at hl2
    intro e
    have : l ∈ (List.range (2 ^ ns.length)).filter (good ns cnt) := List.mem_filter.mpr ⟨hl1, hl2⟩
    rw [List.map_eq_nil_iff.mp e] at this
    cases this
  obtain rfl | rfl := two_of h2 h3
  · match ns, hl with
    | [a, b, c], _ => exact egz2 _ two _ two _ two
  · match ns, hl with
    | [a, b, c, d, e], _ => exact egz3 _ three _ three _ three _ three _ three
theorem nough {cnt : Int} (h2 : 2 ≤ cnt) (h3 : cnt ≤ 3) : ((List.range (2 ^ ((List.replicate (cnt - 1).toNat [(0 : Int)]).flatten ++ (List.replicate (cnt - 1).toNat [(1 : Int)]).flatten).length)).filter (good ((List.replicate (cnt - 1).toNat [(0 : Int)]).flatten ++ (List.replicate (cnt - 1).toNat [(1 : Int)]).flatten) cnt)).map (fun x : Nat => (x : Int)) = [] := by
  obtain rfl | rfl := two_of h2 h3
  · decide +kernel
  · decide +kernel
theorem nough_len {cnt : Int} (h2 : 2 ≤ cnt) (h3 : cnt ≤ 3) : ((List.replicate (cnt - 1).toNat [(0 : Int)]).flatten ++ (List.replicate (cnt - 1).toNat [(1 : Int)]).flatten).length ≤ 5 := by
  rw [rep_flat, rep_flat, List.length_append, List.length_replicate, List.length_replicate]; omega
theorem nough_range {cnt : Int} : ∀ x ∈ ((List.replicate (cnt - 1).toNat [(0 : Int)]).flatten ++ (List.replicate (cnt - 1).toNat [(1 : Int)]).flatten), 0 ≤ x ∧ x < 1000 := by
  intro x hx
  rw [rep_flat, rep_flat] at hx
  rcases List.mem_append.mp hx with h | h
  · rw [List.eq_of_mem_replicate h]; omega
  · rw [List.eq_of_mem_replicate h]; omega
end Mine
end

theorem Mine.reset23 : True := by
  w_top off
  first | walk1 | exact True.intro

section
open PySem PySem.W PyProof.Rows PySem.Calls PySem.Spec
set_option compiler.extract_closed false
set_option Elab.async false
set_option linter.unusedVariables false
set_option linter.unusedSimpArgs false
set_option pp.maxSteps 2000
set_option pp.deepTerms false
set_option pp.deepTerms.threshold 10
namespace Mine
theorem digs_get : ∀ (n k x : Nat), k < n → (digs 1 n x).getD k 0 = ((x / 2 ^ k % 2 : Nat) : Int)
  | 0, k, x, h => by omega
  | n + 1, 0, x, _ => by simp [digs]
  | n + 1, k + 1, x, h => by
    rw [digs, List.getD_cons_succ, digs_get n k _ (by omega), Nat.pow_one, Nat.div_div_eq_div_mul, Nat.pow_succ, Nat.mul_comm]
open PyProof.Rows in
theorem lot_pick {ns : List Int} {x : Int} {lot : Nat} (hx : (lot : Int) = x) :
    ((rangeInts 0 1 ns.length).filter (fun k => decide ((x.fdiv (2 ^ k.toNat)).fmod 2 = 1))).map (fun k => ns.getD k.toNat 0) = pick ns (digs 1 ns.length lot) := by
  subst hx
  rw [← pick_range]
  congr 1
  refine List.filter_congr fun k hk => ?_
  rw [rangeInts_zero_one] at hk
  obtain ⟨k, hk2, rfl⟩ := List.mem_map.mp hk
  have hk := List.mem_range.mp hk2
  rw [digs_get _ _ _ (by simpa using hk), Int.fmod_eq_emod_of_nonneg _ (by decide), Int.fdiv_eq_ediv_of_nonneg _ (by exact_mod_cast Nat.zero_le _)]
  have e : ((lot : Int) / 2 ^ (k : Int).toNat % 2) = ((lot / 2 ^ (k : Int).toNat % 2 : Nat) : Int) := by simp
  rw [e]
  rfl
theorem good_pick {ns : List Int} {cnt : Int} {lot : Nat} (h : good ns cnt lot = true) : ((pick ns (digs 1 ns.length lot)).length : Int) = cnt ∧ (pick ns (digs 1 ns.length lot)).sum % cnt = 0 := by
  unfold good at h
  simp only [Bool.and_eq_true, beq_iff_eq] at h
  refine ⟨?_, h.2⟩
  have h2 := ones_len (fs := digs 1 ns.length lot) (fun d hd => by have := digs_range 1 _ _ d hd; simpa using this)
  rw [← h.1, ← h2, digs_length]
  unfold pick
  rw [List.length_map]
end Mine
end

theorem Mine.reset24 : True := by
  w_top off
  first | walk1 | exact True.intro

section
open PySem PySem.W PyProof.Rows PySem.Calls PySem.Spec
set_option compiler.extract_closed false
set_option Elab.async false
set_option linter.unusedVariables false
set_option linter.unusedSimpArgs false
set_option pp.maxSteps 2000
set_option pp.deepTerms false
set_option pp.deepTerms.threshold 10
namespace Mine
/-- a loop over a list whose letter is a cell: each turn ends at the body's end -/
theorem iter_cell {prog : Program} {w : World} {A : Around} {E : Value → Shared → Prop} {s : Shared} {env : Env} {h₀ : Heap} {target : PySem.Expr} {body : List Stmt} {Q : Flow → Shared → Prop}
    {ax : Addr} {lo : Obj} {vs : List Value} {n : Nat} {m₀ : Str → Option Value} {news : List (Addr × Obj)}
    (hh : A.handled = none) (F : Fr h₀ env.locals s.heap m₀) (N : News h₀ env.locals s.heap news) (hm : (ax, lo) ∈ news) (hc : lo.cls = .type "list") (hd : lo.data = .seq vs.toArray n)
    (J : Addr → Nat → (Str → Option Value) → List (Addr × Obj) → Prop)
    (keep : ∀ I i m' n', J I i m' n' → (ax, lo) ∈ n')
    (start : ∀ I : Addr, (∀ p ∈ news, p.1 < I) → J I 0 m₀ news)
    (turn : ∀ I i v m₁ news₁ (it : Obj) s₁, (∀ p ∈ news, p.1 < I) → i < vs.length → vs[i]? = some v → J I i m₁ news₁ → it.cls = .type "list_iterator" → Fr h₀ env.locals s₁.heap m₁ → News h₀ env.locals s₁.heap ((I, it) :: news₁) →
      wpAny (model prog w) A (assign target env v) (fun _ s₃ => wpAny (model prog w) A (execs body env) (fun f s₂ => match f with | .next => UnrEnd h₀ env.locals s₁ I it (J I (i + 1)) s₂ | _ => False) E s₃) E s₁)
    (done : ∀ I m news h tk, J I vs.length m news → Fr h₀ env.locals h m → News h₀ env.locals h news → Q .next { s with heap := h, toks := tk }) :
    wpAny (model prog w) A (pyIter (.ref ax)) (fun it s₂ => LoopAtT prog w A h₀ env target body Q E it s₂) E s := by
  have hax := N _ hm
  have hl : s.heap.IsList ax vs.toArray := ⟨lo, hax.1, hc, n, hd⟩
  have hlt : ax < s.heap.objs.size := Heap.lt_size hax.1
  have hne : ax ≠ s.heap.objs.size := Nat.ne_of_lt hlt
  refine wpAny_pyIter_list hl ?_
  have hI : ∀ p ∈ news, p.1 < s.heap.objs.size := fun p hp => Heap.lt_size (N p hp).1
  have W := Walks.list (prog := prog) (w := w) hh s.heap.objs.size ax hne vs.toArray
  have hnew := next_is_new F
  have hlen : vs.toArray.size = vs.length := by simp
  rw [hlen] at W
  refine ⟨_, _, _, vs.length, _, _, m₀, news, J s.heap.objs.size, rfl, W, ?_, ?_, ?_, ⟨⟨_, Heap.get?_push_size _ rfl, rfl, rfl⟩, hl.at fun o e => Heap.get?_push_of_some _ e⟩, F.push _, (fun p hp => ⟨Heap.get?_push_of_some _ (N p hp).1, (N p hp).2⟩), ?_, start _ hI, ?_, ?_⟩
  · intro hmm
    rcases List.mem_cons.mp hmm with e | hmm
    · exact absurd F.ns.lt (e ▸ Nat.lt_irrefl _)
    · exact hax.2.1 (List.mem_singleton.mp hmm).symm
  · intro b hb
    rw [List.mem_singleton.mp hb]
    exact hnew
  · intro p hp hI
    exact absurd (Heap.lt_size (N p hp).1) ((List.mem_singleton.mp hI) ▸ Nat.lt_irrefl _)
  · intro i s' v Q' hst hq
    exact letGo_listiter hst.1 hq
  · intro i v m₁ news₁ s₁ own hin hP hJ hoff hown hget hall hst F₁ N₁
    obtain ⟨it, hit, hic, hid⟩ := hst.1
    have hmemI := hall s.heap.objs.size (List.mem_cons_self ..) hnew _ hit
    have N₂ : News h₀ env.locals s₁.heap ((s.heap.objs.size, it) :: news₁) := fun p hp => by
      rcases List.mem_cons.mp hp with rfl | hp
      · exact N₁ _ (List.mem_append_left _ hmemI)
      · exact N₁ _ (List.mem_append_right _ hp)
    refine wpAny_mono (turn _ i v m₁ news₁ it s₁ hI hin (by simpa using hP) hJ hic F₁ N₂) (fun _ s₃ p => wpAny_mono p (fun f s₂ p => ?_) fun _ _ e => e) fun _ _ e => e
    have hmem₁ := keep _ _ _ _ hJ
    cases f with
    | next =>
      obtain ⟨h', tk, m', news', e, F', N', ho, r⟩ := p
      refine ⟨rfl, h', tk, m', news', e, F', fun p hp => ?_, fun p hp hI => ho p hp (List.mem_singleton.mp hI), r⟩
      have hmm := keep _ _ _ _ r
      rcases List.mem_append.mp hp with hp | hp
      · have h2 : s₁.heap.get? p.1 = some p.2 := hget p hp
        rcases List.mem_cons.mp (hown p hp) with h1 | h1
        · have h3 : p = (s.heap.objs.size, it) := by
            rw [h1, hit] at h2
            exact Prod.ext h1 (Option.some.inj h2).symm
          rw [h3]; exact N' _ (List.mem_cons_self ..)
        · have h1' : p.1 = ax := List.mem_singleton.mp h1
          have h3 : p = (ax, lo) := by
            rw [h1', (N₁ _ (List.mem_append_right _ hmem₁)).1] at h2
            exact Prod.ext h1' (Option.some.inj h2).symm
          rw [h3]; exact N' _ (List.mem_cons_of_mem _ hmm)
      · exact N' _ (List.mem_cons_of_mem _ hp)
    | ret v => exact p.elim
    | brk => exact p.elim
    | cont => exact p.elim
  · intro h' tk m' news' F' N' _ hJ
    exact done _ _ _ _ _ hJ F' N'
end Mine
end

theorem Mine.reset25 : True := by
  w_top off
  first | walk1 | exact True.intro

section
open PySem PySem.W PyProof.Rows PySem.Calls PySem.Spec
set_option compiler.extract_closed false
set_option Elab.async false
set_option linter.unusedVariables false
set_option linter.unusedSimpArgs false
set_option pp.maxSteps 2000
set_option pp.deepTerms false
set_option pp.deepTerms.threshold 10
namespace Mine
noncomputable def posI (ds : List Int) (x : Int) : Nat := (ds.takeWhile fun d => decide (d < x)).length
def Inc (ds : List Int) : Prop := ds.Pairwise fun a b => a < b
theorem posI_le : ∀ (ds : List Int) (x : Int), posI ds x ≤ ds.length
  | [], _ => Nat.le_refl _
  | d :: ds, x => by
    unfold posI
    rw [List.takeWhile_cons]
    by_cases h : d < x
    · rw [if_pos (decide_eq_true h)]; exact Nat.succ_le_succ (posI_le ds x)
    · rw [if_neg (by simpa using h)]; exact Nat.zero_le _
theorem posI_iff : ∀ {ds : List Int} {x : Int} {i : Nat} {d : Int}, Inc ds → ds[i]? = some d → (i < posI ds x ↔ d < x)
  | [], _, _, _, _, h => by simp at h
  | f :: ds, x, i, d, hu, h => by
    unfold posI
    rw [List.takeWhile_cons]
    have hu' := List.pairwise_cons.mp hu
    by_cases hf : f < x
    · rw [if_pos (decide_eq_true hf), List.length_cons]
      cases i with
      | zero => simp at h; subst h; simp [hf]
      | succ i =>
        have h' : ds[i]? = some d := by simpa using h
        rw [Nat.succ_lt_succ_iff]
        exact posI_iff (x := x) hu'.2 h'
    · rw [if_neg (by simpa using hf)]
      refine ⟨fun q => absurd q (Nat.not_lt_zero _), fun q => ?_⟩
      cases i with
      | zero => simp at h; subst h; exact absurd q hf
      | succ i =>
        have h' : ds[i]? = some d := by simpa using h
        have := hu'.1 d (List.mem_of_getElem? h')
        omega
theorem cmpInts (w : World) (vs : List Value) (ds : List Int) (x : Int) (t : Tok) (hi : IntsAre vs ds) (hu : Inc ds) : Cmp w (fun _ => True) vs (.int x t) (posI ds x) where
  keeps := fun _ _ _ _ => True.intro
  lt := fun A i v s Q E hv _ _ hq => by
    obtain ⟨d, u, rfl, hd⟩ := hi.at i v hv
    refine wpAny_lt_int ?_
    rw [show decide (d < x) = decide (i < posI ds x) from decide_eq_decide.mpr (posI_iff hu hd).symm]
    exact hq
theorem inc_insert {ds : List Int} {x : Int} (hu : Inc ds) (hn : x ∉ ds) : Inc (ds.take (posI ds x) ++ x :: ds.drop (posI ds x)) := by
  have hlt : ∀ e ∈ ds.take (posI ds x), e < x := by
    intro e he
    obtain ⟨i, hi, rfl⟩ := List.mem_iff_getElem.mp he
    have hi' : i < posI ds x := by rw [List.length_take] at hi; omega
    have hget : ds[i]? = some (ds.take (posI ds x))[i] := by
      rw [List.getElem_take]
      exact List.getElem?_eq_getElem _
    exact (posI_iff hu hget).mp hi'
  have hgt : ∀ e ∈ ds.drop (posI ds x), x < e := by
    intro e he
    obtain ⟨i, hi, rfl⟩ := List.mem_iff_getElem.mp he
    have hget : ds[posI ds x + i]? = some (ds.drop (posI ds x))[i] := by
      rw [List.getElem_drop]
      exact List.getElem?_eq_getElem _
    have h1 := (posI_iff (x := x) hu hget)
    have h2 : (ds.drop (posI ds x))[i] ≠ x := fun q => hn (q ▸ List.mem_of_getElem? hget)
    omega
  have hs : (ds.take (posI ds x) ++ ds.drop (posI ds x)).Pairwise fun e f => e < f := by rw [List.take_append_drop]; exact hu
  obtain ⟨p1, p2, p3⟩ := List.pairwise_append.mp hs
  refine List.pairwise_append.mpr ⟨p1, List.pairwise_cons.mpr ⟨hgt, p2⟩, fun e he f hf => ?_⟩
  rcases List.mem_cons.mp hf with rfl | hf
  · exact hlt e he
  · exact p3 e he f hf
theorem not_there {ds : List Int} {x : Int} (hu : Inc ds) (h : ∀ e, ds[posI ds x]? = some e → e ≠ x) : x ∉ ds := by
  intro he
  obtain ⟨i, hi⟩ := List.mem_iff_getElem?.mp he
  have h1 := posI_iff (x := x) hu hi
  have h2 : ¬ i < posI ds x := fun q2 => by have := h1.mp q2; omega
  by_cases h3 : i = posI ds x
  · exact h x (by rw [← h3]; exact hi) rfl
  · have h4 : posI ds x < i := by omega
    have hl : i < ds.length := (List.getElem?_eq_some_iff.mp hi).1
    have hg : ds[posI ds x]? = some ds[posI ds x] := List.getElem?_eq_getElem (by omega)
    have h5 := posI_iff (x := x) hu hg
    have h7 := List.pairwise_iff_getElem.mp hu (posI ds x) i (by omega) hl h4
    have h8 : ds[i] = x := (List.getElem?_eq_some_iff.mp hi).2
    rw [h8] at h7
    omega

/-- what the drawing keeps: in order, from 1 to b, at most h + 1, and all that were seen while there was room -/
structure Drawn (b : Int) (h : Nat) (pre ds : List Int) : Prop where
  inc : Inc ds
  rng : ∀ d ∈ ds, 1 ≤ d ∧ d ≤ b
  len : ds.length ≤ h + 1
  all : ds.length ≤ h → ∀ x ∈ pre, 1 + x.fmod b ∈ ds
theorem Drawn.nil (b : Int) (h : Nat) : Drawn b h [] [] := ⟨List.Pairwise.nil, (fun _ h => nomatch h), Nat.zero_le _, (fun _ _ h => nomatch h)⟩
theorem Drawn.full {b : Int} {h : Nat} {pre ds : List Int} {x : Int} (d : Drawn b h pre ds) (q : ¬ ds.length ≤ h) : Drawn b h (pre ++ [x]) ds := ⟨d.inc, d.rng, d.len, fun p => absurd p q⟩
theorem Drawn.had {b : Int} {h p : Nat} {pre ds : List Int} {x : Int} (d : Drawn b h pre ds) (q : ds[p]? = some (1 + x.fmod b)) : Drawn b h (pre ++ [x]) ds := ⟨d.inc, d.rng, d.len, fun z y hy => by
  rcases List.mem_append.mp hy with hy | hy
  · exact d.all z y hy
  · rw [List.mem_singleton.mp hy]; exact List.mem_of_getElem? q⟩
theorem Drawn.put {b : Int} {h : Nat} {pre ds : List Int} {x : Int} (d : Drawn b h pre ds) (hb : 0 < b) (hl : ds.length ≤ h) (hn : 1 + x.fmod b ∉ ds) :
    Drawn b h (pre ++ [x]) (ds.take (posI ds (1 + x.fmod b)) ++ (1 + x.fmod b) :: ds.drop (posI ds (1 + x.fmod b))) := by
  have hm : ∀ y, y ∈ ds.take (posI ds (1 + x.fmod b)) ++ (1 + x.fmod b) :: ds.drop (posI ds (1 + x.fmod b)) ↔ (y = 1 + x.fmod b ∨ y ∈ ds) := by
    intro y
    conv => rhs; rhs; rw [← List.take_append_drop (posI ds (1 + x.fmod b)) ds]
    simp only [List.mem_append, List.mem_cons]
    constructor
    · rintro (h | h | h)
      · exact .inr (.inl h)
      · exact .inl h
      · exact .inr (.inr h)
    · rintro (h | h | h)
      · exact .inr (.inl h)
      · exact .inl h
      · exact .inr (.inr h)
  refine ⟨inc_insert d.inc hn, fun y hy => ?_, ?_, fun _ y hy => (hm _).mpr ?_⟩
  · rcases (hm y).mp hy with rfl | hy
    · rw [Int.fmod_eq_emod_of_nonneg _ (by omega)]
      have h1 := Int.emod_nonneg x (show b ≠ 0 by omega)
      have h2 := Int.emod_lt_of_pos x hb
      omega
    · exact d.rng y hy
  · have := posI_le ds (1 + x.fmod b)
    rw [List.length_append, List.length_cons, List.length_take, List.length_drop, Nat.min_eq_left this, ← Nat.add_assoc, Nat.add_sub_cancel' this]; exact Nat.succ_le_succ hl
  · rcases List.mem_append.mp hy with hy | hy
    · exact .inr (d.all hl y hy)
    · exact .inl (by rw [List.mem_singleton.mp hy])

/-- all rising lists of numbers from lo + 1 to lo + n -/
noncomputable def subsI : Nat → Int → List (List Int)
  | 0, _ => [[]]
  | n + 1, lo => subsI n (lo + 1) ++ (subsI n (lo + 1)).map fun l => (lo + 1) :: l
theorem mem_subsI : ∀ {n : Nat} {lo : Int} {ds : List Int}, Inc ds → (∀ d ∈ ds, lo < d ∧ d ≤ lo + n) → ds ∈ subsI n lo
  | 0, lo, [], _, _ => .head _
  | 0, lo, d :: ds, _, h => by have := h d (.head _); omega
  | n + 1, lo, [], hu, _ => List.mem_append_left _ (mem_subsI hu fun _ h => nomatch h)
  | n + 1, lo, d :: ds, hu, h => by
    have hu' := List.pairwise_cons.mp hu
    have hd := h d (.head _)
    by_cases q : d = lo + 1
    · subst q
      refine List.mem_append_right _ (List.mem_map.mpr ⟨ds, mem_subsI hu'.2 fun e he => ?_, rfl⟩)
      have h1 := hu'.1 e he
      have h2 := h e (.tail _ he)
      omega
    · refine List.mem_append_left _ (mem_subsI hu fun e he => ?_)
      have h2 := h e he
      rcases List.mem_cons.mp he with rfl | he
      · omega
      · have h1 := hu'.1 e he
        omega
theorem inc_len : ∀ {ds : List Int} {lo hi : Int}, Inc ds → (∀ d ∈ ds, lo ≤ d ∧ d < hi) → (ds.length : Int) ≤ hi - lo ∨ ds = []
  | [], _, _, _, _ => .inr rfl
  | e :: es, lo, hi, hu, h => by
    have hu' := List.pairwise_cons.mp hu
    have h0 := h e (.head _)
    left
    rcases inc_len (lo := lo + 1) (hi := hi) hu'.2 (fun f hf => by
      have h1 := hu'.1 f hf
      have h2 := h f (.tail _ hf)
      omega) with q | q
    · rw [List.length_cons]; omega
    · rw [q, List.length_cons, List.length_nil]; omega
theorem nodup_len : ∀ {l m : List Int}, l.Nodup → (∀ x ∈ l, x ∈ m) → l.length ≤ m.length
  | [], _, _, _ => Nat.zero_le _
  | x :: l, m, hn, h => by
    have hx := h x (.head _)
    have hn' := List.nodup_cons.mp hn
    have := nodup_len (l := l) (m := m.erase x) hn'.2 (fun y hy => (List.mem_erase_of_ne (fun e => hn'.1 (by rw [← e]; exact hy))).mpr (h y (.tail _ hy)))
    have hl := List.length_erase_of_mem hx
    have hp : 0 < m.length := List.length_pos_of_mem hx
    rw [List.length_cons]; omega
theorem Drawn.done {cnt : Int} {h : Nat} {ns ds : List Int} (hc : 2 ≤ cnt) (hc3 : cnt ≤ 3) (hh : (h : Int) = 3 + cnt) (d : Drawn (2 * (3 + cnt)) h (ns ++ [7, 11, 2, 9, 4, 12, 6, 3, 10, 8, 5, 1]) ds) : ds.length = h + 1 := by
  by_cases q : ds.length ≤ h
  · exfalso
    have ha := d.all q
    have ht : ∀ x ∈ [(7 : Int), 11, 2, 9, 4, 12, 6, 3, 10, 8, 5, 1], 1 + x.fmod (2 * (3 + cnt)) ∈ ds := fun x hx => ha x (List.mem_append_right _ hx)
    obtain rfl | rfl := two_of hc hc3
    · have := nodup_len (l := [(1 : Int), 2, 3, 4, 5, 6, 7, 8, 9, 10]) (m := ds) (by decide) (by
        intro x hx
        have h1 : x ∈ [(7 : Int), 11, 2, 9, 4, 12, 6, 3, 10, 8, 5, 1].map fun x => 1 + x.fmod (2 * (3 + 2)) := by revert x; decide
        obtain ⟨y, hy, rfl⟩ := List.mem_map.mp h1
        exact ht y hy)
      simp only [List.length_cons, List.length_nil] at this; omega
    · have := nodup_len (l := [(1 : Int), 2, 3, 4, 5, 6, 7, 8, 9, 10, 11, 12]) (m := ds) (by decide) (by
        intro x hx
        have h1 : x ∈ [(7 : Int), 11, 2, 9, 4, 12, 6, 3, 10, 8, 5, 1].map fun x => 1 + x.fmod (2 * (3 + 3)) := by revert x; decide
        obtain ⟨y, hy, rfl⟩ := List.mem_map.mp h1
        exact ht y hy)
      simp only [List.length_cons, List.length_nil] at this; omega
  · have := d.len; omega
end Mine
end

theorem Mine.reset26 : True := by
  w_top off
  first | walk1 | exact True.intro

section
open PySem PySem.W PyProof.Rows PySem.Calls PySem.Spec
set_option compiler.extract_closed false
set_option Elab.async false
set_option linter.unusedVariables false
set_option linter.unusedSimpArgs false
set_option pp.maxSteps 2000
set_option pp.deepTerms false
set_option pp.deepTerms.threshold 10
namespace Mine
/-- twos struck off, for 1 to 12 -/
noncomputable def oddP (x : Int) : Int := ([0, 1, 1, 3, 1, 5, 3, 7, 1, 9, 5, 11, 3] : List Int).getD x.toNat 0
theorem odd_step {y : Int} (h : 1 ≤ y) (h2 : y ≤ 12) (he : y.fmod 2 = 0) : 1 ≤ y.fdiv 2 ∧ y.fdiv 2 ≤ 12 ∧ oddP (y.fdiv 2) = oddP y ∧ (y.fdiv 2).toNat < y.toNat :=
  upto12 (P := fun y => y.fmod 2 = 0 → 1 ≤ y.fdiv 2 ∧ y.fdiv 2 ≤ 12 ∧ oddP (y.fdiv 2) = oddP y ∧ (y.fdiv 2).toNat < y.toNat) h h2 (by decide) he
theorem odd_end {y : Int} (h : 1 ≤ y) (h2 : y ≤ 12) (he : y.fmod 2 ≠ 0) : oddP y = y :=
  upto12 (P := fun y => y.fmod 2 ≠ 0 → oddP y = y) h h2 (by decide) he
/-- what is left of a list when each number is kept once -/
noncomputable def once (l : List Int) : List Int := l.foldl (fun σ v => if σ.contains v then σ else σ ++ [v]) []
theorem once_snoc (l : List Int) (v : Int) : once (l ++ [v]) = if (once l).contains v then once l else once l ++ [v] := by
  unfold once; rw [List.foldl_append]; rfl
noncomputable def hole (b : Nat) (ds : List Int) : Bool :=
  (once (ds.map oddP)).length != ds.length &&
  (ds.any fun x => ds.any fun y => decide (x < y) && y.emod x == 0) &&
  ((List.range ds.length).any fun k => decide (0 < k) && ds.getD k 0 - ds.getD (k - 1) 0 == 1) &&
  (ds.any fun x => ds.contains ((b : Int) + 1 - x))
theorem hole10 : ((subsI 10 0).all fun ds => ds.length != 6 || hole 10 ds) = true := by decide +kernel
theorem hole12 : ((subsI 12 0).all fun ds => ds.length != 7 || hole 12 ds) = true := by decide +kernel
theorem holes {cnt : Int} {ds : List Int} (hc : 2 ≤ cnt) (hc3 : cnt ≤ 3) (hi : Inc ds) (hr : ∀ d ∈ ds, 1 ≤ d ∧ d ≤ 2 * (3 + cnt)) (hl : ds.length = (3 + cnt).toNat + 1) : hole (2 * (3 + cnt)).toNat ds = true := by
  obtain rfl | rfl := two_of hc hc3
  · have h := List.all_eq_true.mp hole10 ds (mem_subsI hi fun d hd => by have := hr d hd; omega)
    rw [hl] at h
    exact h
  · have h := List.all_eq_true.mp hole12 ds (mem_subsI hi fun d hd => by have := hr d hd; omega)
    rw [hl] at h
    exact h
end Mine
end

theorem Mine.reset27 : True := by
  w_top off
  first | walk1 | exact True.intro

section
open PySem PySem.W PyProof.Rows PySem.Calls PySem.Spec
set_option compiler.extract_closed false
set_option Elab.async false
set_option linter.unusedVariables false
set_option linter.unusedSimpArgs false
set_option pp.maxSteps 2000
set_option pp.deepTerms false
set_option pp.deepTerms.threshold 10
namespace Mine
/-- one goes into another, of those that the two walks have met -/
def Seen (ds : List Int) (i j : Nat) : Prop := (∃ a ∈ ds.take i, ∃ b ∈ ds, a < b ∧ b % a = 0) ∨ (∃ a, ds[i]? = some a ∧ ∃ b ∈ ds.take j, a < b ∧ b % a = 0)
theorem seen_start {ds : List Int} : ¬ Seen ds 0 0 := by
  rintro (⟨a, h, _⟩ | ⟨a, _, b, h, _⟩)
  · simp at h
  · simp at h
theorem seen_turn {ds : List Int} {i j : Nat} {a b : Int} (ha : ds[i]? = some a) (hb : ds[j]? = some b) (h : Seen ds i (j + 1)) : Seen ds i j ∨ (a < b ∧ b % a = 0) := by
  rcases h with h | ⟨a', ha', b', hb', h⟩
  · exact .inl (.inl h)
  · rw [ha] at ha'; cases ha'
    rw [List.take_succ, hb] at hb'
    rcases List.mem_append.mp hb' with hb' | hb'
    · exact .inl (.inr ⟨a, ha, b', hb', h⟩)
    · rw [Option.toList_some, List.mem_singleton] at hb'
      subst hb'
      exact .inr h
theorem seen_next {ds : List Int} {i : Nat} (hi : i < ds.length) (h : Seen ds (i + 1) 0) : Seen ds i ds.length := by
  rcases h with ⟨a, ha, h⟩ | ⟨a, _, b, h, _⟩
  · rw [List.take_succ, List.getElem?_eq_getElem hi] at ha
    rcases List.mem_append.mp ha with ha | ha
    · exact .inl ⟨a, ha, h⟩
    · rw [Option.toList_some, List.mem_singleton] at ha
      exact .inr ⟨a, by rw [ha]; exact List.getElem?_eq_getElem hi, by rw [List.take_length]; exact h⟩
  · simp at h
theorem seen_end {b : Nat} {ds : List Int} (h : hole b ds = true) : Seen ds ds.length 0 := by
  unfold hole at h
  simp only [Bool.and_eq_true] at h
  obtain ⟨x, hx, h2⟩ := List.any_eq_true.mp h.1.1.2
  obtain ⟨y, hy, h3⟩ := List.any_eq_true.mp h2
  simp only [Bool.and_eq_true, decide_eq_true_eq, beq_iff_eq] at h3
  exact .inl ⟨x, by rw [List.take_length]; exact hx, y, hy, h3⟩
/-- the count of what was found -/
structure Found (ds : List Int) (i j c : Nat) : Prop where
  i7 : i ≤ ds.length
  j7 : j ≤ ds.length
  le : c ≤ 7 * i + j
  met : Seen ds i j → 0 < c
theorem Found.start (ds : List Int) : Found ds 0 0 0 := ⟨Nat.zero_le _, Nat.zero_le _, Nat.zero_le _, fun h => absurd h seen_start⟩
theorem Found.yes {ds : List Int} {i j c : Nat} {b : Int} (f : Found ds i j c) (hb : ds[j]? = some b) : Found ds i (j + 1) (c + 1) :=
  ⟨f.i7, (List.getElem?_eq_some_iff.mp hb).1, by have := f.le; omega, fun _ => Nat.succ_pos _⟩
theorem Found.no {ds : List Int} {i j c : Nat} {a b : Int} (f : Found ds i j c) (ha : ds[i]? = some a) (hb : ds[j]? = some b) (hn : ¬ (a < b ∧ b % a = 0)) : Found ds i (j + 1) c :=
  ⟨f.i7, (List.getElem?_eq_some_iff.mp hb).1, by have := f.le; omega, fun h => (seen_turn ha hb h).elim f.met fun q => absurd q hn⟩
theorem Found.next {ds : List Int} {i c : Nat} (f : Found ds i ds.length c) (hi : i < ds.length) (h7 : ds.length ≤ 7) : Found ds (i + 1) 0 c :=
  ⟨hi, Nat.zero_le _, by have := f.le; omega, fun h => f.met (seen_next hi h)⟩
end Mine
end

theorem Mine.reset28 : True := by
  w_top off
  first | walk1 | exact True.intro

section
open PySem PySem.W PyProof.Rows PySem.Calls PySem.Spec
set_option compiler.extract_closed false
set_option Elab.async false
set_option linter.unusedVariables false
set_option linter.unusedSimpArgs false
set_option pp.maxSteps 2000
set_option pp.deepTerms false
set_option pp.deepTerms.threshold 10
namespace Mine
section
variable {prog : Program} {w : World} {A : Around} {s : Shared} {h₀ : Heap} {L : Addr} {m : Str → Option Value} {env : Env}
/-- the turns of a comprehension, by what holds between them -/
theorem comp_ind {elt : PySem.Expr} {x : Str} {scope : Scope} {cl : List (Str × Addr)} {S : List (Addr × Obj) → Prop} {P : Nat → Value → Prop} {Fin : List Value → List (Addr × Obj) → Prop} {n : Nat}
    (J : Nat → List Value → List (Addr × Obj) → Prop) (done : ∀ ys news, J n ys news → Fin ys news)
    (turn : ∀ i ys news v I oI C oC D m₂ h tk (E' : Value → Shared → Prop), i < n → J i ys news → P i v → LCg.NsObj oC m₂ → m₂ x = some v → Fr h₀ L h m → News h₀ L h ((I, oI) :: (C, oC) :: (D, LCg.lst ys) :: news) → LCg.Off3 I C D news → ((@Ne Nat I C) ∧ (@Ne Nat I D) ∧ (@Ne Nat C D)) →
      wpAny (model prog w) A (eval elt (compEnvC scope cl C env)) (LCg.CompEnd h₀ L m { s with heap := h, toks := tk } I oI C oC D (LCg.lst ys) S (fun y news' => J (i + 1) (ys ++ [y]) news')) E' { s with heap := h, toks := tk }) :
    ∀ k i ys news, i + k = n → J i ys news → LCg.CompRest prog w A h₀ L m env elt x scope cl s S P Fin k i ys news := by
  intro k
  induction k with
  | zero => exact fun i ys news e j => LCg.CompRest.zero (done ys news (by rw [show i = n from by omega] at j; exact j))
  | succ k ih =>
    intro i ys news e j
    refine LCg.CompRest.succ fun v I oI C oC D m₂ h tk E' hP hoC hx F N o3 ne => wpAny_mono (turn i ys news v I oI C oC D m₂ h tk E' (by omega) j hP hoC hx F N o3 ne) (fun y s₂ p => ?_) fun _ _ e => e
    obtain ⟨h', tk', news', e', F', N', o3', hS, r⟩ := p
    exact ⟨h', tk', news', e', F', N', o3', hS, ih _ _ _ (by omega) r⟩
end
end Mine
end

theorem Mine.reset29 : True := by
  w_top off
  first | walk1 | exact True.intro

section
open PySem PySem.W PyProof.Rows PySem.Calls PySem.Spec
set_option compiler.extract_closed false
set_option Elab.async false
set_option linter.unusedVariables false
set_option linter.unusedSimpArgs false
set_option pp.maxSteps 2000
set_option pp.deepTerms false
set_option pp.deepTerms.threshold 10
namespace Mine
noncomputable abbrev twoFor (elt iter1 iter2 : PySem.Expr) (t1 t2 : PySem.Expr) (ifs : List PySem.Expr) (scope : Scope) (pos : Pos) : PySem.Expr := .ListComp elt [⟨t1, iter1, [], 0⟩, ⟨t2, iter2, ifs, 0⟩] scope pos
theorem turn_0 (elt iter1 iter2 t1 t2 : PySem.Expr) (ifs : List PySem.Expr) (scope : Scope) (pos : Pos) (it acc : Value) (env : Env) :
    compTurn (twoFor elt iter1 iter2 t1 t2 ifs scope pos) 0 it acc env = (do
      standAt iter1.pos
      match ← pyNext it with
      | none => pure (.done .next)
      | some v =>
        letOwnedTupleGo t1 it v
        assign t1 env v
        let x ← eval iter2 env
        standAt iter2.pos
        let x ← foldedSetIterable iter2 env x
        let _ ← runOwn (.compStart (twoFor elt iter1 iter2 t1 t2 ifs scope pos) 1 (← holding [x] (pyIter x)) acc env) env
        again (.compLoop (twoFor elt iter1 iter2 t1 t2 ifs scope pos) 0 it acc env)) := by
  unfold compTurn twoFor
  simp only [List.getElem?_cons_zero, List.getElem?_cons_succ, bne_self_eq_false, Bool.false_eq_true, if_false, List.forIn_nil, pure_bind, if_true]
  rfl
theorem turn_1 (elt iter1 iter2 t1 t2 : PySem.Expr) (ifs : List PySem.Expr) (scope : Scope) (pos : Pos) (it acc : Value) (env : Env) :
    compTurn (twoFor elt iter1 iter2 t1 t2 ifs scope pos) 1 it acc env = (do
      standAt iter2.pos
      match ← pyNext it with
      | none => pure (.done .next)
      | some v =>
        letOwnedTupleGo t2 it v
        assign t2 env v
        let mut ok := true
        for c in ifs do
          if ok then ok ← isTrue c env (eval c env)
        if ok then
          (do let _ ← call (.builtin "list.append") [acc, ← eval elt env])
        again (.compLoop (twoFor elt iter1 iter2 t1 t2 ifs scope pos) 1 it acc env)) := by rfl
section
variable {prog : Program} {w : World} {A : Around} {R : Result → Shared → Prop} {s : Shared}
theorem start_1 {elt iter1 iter2 t1 t2 : PySem.Expr} {ifs : List PySem.Expr} {scope : Scope} {pos : Pos} {it acc : Value} {env : Env}
    (h0 : codeAny (model prog w) A (.compLoop (twoFor elt iter1 iter2 t1 t2 ifs scope pos) 1 it acc env) R s)
    (h : wpAny (model prog w) A (pyIter it) (fun it' s' => codeAny (model prog w) A (.compLoop (twoFor elt iter1 iter2 t1 t2 ifs scope pos) 1 it' acc env) R s')
      (notedBy (model prog w) A env fun x s' => R (.error x) s') s) :
    codeAny (model prog w) A (.compStart (twoFor elt iter1 iter2 t1 t2 ifs scope pos) 1 it acc env) R s := by
  refine codeAny_of_tree ?_
  show wpAny _ _ ((compStart (twoFor elt iter1 iter2 t1 t2 ifs scope pos) 1 it acc env).onRaise (fun x => do noteFrame x env; standAt theWindowsPlace)) _ _ s
  refine wpAny_notedAt ?_
  unfold compStart
  show wpAny _ _ (ask >>= _) _ _ s
  refine wpAny_bind (wpAny_askSetting (wpAny_ite ?_))
  split
  · first
      | exact wpAny_bind (wpAny_pure (wpAny_pure (And.intro rfl h0)))
      | exact wpAny_pure (And.intro rfl h0)
  · first
      | exact wpAny_bind (wpAny_rule (wpAny_bind (wpAny_standAt (wpAny_bind (wpAny_mono h (fun it' s' h' => wpAny_pure (And.intro rfl h')) fun _ _ x => x)))))
      | (refine wpAny_bind (wpAny_rule ?_); show wpAny _ _ (standAt iter2.pos >>= _) _ _ s; exact wpAny_bind (wpAny_standAt (wpAny_bind (wpAny_mono h (fun it' s' h' => wpAny_pure (And.intro rfl h')) fun _ _ x => x))))
theorem loop_0 {elt iter1 iter2 t1 t2 : PySem.Expr} {ifs : List PySem.Expr} {scope : Scope} {pos : Pos} {it acc : Value} {env : Env} (I : Nat → Shared → Prop)
    (turn : ∀ n s, I n s → wpAny (model prog w) A (pyNext it) (fun r s₁ => match r with
      | none => R (.ok .next) s₁
      | some v => wpAny (model prog w) A (assign t1 env v) (fun _ s₂ => wpAny (model prog w) A (eval iter2 env) (fun x s₃ => wpAny (model prog w) A (pyIter x) (fun it2 s₄ =>
          codeAny (model prog w) (A.mark none) (.compStart (twoFor elt iter1 iter2 t1 t2 ifs scope pos) 1 it2 acc env) (fun r s' => match r with | .ok f => ∃ m, m < n ∧ I m s' | .error e => cameBackBy (model prog w) A env (notedBy (model prog w) A env fun e s' => R (.error e) s') e s') s₄)
          (notedBy (model prog w) A env fun e s' => R (.error e) s') s₃) (notedBy (model prog w) A env fun e s' => R (.error e) s') s₂) (notedBy (model prog w) A env fun e s' => R (.error e) s') s₁) (notedBy (model prog w) A env fun e s' => R (.error e) s') s)
    (n : Nat) (h : I n s) (ht : ∀ v, letOwnedTupleGo t1 it v = pure ()) (hs : ∀ x, foldedSetIterable iter2 env x = pure x) :
    codeAny (model prog w) A (.compLoop (twoFor elt iter1 iter2 t1 t2 ifs scope pos) 0 it acc env) R s := by
  refine codeAny_loop rfl I (fun n s hI => ?_) n h
  show wpAny _ A ((compTurn (twoFor elt iter1 iter2 t1 t2 ifs scope pos) 0 it acc env).onRaise (fun x => do noteFrame x env; theTreesLotGoes x)) _ _ s
  refine wpAny_noted ?_
  rw [turn_0]
  refine wpAny_bind (wpAny_standAt (wpAny_bind (wpAny_mono (turn n s hI) (fun r s₁ h₁ => ?_) fun _ _ h' => h')))
  cases r with
  | none => exact wpAny_pure h₁
  | some v =>
    refine wpAny_bind (wpAny_of_eq (ht v) ?_)
    refine wpAny_bind (wpAny_mono h₁ (fun _ s₂ h₂ => ?_) fun _ _ h' => h')
    refine wpAny_bind (wpAny_mono h₂ (fun x s₃ h₃ => wpAny_bind (wpAny_standAt (wpAny_bind (wpAny_of_eq (hs x) (wpAny_bind (wpAny_holding (wpAny_mono h₃ (fun it2 s₄ h₄ => ?_) fun _ _ h' => h'))))))) fun _ _ h' => h')
    refine wpAny_bind (wpAny_runOwn (codeAny_mono h₄ fun r s' hr => ?_))
    cases r with
    | ok f => exact wpAny_pure ⟨rfl, hr⟩
    | error e => exact hr
theorem loop_1 {elt iter1 iter2 t1 t2 : PySem.Expr} {ifs : List PySem.Expr} {scope : Scope} {pos : Pos} {it acc : Value} {env : Env} (I : Nat → Shared → Prop)
    (turn : ∀ n s, I n s → wpAny (model prog w) A (pyNext it) (fun r s₁ => match r with
      | none => R (.ok .next) s₁
      | some v => wpAny (model prog w) A (assign t2 env v) (fun _ s₂ =>
          wpAny (model prog w) A (forIn ifs true fun c r => if r = true then do let ok ← isTrue c env (eval c env); pure (ForInStep.yield ok) else pure (ForInStep.yield r)) (fun ok s₃ =>
            if ok = true then wpAny (model prog w) A (eval elt env) (fun x s₄ =>
              wpAny (model prog w) A (call (.builtin "list.append") [acc, x]) (fun _ s₅ => ∃ m, m < n ∧ I m s₅) (notedBy (model prog w) A env fun e s' => R (.error e) s') s₄) (notedBy (model prog w) A env fun e s' => R (.error e) s') s₃
            else ∃ m, m < n ∧ I m s₃) (notedBy (model prog w) A env fun e s' => R (.error e) s') s₂) (notedBy (model prog w) A env fun e s' => R (.error e) s') s₁) (notedBy (model prog w) A env fun e s' => R (.error e) s') s)
    (n : Nat) (h : I n s) (ht : ∀ v, letOwnedTupleGo t2 it v = pure ()) :
    codeAny (model prog w) A (.compLoop (twoFor elt iter1 iter2 t1 t2 ifs scope pos) 1 it acc env) R s := by
  refine codeAny_loop rfl I (fun n s hI => ?_) n h
  show wpAny _ A ((compTurn (twoFor elt iter1 iter2 t1 t2 ifs scope pos) 1 it acc env).onRaise (fun x => do noteFrame x env; theTreesLotGoes x)) _ _ s
  refine wpAny_noted ?_
  rw [turn_1]
  refine wpAny_bind (wpAny_standAt (wpAny_bind (wpAny_mono (turn n s hI) (fun r s₁ h₁ => ?_) fun _ _ h' => h')))
  cases r with
  | none => exact wpAny_pure h₁
  | some v =>
    refine wpAny_bind (wpAny_of_eq (ht v) ?_)
    refine wpAny_bind (wpAny_mono h₁ (fun _ s₂ h₂ => wpAny_bind (wpAny_mono h₂ (fun ok s₃ h₃ => ?_) fun _ _ h' => h')) fun _ _ h' => h')
    cases ok with
    | false => exact wpAny_pure ⟨rfl, h₃⟩
    | true =>
      exact wpAny_bind (wpAny_bind (wpAny_mono h₃ (fun x s₄ h₄ => wpAny_bind (wpAny_mono h₄ (fun _ s₅ h₅ => wpAny_pure (wpAny_pure ⟨rfl, h₅⟩)) fun _ _ h' => h')) fun _ _ h' => h'))
end
section
variable {prog : Program} {w : World} {A : Around} {E : Value → Shared → Prop} {s : Shared} {h₀ : Heap} {L : Addr} {m : Str → Option Value} {env : Env}
theorem mark_none (A : Around) : A.mark none = A := rfl
/-- where a turn of the inner walk ends: the comprehension's own four objects stand as they stood -/
def End2 (h₀ : Heap) (L : Addr) (m : Str → Option Value) (s₁ : Shared) (I2 I C D : Addr) (oI2 oI oC oD : Obj) (rest : List (Addr × Obj) → Prop) (s₂ : Shared) : Prop :=
  ∃ h' tk news', s₂ = { s₁ with heap := h', toks := tk } ∧ Fr h₀ L h' m ∧ News h₀ L h' ((I2, oI2) :: (I, oI) :: (C, oC) :: (D, oD) :: news') ∧ (∀ p ∈ news', p.1 ≠ I2 ∧ p.1 ≠ I ∧ p.1 ≠ C ∧ p.1 ≠ D) ∧ rest news'
theorem End2.intro {h₀ : Heap} {L : Addr} {m : Str → Option Value} {s₁ : Shared} {I2 I C D : Addr} {oI2 oI oC oD : Obj} {rest : List (Addr × Obj) → Prop} {h' : Heap} {tk : Nat} {all : List (Addr × Obj)} (F : Fr h₀ L h' m) (N : News h₀ L h' all) (nw : List (Addr × Obj))
    (sub : ∀ p ∈ (I2, oI2) :: (I, oI) :: (C, oC) :: (D, oD) :: nw, p ∈ all) (off : ∀ p ∈ nw, p.1 ≠ I2 ∧ p.1 ≠ I ∧ p.1 ≠ C ∧ p.1 ≠ D) (r : rest nw) : End2 h₀ L m s₁ I2 I C D oI2 oI oC oD rest { s₁ with heap := h', toks := tk } :=
  ⟨h', tk, nw, rfl, F, fun p hp => N p (sub p hp), off, r⟩
noncomputable abbrev tests (ifs : List PySem.Expr) (env : Env) : Sem Bool := forIn ifs true fun c r => if r = true then do let ok ← isTrue c env (eval c env); pure (ForInStep.yield ok) else pure (ForInStep.yield r)
theorem iter_same {h h' : Heap} {I ax : Addr} {i : Nat} {o : Obj} (x : h.IsListIter I ax i) (e : h.get? I = some o) (e' : h'.get? I = some o) : h'.IsListIter I ax i := by
  obtain ⟨o', q, r⟩ := x
  rw [e] at q; cases q
  exact ⟨o, e', r⟩
set_option maxHeartbeats 1000000 in
theorem block_2 {elt iter1 iter2 : PySem.Expr} {x y : Str} {px py : Pos} {ifs : List PySem.Expr} {scope : Scope} {cl : List (Str × Addr)} {pos : Pos} {s₁ : Shared} {ax k : Nat} {its : Array Value} {news : List (Addr × Obj)}
    (J : Nat → Nat → List Value → List (Addr × Obj) → Prop) {RR : Value → Addr → Result → Shared → Prop}
    (hh : A.handled = none) (keep : ∀ i j ys nw, J i j ys nw → (ax, ({ cls := .type "list", data := .seq its k } : Obj)) ∈ nw) (len : ∀ i j ys nw, J i j ys nw → ys.length ≤ sizeLine)
    (hcell : ∀ z ∈ scope.names, z.2 ≠ .cell) (hkind : scope.kind = .function) (hx : scope.names.lookup x = some .local) (hy : scope.names.lookup y = some .local) (hxy : x ≠ y)
    (hs2 : ∀ e v, foldedSetIterable iter2 e v = pure v)
    (F : Fr h₀ L s₁.heap m) (N : News h₀ L s₁.heap news) (j0 : J 0 0 [] news)
    (hit2 : ∀ i ys nw I oI C oC D m₂ h tk (E' : Value → Shared → Prop), i < its.size → J i 0 ys nw → LCg.NsObj oC m₂ → Fr h₀ L h m → News h₀ L h ((I, oI) :: (C, oC) :: (D, LCg.lst ys) :: nw) →
      wpAny (model prog w) A (eval iter2 (compEnvC scope cl C env)) (fun xv s' => xv = .ref ax ∧ ∃ tk', s' = { s₁ with heap := h, toks := tk' }) E' { s₁ with heap := h, toks := tk })
    (turn : ∀ i j ys nw v₁ v₂ I oI I2 oI2 C oC D m₂ h tk (E' : Value → Shared → Prop), its[i]? = some v₁ → its[j]? = some v₂ → J i j ys nw → LCg.NsObj oC m₂ → m₂ x = some v₁ → m₂ y = some v₂ → Fr h₀ L h m →
      News h₀ L h ((I2, oI2) :: (I, oI) :: (C, oC) :: (D, LCg.lst ys) :: nw) → (∀ p ∈ nw, p.1 ≠ I2 ∧ p.1 ≠ I ∧ p.1 ≠ C ∧ p.1 ≠ D) → (I < I2 ∧ C < I2 ∧ D < I2 ∧ @Ne Nat I C ∧ @Ne Nat I D ∧ @Ne Nat C D) →
      wpAny (model prog w) A (tests ifs (compEnvC scope cl C env)) (fun ok s₃ =>
        if ok = true then wpAny (model prog w) A (eval elt (compEnvC scope cl C env)) (fun z s₄ => End2 h₀ L m { s₁ with heap := h, toks := tk } I2 I C D oI2 oI oC (LCg.lst ys) (J i (j + 1) (ys ++ [z])) s₄) E' s₃
        else End2 h₀ L m { s₁ with heap := h, toks := tk } I2 I C D oI2 oI oC (LCg.lst ys) (J i (j + 1) ys) s₃) E' { s₁ with heap := h, toks := tk })
    (next : ∀ i ys nw, i < its.size → J i its.size ys nw → J (i + 1) 0 ys nw)
    (hRR : ∀ D C h tk m' ys nw, Fr h₀ L h m → News h₀ L h ((D, LCg.lst ys) :: nw) → (∀ p ∈ nw, @Ne Nat p.1 D) → h.Ns C m' → h₀.get? C = none → h₀.get? D = none → C ≠ L → D ≠ L → C ≠ D → (∀ p ∈ nw, p.1 ≠ C) → J its.size 0 ys nw → RR (.ref D) C (.ok .next) { s₁ with heap := h, toks := tk }) :
    wpAny (model prog w) A (pyIter (.ref ax)) (fun it s₂ => wpAny (model prog w) A (newList []) (fun acc s₃ => wpAny (model prog w) A (newFunctionEnv scope env.globals cl [] env.qual none .none (some env)) (fun cenv s₄ =>
      codeAny (model prog w) A (.compStart (twoFor elt iter1 iter2 (.Name x px) (.Name y py) ifs scope pos) 0 it acc { cenv with scope := relabel scope env }) (RR acc cenv.locals) s₄) E s₃) E s₂) E s₁ := by
  have lst_of : ∀ {h : Heap} {nw : List (Addr × Obj)} {i j : Nat} {ys : List Value}, News h₀ L h nw → J i j ys nw → h.IsList ax its := fun N jj => ⟨_, (N _ (keep _ _ _ _ jj)).1, rfl, _, rfl⟩
  have hl := lst_of N j0
  have hlt : @LT.lt Nat _ ax s₁.heap.objs.size := by obtain ⟨_, e, _⟩ := hl; exact Heap.lt_size e
  have hax₀ : h₀.get? ax = none := (N _ (keep _ _ _ _ j0)).2.2
  refine wpAny_pyIter_list hl ?_
  refine wpAny_newObj_type (wpAny_newFunctionEnv hcell (by intro y hy; simp at hy) (fun h₁ hns₁ hsb₁ => ?_) hkind)
  dsimp only at hns₁ hsb₁ ⊢
  generalize hH1 : s₁.heap.push { cls := .type "list_iterator", data := .fields #[.ref ax, .int 0 0] } = H1 at hns₁ hsb₁ ⊢
  generalize hH2 : H1.push { cls := .type "list", dict := none, data := .seq ([] : List Value).toArray } = H2 at hns₁ hsb₁ ⊢
  have hD : H1.objs.size = s₁.heap.objs.size + 1 := by rw [← hH1, Heap.size_push]
  have hC : H2.objs.size = H1.objs.size + 1 := by rw [← hH2, Heap.size_push]
  have up1 : ∀ b o, s₁.heap.get? b = some o → H1.get? b = some o := fun b o e => by rw [← hH1]; exact Heap.get?_push_of_some _ e
  have up2 : ∀ b o, H1.get? b = some o → H2.get? b = some o := fun b o e => by rw [← hH2]; exact Heap.get?_push_of_some _ e
  have up3 : ∀ b o, H2.get? b = some o → h₁.get? b = some o := fun b o e => hsb₁.extBut b o (Nat.ne_of_lt (Heap.lt_size e)) (Heap.get?_push_of_some _ e)
  have old : ∀ b o, s₁.heap.get? b = some o → h₁.get? b = some o := fun b o e => up3 _ _ (up2 _ _ (up1 _ _ e))
  have fresh₀ : ∀ a, s₁.heap.objs.size ≤ a → h₀.get? a = none := fun a ha => by
    cases e : h₀.get? a with
    | none => rfl
    | some o' => exact absurd (Heap.lt_size (F.keep a o' e)) (Nat.not_lt.mpr ha)
  have hLlt : @LT.lt Nat _ L s₁.heap.objs.size := F.ns.lt
  generalize hIg : s₁.heap.objs.size = I at *
  generalize hDg : H1.objs.size = D at *
  generalize hCg : H2.objs.size = C at *
  have hIa : h₁.get? I = some { cls := .type "list_iterator", data := .fields #[.ref ax, .int 0 0] } := by
    refine up3 _ _ (up2 _ _ ?_)
    rw [← hH1, ← hIg]; exact Heap.get?_push_size _ rfl
  have hit₁ : h₁.IsListIter I ax 0 := ⟨_, hIa, rfl, rfl⟩
  have hDa : h₁.get? D = some (LCg.lst []) := by
    refine up3 _ _ ?_
    rw [← hH2, ← hDg]; exact Heap.get?_push_size _ rfl
  have hneI : ax ≠ I := Nat.ne_of_lt hlt
  have hIL : L ≠ I := Nat.ne_of_lt hLlt
  have hDL : D ≠ L := by omega
  have hCL : C ≠ L := by omega
  have hIC : @Ne Nat I C := by omega
  have hID : @Ne Nat I D := by omega
  have hCD : @Ne Nat C D := by omega
  have hI₀ := fresh₀ I (Nat.le_refl _)
  have hD₀ := fresh₀ D (by omega)
  have hC₀ := fresh₀ C (by omega)
  have offN : ∀ p ∈ news, p.1 ≠ I ∧ p.1 ≠ C ∧ p.1 ≠ D := fun p hp => by
    have h2 : @LT.lt Nat _ p.1 I := hIg ▸ Heap.lt_size (N p hp).1
    have q1 : @Ne Nat p.1 I := by omega
    have q2 : @Ne Nat p.1 C := by omega
    have q3 : @Ne Nat p.1 D := by omega
    exact ⟨q1, q2, q3⟩
  have loop : ∀ tk, codeAny (model prog w) A (.compLoop (twoFor elt iter1 iter2 (.Name x px) (.Name y py) ifs scope pos) 0 (.ref I) (.ref D) (compEnvC scope cl C env)) (RR (.ref D) C) { s₁ with heap := h₁, toks := tk } := by
    intro tk
    refine loop_0 (fun k' s' => ∃ h' tk i ys m' nw, s' = { s₁ with heap := h', toks := tk } ∧ i ≤ its.size ∧ k' = its.size + 1 - i ∧ h'.IsListIter I ax i ∧ Fr h₀ L h' m ∧ h'.Ns C m' ∧ News h₀ L h' ((D, LCg.lst ys) :: nw) ∧ (∀ p ∈ nw, p.1 ≠ I ∧ p.1 ≠ C ∧ p.1 ≠ D) ∧ J i 0 ys nw) ?_ (its.size + 1)
      ⟨h₁, tk, 0, [], _, news, rfl, Nat.zero_le _, rfl, hit₁, F.keeps old, hns₁, ?_, offN, j0⟩ (fun _ => rfl) (fun v => hs2 _ v)
    · rintro k' s' ⟨h', tk, i, ys, m', nw, rfl, hi, rfl, hit, F', hn', N', off, jj⟩
      have hl' := lst_of (fun p hp => N' p (.tail _ hp)) jj
      by_cases hlt2 : i < its.size
      · refine (Walks.list hh I ax hneI its).item i _ _ _ hlt2 ⟨hit, hl'⟩ fun v h₂ tk₂ hPv hst₂ hk₂ => ?_
        refine wpAny_assign_Name (wpAny_storeName_local (lookup_relabel_local hx) (hn'.at' fun o e => hk₂ _ o (by simpa using Ne.symm hIC) e) (fun h₃ hn₃ hs₃ => ?_) (by simp [compEnvC, relabel, hkind]))
        have hit₃ : h₃.IsListIter I ax (i + 1) := hst₂.1.at fun o e => (hs₃.2 I hIC).trans e
        obtain ⟨oI, heI, _⟩ := id hit₃
        obtain ⟨oC, heC, hoC⟩ := LCg.ns_obj hn₃
        have F₃ : Fr h₀ L h₃ m := (LCg.fr_but F' hk₂ hIL hI₀).change hs₃ hCL hC₀
        have N₂ : News h₀ L h₂ ((D, LCg.lst ys) :: nw) := LCg.news_but N' hk₂ fun p hp => by
          rcases List.mem_cons.mp hp with rfl | hp
          · exact Ne.symm hID
          · exact (off p hp).1
        have N₂' : News h₀ L h₃ ((D, LCg.lst ys) :: nw) := fun p hp => by
          refine ⟨(hs₃.2 _ ?_).trans (N₂ p hp).1, (N₂ p hp).2⟩
          rcases List.mem_cons.mp hp with rfl | hp
          · exact Ne.symm hCD
          · exact (off p hp).2.1
        have N₃ : News h₀ L h₃ ((I, oI) :: (C, oC) :: (D, LCg.lst ys) :: nw) := fun p hp => by
          rcases List.mem_cons.mp hp with rfl | hp
          · exact ⟨heI, Ne.symm hIL, hI₀⟩
          · rcases List.mem_cons.mp hp with rfl | hp
            · exact ⟨heC, hCL, hC₀⟩
            · exact N₂' p hp
        refine wpAny_mono (hit2 i ys nw I oI C oC D _ h₃ _ _ hlt2 jj hoC F₃ N₃) (fun xv s₄ hx4 => ?_) fun _ _ e => e
        obtain ⟨rfl, tk4, rfl⟩ := hx4
        have hl₃ := lst_of (fun p hp => N₂' p (.tail _ hp)) jj
        refine wpAny_pyIter_list hl₃ ?_
        rw [mark_none]
        have inner : ∀ (R' : Result → Shared → Prop) (hR' : ∀ h' tk ys m' nw, h'.IsListIter I ax (i + 1) → Fr h₀ L h' m → h'.Ns C m' → News h₀ L h' ((D, LCg.lst ys) :: nw) → (∀ p ∈ nw, p.1 ≠ I ∧ p.1 ≠ C ∧ p.1 ≠ D) → J i its.size ys nw → R' (.ok .next) { s₁ with heap := h', toks := tk }) (tk : Nat),
            codeAny (model prog w) A (.compLoop (twoFor elt iter1 iter2 (.Name x px) (.Name y py) ifs scope pos) 1 (.ref h₃.objs.size) (.ref D) (compEnvC scope cl C env)) R' { s₁ with heap := h₃.push { cls := .type "list_iterator", data := .fields #[.ref ax, .int 0 0] }, toks := tk } := by
          intro R' hR' tk
          have h3C : @LT.lt Nat _ C h₃.objs.size := Heap.lt_size heC
          have h3I : @LT.lt Nat _ I h₃.objs.size := Heap.lt_size heI
          have h3D : @LT.lt Nat _ D h₃.objs.size := Heap.lt_size (N₂' _ (.head _)).1
          have h3L : @LT.lt Nat _ L h₃.objs.size := F₃.ns.lt
          have h3a : @LT.lt Nat _ ax h₃.objs.size := by obtain ⟨_, e, _⟩ := hl₃; exact Heap.lt_size e
          have hJ₀ : h₀.get? h₃.objs.size = none := next_is_new F₃
          have off3 : ∀ p ∈ nw, @LT.lt Nat _ p.1 h₃.objs.size := fun p hp => Heap.lt_size (N₂' p (.tail _ hp)).1
          have up : ∀ b o, h₃.get? b = some o → (h₃.push { cls := .type "list_iterator", data := .fields #[.ref ax, .int 0 0] }).get? b = some o := fun b o e => Heap.get?_push_of_some _ e
          have hJa : (h₃.push { cls := .type "list_iterator", data := .fields #[.ref ax, .int 0 0] }).get? h₃.objs.size = some { cls := .type "list_iterator", data := .fields #[.ref ax, .int 0 0] } := Heap.get?_push_size _ rfl
          generalize h₃.push { cls := .type "list_iterator", data := .fields #[.ref ax, .int 0 0] } = H4 at up hJa ⊢
          generalize h₃.objs.size = I2 at h3C h3I h3D h3L h3a hJ₀ off3 hJa ⊢
          have hne2 : ax ≠ I2 := Nat.ne_of_lt h3a
          have hIL2 : L ≠ I2 := Nat.ne_of_lt h3L
          have hI2 : @Ne Nat I I2 := by omega
          have hC2 : @Ne Nat C I2 := by omega
          have hD2 : @Ne Nat D I2 := by omega
          refine loop_1 (fun k' s' => ∃ h' tk j ys m' nw, s' = { s₁ with heap := h', toks := tk } ∧ j ≤ its.size ∧ k' = its.size + 1 - j ∧ h'.IsListIter I2 ax j ∧ h'.IsListIter I ax (i + 1) ∧ Fr h₀ L h' m ∧ h'.Ns C m' ∧ m' x = some v ∧ News h₀ L h' ((D, LCg.lst ys) :: nw) ∧ (∀ p ∈ nw, p.1 ≠ I2 ∧ p.1 ≠ I ∧ p.1 ≠ C ∧ p.1 ≠ D) ∧ J i j ys nw) ?_ (its.size + 1)
            ⟨H4, tk, 0, ys, _, nw, rfl, Nat.zero_le _, rfl, ⟨_, hJa, rfl, rfl⟩, hit₃.at fun o e => up _ o e, F₃.keeps up, hn₃.at' fun o e => up _ o e, if_pos rfl, (fun p hp => ⟨up _ _ (N₂' p hp).1, (N₂' p hp).2⟩), (fun p hp => ⟨Nat.ne_of_lt (off3 p hp), off p hp⟩), jj⟩ (fun _ => rfl)
          clear hl₃ hit₃ hst₂ hn₃ hs₃ F₃ N₂ N₂' N₃ up hJa off3 heI heC hn' N' F' jj hit hl' off hk₂
          rintro k' s' ⟨h', tk, j, ys, m', nw, rfl, hj, rfl, hit', hit, F', hn', hmx, N', off, jj⟩
          have hl' := lst_of (fun p hp => N' p (.tail _ hp)) jj
          by_cases hlt3 : j < its.size
          · refine (Walks.list hh I2 ax hne2 its).item j _ _ _ hlt3 ⟨hit', hl'⟩ fun v2 h₅ tk₅ hPv2 hst₅ hk₅ => ?_
            refine wpAny_assign_Name (wpAny_storeName_local (lookup_relabel_local hy) (hn'.at' fun o e => hk₅ _ o (by simpa using hC2) e) (fun h₆ hn₆ hs₆ => ?_) (by simp [compEnvC, relabel, hkind]))
            have hit₆ : h₆.IsListIter I2 ax (j + 1) := hst₅.1.at fun o e => (hs₆.2 I2 (Ne.symm hC2)).trans e
            have hit₆' : h₆.IsListIter I ax (i + 1) := hit.at fun o e => (hs₆.2 I hIC).trans (hk₅ _ o (by simpa using hI2) e)
            obtain ⟨oI2, heI2, _⟩ := id hit₆
            obtain ⟨oI, heI, _⟩ := id hit₆'
            obtain ⟨oC, heC, hoC⟩ := LCg.ns_obj hn₆
            have F₆ : Fr h₀ L h₆ m := (LCg.fr_but F' hk₅ hIL2 hJ₀).change hs₆ hCL hC₀
            have N₅ : News h₀ L h₅ ((D, LCg.lst ys) :: nw) := LCg.news_but N' hk₅ fun p hp => by
              rcases List.mem_cons.mp hp with rfl | hp
              · exact hD2
              · exact (off p hp).1
            have N₆ : News h₀ L h₆ ((D, LCg.lst ys) :: nw) := fun p hp => by
              refine ⟨(hs₆.2 _ ?_).trans (N₅ p hp).1, (N₅ p hp).2⟩
              rcases List.mem_cons.mp hp with rfl | hp
              · exact Ne.symm hCD
              · exact (off p hp).2.2.1
            have N₇ : News h₀ L h₆ ((I2, oI2) :: (I, oI) :: (C, oC) :: (D, LCg.lst ys) :: nw) := fun p hp => by
              rcases List.mem_cons.mp hp with rfl | hp
              · exact ⟨heI2, Ne.symm hIL2, hJ₀⟩
              · rcases List.mem_cons.mp hp with rfl | hp
                · exact ⟨heI, Ne.symm hIL, hI₀⟩
                · rcases List.mem_cons.mp hp with rfl | hp
                  · exact ⟨heC, hCL, hC₀⟩
                  · exact N₆ p hp
            refine wpAny_mono (turn i j ys nw v v2 I oI I2 oI2 C oC D _ h₆ _ _ hPv hPv2 jj hoC ?_ (if_pos rfl) F₆ N₇ off ⟨h3I, h3C, h3D, hIC, hID, hCD⟩) (fun ok s₇ h7 => ?_) fun _ _ e => e
            · show (if x = y then _ else _) = _
              rw [if_neg hxy]; exact hmx
            cases ok with
            | false =>
              simp only [Bool.false_eq_true, if_false] at h7 ⊢
              obtain ⟨h₈, tk₈, nw₈, rfl, F₈, N₈, off₈, jj₈⟩ := h7
              exact ⟨its.size + 1 - (j + 1), by omega, h₈, tk₈, j + 1, ys, _, nw₈, rfl, hlt3, rfl, iter_same hit₆ heI2 (N₈ _ (.head _)).1, iter_same hit₆' heI (N₈ _ (.tail _ (.head _))).1, F₈, hoC.ns (N₈ _ (.tail _ (.tail _ (.head _)))).1,
                (by show (if x = y then _ else _) = _; rw [if_neg hxy]; exact hmx), (fun p hp => N₈ p (.tail _ (.tail _ (.tail _ hp)))), off₈, jj₈⟩
            | true =>
              simp only [if_true] at h7 ⊢
              refine wpAny_mono h7 (fun z s₈ h8 => ?_) fun _ _ e => e
              obtain ⟨h₈, tk₈, nw₈, rfl, F₈, N₈, off₈, jj₈⟩ := h8
              have hlen : ys.length ≤ sizeLine := len _ _ _ _ jj
              refine append_at (hsz := by show ys.toArray.size ≤ sizeLine; rw [List.size_toArray]; exact hlen) (N₈ _ (.tail _ (.tail _ (.tail _ (.head _))))).1 fun h₉ hs₉ hD₉ => ?_
              refine ⟨its.size + 1 - (j + 1), by omega, h₉, tk₈, j + 1, ys ++ [z], _, nw₈, rfl, hlt3, rfl, (iter_same hit₆ heI2 (N₈ _ (.head _)).1).at fun o e => (hs₉.2 _ (Ne.symm hD2)).trans e, (iter_same hit₆' heI (N₈ _ (.tail _ (.head _))).1).at fun o e => (hs₉.2 _ hID).trans e, F₈.change hs₉ hDL hD₀,
                (hoC.ns (N₈ _ (.tail _ (.tail _ (.head _)))).1).sameBut hs₉ hCD, (by show (if x = y then _ else _) = _; rw [if_neg hxy]; exact hmx), (fun p hp => ?_), off₈, jj₈⟩
              rcases List.mem_cons.mp hp with rfl | hp
              · exact ⟨hD₉.trans (congrArg some (LCg.lst_snoc ys z)), hDL, hD₀⟩
              · exact ⟨(hs₉.2 _ (off₈ p hp).2.2.2).trans (N₈ p (.tail _ (.tail _ (.tail _ (.tail _ hp))))).1, (N₈ p (.tail _ (.tail _ (.tail _ (.tail _ hp))))).2⟩
          · obtain rfl : j = its.size := Nat.le_antisymm hj (Nat.not_lt.mp hlt3)
            refine (Walks.list hh I2 ax hne2 its).done _ _ _ ⟨hit', hl'⟩ fun h₅ tk₅ hk₅ => ?_
            refine hR' _ _ ys _ nw (hit.at fun o e => hk₅ _ o (by simpa using hI2) e) (LCg.fr_but F' hk₅ hIL2 hJ₀) (hn'.at' fun o e => hk₅ _ o (by simpa using hC2) e) (LCg.news_but N' hk₅ fun p hp => by
              rcases List.mem_cons.mp hp with rfl | hp
              · exact hD2
              · exact (off p hp).1) (fun p hp => (off p hp).2) jj
        refine start_1 ?_ ((Walks.list hh h₃.objs.size ax ?_ its).self 0 _ _ _ ⟨⟨_, Heap.get?_push_size _ rfl, rfl, rfl⟩, hl₃.push _⟩ ?_)
        · exact inner _ (fun h' tk ys m' nw a b c d e f => ⟨its.size + 1 - (i + 1), by omega, h', tk, i + 1, ys, m', nw, rfl, hlt2, rfl, a, b, c, d, e, next i ys nw hlt2 f⟩) _
        · have : @LT.lt Nat _ ax h₃.objs.size := by obtain ⟨_, e, _⟩ := hl₃; exact Heap.lt_size e
          exact Nat.ne_of_lt this
        · exact inner _ (fun h' tk ys m' nw a b c d e f => ⟨its.size + 1 - (i + 1), by omega, h', tk, i + 1, ys, m', nw, rfl, hlt2, rfl, a, b, c, d, e, next i ys nw hlt2 f⟩) _
      · obtain rfl : i = its.size := Nat.le_antisymm hi (Nat.not_lt.mp hlt2)
        refine (Walks.list hh I ax hneI its).done _ _ _ ⟨hit, hl'⟩ fun h₂ tk₂ hk₂ => ?_
        refine hRR _ _ h₂ tk₂ _ ys nw (LCg.fr_but F' hk₂ hIL hI₀) (LCg.news_but N' hk₂ fun p hp => by
          rcases List.mem_cons.mp hp with rfl | hp
          · exact Ne.symm hID
          · exact (off p hp).1) (fun p hp => (off p hp).2.2) (hn'.at' fun o e => hk₂ _ o (by simpa using Ne.symm hIC) e) hC₀ hD₀ hCL hDL hCD (fun p hp => (off p hp).2.1) jj
    · intro p hp
      rcases List.mem_cons.mp hp with rfl | hp
      · exact ⟨hDa, hDL, hD₀⟩
      · exact ⟨old _ _ (N p hp).1, (N p hp).2⟩
  exact codeAny_compStart_list (loop _) ((Walks.list hh I ax hneI its).self 0 _ _ _ ⟨hit₁, lst_of (fun p hp => ⟨old _ _ (N p hp).1, (N p hp).2⟩) j0⟩ (loop _))
theorem ListComp_2 {elt iter1 iter2 : PySem.Expr} {x y : Str} {px py : Pos} {ifs : List PySem.Expr} {scope : Scope} {cl : List (Str × Addr)} {pos : Pos} {Q : Value → Shared → Prop}
    (hF0 : Fr h₀ L s.heap m) (hclos : closureFor scope env = pure cl) (hcell : ∀ z ∈ scope.names, z.2 ≠ .cell) (hkind : scope.kind = .function)
    (hnames : ∀ z ∈ scope.names, z.2 = .local → scope.names.lookup z.1 = some .local) (hx : scope.names.lookup x = some .local) (hy : scope.names.lookup y = some .local) (hxy : x ≠ y)
    (hs : ∀ v, foldedSetIterable iter1 env v = pure v) (hs2 : ∀ e v, foldedSetIterable iter2 e v = pure v)
    (h : wpAny (model prog w) A (eval iter1 env) (fun xv s₁ => Hold <| ∃ (ax k : Nat) (its : Array Value) (news : List (Addr × Obj)) (J : Nat → Nat → List Value → List (Addr × Obj) → Prop), xv = .ref ax ∧ A.handled = none ∧
      (∀ i j ys nw, J i j ys nw → (ax, ({ cls := .type "list", data := .seq its k } : Obj)) ∈ nw) ∧ (∀ i j ys nw, J i j ys nw → ys.length ≤ sizeLine) ∧ Fr h₀ L s₁.heap m ∧ News h₀ L s₁.heap news ∧ J 0 0 [] news ∧
      (∀ i ys nw I oI C oC D m₂ h tk (E' : Value → Shared → Prop), i < its.size → J i 0 ys nw → LCg.NsObj oC m₂ → Fr h₀ L h m → News h₀ L h ((I, oI) :: (C, oC) :: (D, LCg.lst ys) :: nw) →
        wpAny (model prog w) A (eval iter2 (compEnvC scope cl C env)) (fun xv s' => xv = .ref ax ∧ ∃ tk', s' = { s₁ with heap := h, toks := tk' }) E' { s₁ with heap := h, toks := tk }) ∧
      (∀ i j ys nw v₁ v₂ I oI I2 oI2 C oC D m₂ h tk (E' : Value → Shared → Prop), its[i]? = some v₁ → its[j]? = some v₂ → J i j ys nw → LCg.NsObj oC m₂ → m₂ x = some v₁ → m₂ y = some v₂ → Fr h₀ L h m →
        News h₀ L h ((I2, oI2) :: (I, oI) :: (C, oC) :: (D, LCg.lst ys) :: nw) → (∀ p ∈ nw, p.1 ≠ I2 ∧ p.1 ≠ I ∧ p.1 ≠ C ∧ p.1 ≠ D) → (I < I2 ∧ C < I2 ∧ D < I2 ∧ @Ne Nat I C ∧ @Ne Nat I D ∧ @Ne Nat C D) →
        wpAny (model prog w) A (tests ifs (compEnvC scope cl C env)) (fun ok s₃ =>
          if ok = true then wpAny (model prog w) A (eval elt (compEnvC scope cl C env)) (fun z s₄ => End2 h₀ L m { s₁ with heap := h, toks := tk } I2 I C D oI2 oI oC (LCg.lst ys) (J i (j + 1) (ys ++ [z])) s₄) E' s₃
          else End2 h₀ L m { s₁ with heap := h, toks := tk } I2 I C D oI2 oI oC (LCg.lst ys) (J i (j + 1) ys) s₃) E' { s₁ with heap := h, toks := tk }) ∧
      (∀ i ys nw, i < its.size → J i its.size ys nw → J (i + 1) 0 ys nw) ∧
      (∀ ys nw D h tk, J its.size 0 ys nw → Fr h₀ L h m → News h₀ L h ((D, LCg.lst ys) :: nw) → (∀ p ∈ nw, @Ne Nat p.1 D) → Q (.ref D) { s₁ with heap := h, toks := tk })) E s) :
    wpAny (model prog w) A (eval (twoFor elt iter1 iter2 (.Name x px) (.Name y py) ifs scope pos) env) Q E s := by
  rw [twoFor, eval_ListComp]
  refine wpAny_comprehension_free (use := none) rfl hs hclos hkind hnames (wpAny_mono h (fun xv s₁ h₁ => ?_) fun _ _ e => e)
  obtain ⟨ax, k, its, news, J, rfl, hh, keep, len, F, N, j0, hit2, turn, next, done⟩ := h₁
  refine block_2 J hh keep len hcell hkind hx hy hxy hs2 F N j0 hit2 turn next ?_
  intro D C h tk m' ys nw F' N' offD hn hC₀ hD₀ hCL hDL hCD offC jj
  refine ⟨m', hn, fun h'' hs'' => done ys nw D h'' tk jj (F'.change hs'' hCL hC₀) (fun p hp => ?_) offD⟩
  refine ⟨hs''.extBut _ _ ?_ (N' p hp).1, (N' p hp).2⟩
  rcases List.mem_cons.mp hp with rfl | hp
  · exact Ne.symm hCD
  · exact offC p hp
end
end Mine
end

theorem Mine.reset30 : True := by
  w_top off
  first | walk1 | exact True.intro

section
open PySem PySem.W PyProof.Rows PySem.Calls PySem.Spec
set_option compiler.extract_closed false
set_option Elab.async false
set_option linter.unusedVariables false
set_option linter.unusedSimpArgs false
set_option pp.maxSteps 2000
set_option pp.deepTerms false
set_option pp.deepTerms.threshold 10
namespace Mine
open PySem
theorem entry_dict_loop : entryFor table "dict.update.loop" = some Builtin.«dict.update.loop» := entryFor_of_tree (by kernel_rfl)
theorem plain_dict_loop : plainId "dict.update.loop" = true := by decide +kernel
/-- the entries that the pairs leave, the last of a key's first -/
noncomputable def laid (es : List Pr) : List (Int × Value) := es.foldl (fun kvs e => stored kvs e.r (.int e.k e.u)) []
theorem laid_snoc (es : List Pr) (e : Pr) : laid (es ++ [e]) = stored (laid es) e.r (.int e.k e.u) := by unfold laid; rw [List.foldl_append]; rfl
theorem stored_keys (kvs : List (Int × Value)) (k : Int) (v : Value) : (stored kvs k v).map (·.1) = if (kvs.map (·.1)).contains k then kvs.map (·.1) else kvs.map (·.1) ++ [k] := by
  unfold stored
  have e : (kvs.any fun kv => decide (kv.1 = k)) = (kvs.map (·.1)).contains k := by
    induction kvs with
    | nil => rfl
    | cons p kvs ih => rw [List.any_cons, List.map_cons, List.contains_cons, ih]; congr 1; rw [Bool.eq_iff_iff, decide_eq_true_iff, beq_iff_eq]; exact eq_comm
  rw [e]
  by_cases h : ((kvs.map (·.1)).contains k) = true
  · rw [if_pos h, if_pos h]; exact keys_map_store kvs k v
  · rw [if_neg h, if_neg h, List.map_append]; rfl
theorem laid_keys : ∀ (n : Nat) (es : List Pr), es.length = n → (laid es).map (·.1) = once (es.map (·.r))
  | 0, es, h => by rw [List.length_eq_zero_iff.mp h]; rfl
  | n + 1, es, h => by
    obtain ⟨es', e, rfl⟩ : ∃ es' e, es = es' ++ [e] := ⟨es.dropLast, es.getLast (by intro q; rw [q] at h; simp at h), (List.dropLast_concat_getLast _).symm⟩
    have ih := laid_keys n es' (by simpa using h)
    rw [laid_snoc, stored_keys, ih, List.map_append, List.map_cons, List.map_nil, once_snoc]
theorem laid_len (es : List Pr) : (laid es).length = (once (es.map (·.r))).length := by rw [← laid_keys _ es rfl, List.length_map]
theorem once_le : ∀ (n : Nat) (l : List Int), l.length = n → (once l).length ≤ n
  | 0, l, h => by rw [List.length_eq_zero_iff.mp h]; exact Nat.le_refl _
  | n + 1, l, h => by
    obtain ⟨l', x, rfl⟩ : ∃ l' x, l = l' ++ [x] := ⟨l.dropLast, l.getLast (by intro q; rw [q] at h; simp at h), (List.dropLast_concat_getLast _).symm⟩
    have ih := once_le n l' (by simpa using h)
    rw [once_snoc]
    split
    · omega
    · rw [List.length_append, List.length_singleton]; omega
section
variable {prog : Program} {w : World} {A : Around} {R : Result → Shared → Prop} {I : Addr} {fp wr : List Addr} {G : Array GenState → Array GenState → Prop} {n : Nat} {St : Nat → Shared → Prop}
theorem dict_loop {es : List Pr} (W : WalksS prog w A.in1 I fp wr G es.length (fun i v => es[i]?.map Pr.ref = some v) St) (D : Addr) (hDf : D ∉ fp) (hb : es.length ≤ sizeLine) (hew : ∀ e ∈ es, e.a ∉ D :: wr) :
    ∀ (k i : Nat) (s : Shared), es.length - i = k → i ≤ es.length → St i s → (∀ e ∈ es, s.heap.get? e.a = some e.obj) →
      s.heap.DictOf (intKind prog w) D (laid (es.take i)) →
      (∀ s', Moved (D :: wr) G s s' → s'.heap.DictOf (intKind prog w) D (laid es) → R (.ok (.ret .none)) s') →
      codeAny (model prog w) A (.builtin "dict.update.loop" ⟨[.ref D, .ref I, rawInt (i : Int), .none], []⟩) R s := by
  have hDw : D ∉ wr := fun h => hDf (W.sub _ h)
  have hsub : ∀ b ∈ wr, b ∈ D :: wr := fun b hb => List.mem_cons_of_mem _ hb
  intro k
  induction k with
  | zero =>
    intro i s hk hi hst ht hD hR
    have hin : i = es.length := by omega
    subst hin
    refine codeAny_builtin entry_dict_loop ?_
    rw [Around.under_plainId plain_dict_loop _]
    show wpAny _ A.in1 (pyNext (.ref I) >>= _) _ _ s
    refine wpAny_bind (W.done s _ _ hst fun s' hm => ?_)
    show wpAny _ A.in1 (Builtin.Dict.addKeywords D [] >>= fun _ => ret Value.none) _ _ s'
    refine wpAny_bind (wpAny_pure (wpAny_pure (hR s' (hm.mono hsub) ?_)))
    rw [List.take_length] at hD
    obtain ⟨o, es', ep, ho, rest⟩ := hD
    exact ⟨o, es', ep, hm.heap D _ hDw ho, rest⟩
  | succ k ih =>
    intro i s hk hi hst ht hD hR
    have hlt : i < es.length := by omega
    refine codeAny_builtin entry_dict_loop ?_
    rw [Around.under_plainId plain_dict_loop _]
    show wpAny _ A.in1 (pyNext (.ref I) >>= _) _ _ s
    refine wpAny_bind (W.item i s _ _ hlt hst fun v s' hP hst' hm => ?_)
    obtain ⟨e, he, rfl⟩ := Option.map_eq_some_iff.mp hP
    have hem := List.mem_of_getElem? he
    have ht' : ∀ e ∈ es, s'.heap.get? e.a = some e.obj := fun e he => hm.heap _ _ (fun q => hew e he (hsub _ q)) (ht e he)
    have hD' : s'.heap.DictOf (intKind prog w) D (laid (es.take i)) := by
      obtain ⟨o, es', ep, ho, rest⟩ := hD
      exact ⟨o, es', ep, hm.heap D _ hDw ho, rest⟩
    have hx := ht' e hem
    have hT : s'.TypeIs (.ref e.a) "tuple" := ⟨_, hx, rfl⟩
    show wpAny _ A.in1 (holding [Value.ref e.a] _ >>= fun _ => again (.builtin "dict.update.loop" ⟨[.ref D, .ref I, rawInt ((i : Int) + 1), .none], []⟩)) _ _ s'
    refine wpAny_bind (wpAny_holding ?_)
    refine wpAny_bind (wpAny_tryCatch ?_)
    unfold Builtin.Dict.pairItems
    refine wpAny_bind (wpAny_typeOf hT ?_)
    rw [if_pos (by decide)]
    show wpAny _ A.in1 (seqItems? (.ref e.a) >>= _) _ _ s'
    refine wpAny_bind ?_
    show wpAny _ A.in1 (load e.a >>= _) _ _ s'
    refine wpAny_bind (wpAny_load hx (wpAny_pure (wpAny_pure ?_)))
    show wpAny _ A.in1 (holding [Value.int e.r e.t, Value.int e.k e.u] (dictSet D (Value.int e.r e.t) (Value.int e.k e.u))) _ _ s'
    refine wpAny_holding ?_
    have hl : (laid (es.take i)).length ≤ sizeLine := by
      rw [laid_len]
      have := once_le _ ((es.take i).map (·.r)) rfl
      rw [List.length_map, List.length_take] at this
      omega
    refine wpAny_dictSet_pairs (knd := intKind prog w) (k := e.r) (intKind_is _ _ _ _) hD' (hsz := hl) fun h' hD2 hsb => ?_
    have hD3 : h'.DictOf (intKind prog w) D (laid (es.take (i + 1))) := by
      rw [List.take_succ, he, Option.toList_some, laid_snoc]
      exact hD2
    refine wpAny_pure ⟨plainId_quiet plain_dict_loop _, ?_⟩
    refine ih (i + 1) _ (by omega) hlt (W.frame _ s' _ _ hst' (Nat.le_succ _) fun b hb o e => ?_) (fun e' he' => ?_) hD3 fun s'' hm'' hS'' => ?_
    · rw [hsb.2 b (fun h : b = D => hDf (by rw [← h]; exact hb))]; exact e
    · exact (hsb.2 _ (fun h => hew e' he' (by rw [h]; exact List.mem_cons_self))).trans (ht' e' he')
    · refine hR s'' (Moved.trans W.gtrans ((hm.mono hsub).then_heap (Nat.le_succ _) fun b o hb e => ?_) hm'') hS''
      rw [hsb.2 b (fun h : b = D => hb (by rw [h]; exact List.mem_cons_self))]; exact e
end
section
variable {prog : Program} {w : World} {A : Around} {E : Value → Shared → Prop} {s : Shared}
theorem call_dict_pairs {l : Addr} {es : List Pr} {n : Nat} {Q : Value → Shared → Prop} (hh : A.handled = none) (hl : s.heap.get? l = some (W.listOf (es.map Pr.ref).toArray n)) (ht : ∀ e ∈ es, s.heap.get? e.a = some e.obj) (hb : es.length ≤ sizeLine)
    (h : ∀ h' tk, h'.DictOf (intKind prog w) s.heap.objs.size (laid es) → (∀ b o, s.heap.get? b = some o → h'.get? b = some o) → Q (.ref s.heap.objs.size) { s with heap := h', toks := tk }) :
    wpAny (model prog w) A (call (.type "dict") [.ref l]) Q E s := by
  refine callType_codes (Q₁ := fun obj s₁ => obj = .ref s.heap.objs.size ∧ s₁ = { s with heap := s.heap.push { cls := .type "dict", data := .dict #[] } }) F.kt_called_dict (F.kt_typeCall_dict_1 _) F.entry_dict_init (kt_code_dict_new _ ⟨rfl, rfl⟩) ?_
  rintro obj s₁ ⟨rfl, rfl⟩
  have hnew : (s.heap.push { cls := .type "dict", data := .dict #[] }).DictOf (intKind prog w) s.heap.objs.size [] := Heap.DictOf.new s.heap
  have hl1 : (s.heap.push { cls := .type "dict", data := .dict #[] }).get? l = some (W.listOf (es.map Pr.ref).toArray n) := Heap.get?_push_of_some _ hl
  have hTl : Shared.TypeIs { s with heap := s.heap.push { cls := .type "dict", data := .dict #[] } } (.ref l) "list" := ⟨_, hl1, rfl⟩
  refine ⟨hnew.typeIs, F.args_dict_init_2 _ _, ?_⟩
  unfold Builtin.«dict.__init__»
  refine wpAny_bind ?_
  unfold Builtin.Dict.selfAndRest
  refine wpAny_bind (wpAny_notOrdered_dict hnew.typeIs ?_)
  show wpAny _ _ (pure (s.heap.objs.size, [Value.ref l])) _ _ _
  refine wpAny_pure ?_
  show wpAny _ _ (Builtin.Dict.updateFrom "dict.__init__" s.heap.objs.size (.ref l) [] .none) _ _ _
  unfold Builtin.Dict.updateFrom
  refine wpAny_bind (wpAny_typeOf hTl ?_)
  rw [if_pos (by decide)]
  refine wpAny_bind (keys_attr (by simp [hh]) hl1 ?_)
  intro h2 tk2 hk2
  rw [if_pos (show (none : Option Value).isNone = true from rfl)]
  have hl2 : h2.get? l = some (W.listOf (es.map Pr.ref).toArray n) := hk2 _ _ hl1
  have hil : h2.IsList l (es.map Pr.ref).toArray := ⟨_, hl2, rfl, n, rfl⟩
  have hls : @LT.lt Nat _ l s.heap.objs.size := Heap.lt_size hl
  have hdh : @LT.lt Nat _ s.heap.objs.size h2.objs.size := by
    obtain ⟨o, _, _, ho, _⟩ := hnew
    exact Heap.lt_size (hk2 _ _ ho)
  refine wpAny_bind (wpAny_rule ?_)
  refine wpAny_bind (wpAny_pyIter_list hil ?_)
  have hneI : l ≠ h2.objs.size := Nat.ne_of_lt (Nat.lt_trans hls hdh)
  have hSf : s.heap.objs.size ∉ [h2.objs.size, l] := by
    simp only [List.mem_cons, List.not_mem_nil, or_false, not_or]
    exact ⟨Nat.ne_of_lt hdh, Nat.ne_of_gt hls⟩
  have hP : ∀ i v, (es.map Pr.ref).toArray[i]? = some v ↔ es[i]?.map Pr.ref = some v := fun i v => by
    rw [List.getElem?_toArray, List.getElem?_map]
  have W0 := (Walks.list (prog := prog) (w := w) (A := A.in1.in1) (by simp [hh]) h2.objs.size l hneI (es.map Pr.ref).toArray).toS
  have e0 : (fun i v => (es.map Pr.ref).toArray[i]? = some v) = fun i v => es[i]?.map Pr.ref = some v := funext fun i => funext fun v => propext (hP i v)
  have e1 : (es.map Pr.ref).toArray.size = es.length := by simp
  rw [e0, e1] at W0
  refine wpAny_pure ⟨plainId_quiet plain_dict_loop _, ?_⟩
  refine dict_loop W0 s.heap.objs.size hSf hb (fun e he => ?_) (es.length - 0) 0 _ rfl (Nat.zero_le _) ?_ (fun e he => ?_) ?_ fun s' hm hD => ?_
  · have := Heap.lt_size (ht e he)
    simp only [List.mem_cons, List.not_mem_nil, or_false, not_or]
    exact ⟨Nat.ne_of_lt this, Nat.ne_of_lt (Nat.lt_trans this hdh)⟩
  · exact ⟨⟨_, Heap.get?_push_size _ rfl, rfl, rfl⟩, hil.push _⟩
  · exact Heap.get?_push_of_some _ (hk2 _ _ (Heap.get?_push_of_some _ (ht e he)))
  · obtain ⟨o, es', ep, ho, rest⟩ := hnew
    exact ⟨o, es', ep, Heap.get?_push_of_some _ (hk2 _ _ ho), rest⟩
  · obtain ⟨h', g', d', tk', os'⟩ := s'
    have eg : g' = s.gens := hm.gens
    have ed : d' = s.drawn := hm.drawn
    have eo : os' = s.os := hm.os
    subst eg; subst ed; subst eo
    refine ⟨rfl, h h' tk' hD fun b o e => ?_⟩
    have hb1 : @LT.lt Nat _ b s.heap.objs.size := Heap.lt_size e
    exact hm.heap b o (by simp only [List.mem_cons, List.not_mem_nil, or_false, not_or]; exact ⟨Nat.ne_of_lt hb1, Nat.ne_of_lt (Nat.lt_trans hb1 hdh)⟩) (Heap.get?_push_of_some _ (hk2 _ _ (Heap.get?_push_of_some _ e)))
end
end Mine
end
theorem Mine.reset999 : True := by
  w_top off
  first | walk1 | exact True.intro

section
open PySem PySem.W PyProof.Rows PySem.Calls PySem.Spec
set_option compiler.extract_closed false
set_option Elab.async false
set_option linter.unusedVariables false
set_option linter.unusedSimpArgs false
set_option pp.maxSteps 2000
set_option pp.deepTerms false
set_option pp.deepTerms.threshold 10
namespace Mine
def Loc : Prop := True
def LocM : Prop := True
def HaltComp : Prop := True
def HaltAsg : Prop := True
def HaltSlice : Prop := True
def HaltFor : Prop := True
def HaltT : Prop := True
def HaltLen : Prop := True
def HaltStore : Prop := True
theorem ints_get {vs : List Value} {ns : List Int} {i : Nat} {v : Value} (h : IntsAre vs ns) (hv : vs[i]? = some v) : ∃ x t, v = Value.int x t ∧ x ∈ ns := by
  induction h generalizing i with
  | nil => simp at hv
  | cons n t _ ih =>
    cases i with
    | zero => simp at hv; exact ⟨_, _, hv.symm, .head _⟩
    | succ i =>
      obtain ⟨x, t', e, hm⟩ := ih (i := i) (by simpa using hv)
      exact ⟨x, t', e, .tail _ hm⟩
theorem assignRange {prog : Program} {w : World} {A : Around} {E : Value → Shared → Prop} {s : Shared} {h₀ : Heap} {L : Addr} {m : Str → Option Value} {env : Env} {elt iter : PySem.Expr} {x y : Str} {px py : Pos} {ifs : List PySem.Expr} {scope : Scope} {cl : List (Str × Addr)} {pos spos : Pos} {Q : Flow → Shared → Prop} (pz : Int → Bool) (d : Int → PyData)
    (hF0 : Fr h₀ L s.heap m)
    (hsw : swapsWith (.ListComp elt [⟨.Name x px, iter, ifs, 0⟩] scope pos) (some (.Name y py)) spos.line env = pure true) (hL : env.locals = L)
    (hh : A.handled = none) (hclos : closureFor scope env = pure cl) (hcell : ∀ z ∈ scope.names, z.2 ≠ .cell) (hkind : scope.kind = .function)
    (hnames : ∀ z ∈ scope.names, z.2 = .local → scope.names.lookup z.1 = some .local) (hx : scope.names.lookup x = some .local)
    (hy : env.kindOf y = some .local) (hp : (env.scope.kind == .class || (env.scope.kind == .module && env.locals != env.globals)) = false)
    (hs : ∀ x, foldedSetIterable iter env x = pure x)
    (h : wpAny (model prog w) A (eval iter env) (fun xv s₁ => Hold <| ∃ news : List (Addr × Obj), ∃ r a₀ b₀ c₀ t₀ u₀ v₀, ∃ n : Nat, xv = .ref r ∧ IsRange s₁.heap r a₀ b₀ c₀ t₀ u₀ v₀ ∧ Builtin.Range.small a₀ b₀ c₀ = true ∧ Builtin.Range.rangeSize a₀ b₀ c₀ = (n : Int) ∧ n ≤ sizeLine ∧ Fr h₀ L s₁.heap m ∧ News h₀ L s₁.heap news ∧
      (∀ C a v s₂ m₂ E', s₁.heap.objs.size ≤ C → a ∈ rangeInts a₀ c₀ n → ItemKind.int.is a v → s₂.heap.Ns (compEnvC scope cl C env).locals m₂ → m₂ x = some v → (∀ b o, s₁.heap.get? b = some o → s₂.heap.get? b = some o) →
        wpAny (model prog w) A (forIn ifs true fun c r => if r = true then do let ok ← isTrue c (compEnvC scope cl C env) (eval c (compEnvC scope cl C env)); pure (ForInStep.yield ok) else pure (ForInStep.yield r))
          (fun ok s₃ => ok = pz a ∧ Keeps s₂ s₃) E' s₂) ∧
      (∀ C a v s₂ m₂ E', s₁.heap.objs.size ≤ C → a ∈ rangeInts a₀ c₀ n → ItemKind.int.is a v → pz a = true → s₂.heap.Ns (compEnvC scope cl C env).locals m₂ → m₂ x = some v → (∀ b o, s₁.heap.get? b = some o → s₂.heap.get? b = some o) →
        wpAny (model prog w) A (eval elt (compEnvC scope cl C env)) (fun y s₃ => Carried y (d a) ∧ Keeps s₂ s₃) E' s₂) ∧
      (∀ D (ys : List Value) h' tk, Fr h₀ L h' (fun z => if z = y then some (.ref D) else m z) → News h₀ L h' news → h₀.get? D = none → h'.IsList D ys.toArray → NewPlain h' news D ys.toArray → CarriedAll ys (((rangeInts a₀ c₀ n).filter pz).map d) → Q .next { s₁ with heap := h', toks := tk })) E s) :
    wpAny (model prog w) A (exec (.Assign [.Name y py] (.ListComp elt [⟨.Name x px, iter, ifs, 0⟩] scope pos) spos) env) Q E s :=
  Assign_ListComp_DCr hsw hL hh hclos hcell hkind hnames hx hy hp h hs
theorem IntsAre.nil_inv' {ns : List Int} (h : IntsAre [] ns) : ns = [] := by cases h; rfl
theorem near_some {b : Nat} {ds : List Int} (h : hole b ds = true) : ((rangeInts 1 1 (ds.length - 1)).filter fun k => decide (ds.getD k.toNat 0 - ds.getD (k - 1).toNat 0 = 1)).map (fun k => k) ≠ [] := by
  unfold hole at h
  simp only [Bool.and_eq_true] at h
  obtain ⟨k, hk, h3⟩ := List.any_eq_true.mp h.1.2
  simp only [Bool.and_eq_true, decide_eq_true_eq, beq_iff_eq] at h3
  have hk2 := List.mem_range.mp hk
  intro q
  have hm : (k : Int) ∈ (rangeInts 1 1 (ds.length - 1)).filter fun k => decide (ds.getD k.toNat 0 - ds.getD (k - 1).toNat 0 = 1) := by
    refine List.mem_filter.mpr ⟨List.mem_map.mpr ⟨k - 1, List.mem_range.mpr (Nat.sub_lt_sub_right h3.1 hk2), by rw [Int.mul_one, Int.ofNat_sub h3.1, Int.add_comm]; exact Int.sub_add_cancel _ _⟩, ?_⟩
    rw [decide_eq_true_eq, show ((k : Int) - 1).toNat = k - 1 from Int.toNat_sub k 1, Int.toNat_natCast]
    exact h3.2
  rw [List.map_eq_nil_iff.mp q] at hm
  cases hm
theorem compList {prog : Program} {w : World} {A : Around} {E : Value → Shared → Prop} {s : Shared} {h₀ : Heap} {L : Addr} {m : Str → Option Value} {env : Env} {elt iter : PySem.Expr} {x : Str} {px : Pos} {ifs : List PySem.Expr} {scope : Scope} {cl : List (Str × Addr)} {pos : Pos} {Q : Value → Shared → Prop} (pz : Int → Bool) (d : Int → PyData)
    (hF0 : Fr h₀ L s.heap m) (hh : A.handled = none) (hclos : closureFor scope env = pure cl) (hcell : ∀ y ∈ scope.names, y.2 ≠ .cell) (hkind : scope.kind = .function)
    (hnames : ∀ y ∈ scope.names, y.2 = .local → scope.names.lookup y.1 = some .local) (hx : scope.names.lookup x = some .local) (hs : ∀ x, foldedSetIterable iter env x = pure x)
    (h : wpAny (model prog w) A (eval iter env) (fun xv s₁ => Hold <| ∃ (news : List (Addr × Obj)) (ax : Addr) (vs : List Value) (as : List Int), xv = .ref ax ∧ s₁.heap.IsList ax vs.toArray ∧ AreOf ItemKind.int vs as ∧ as.length ≤ sizeLine ∧ Fr h₀ L s₁.heap m ∧ News h₀ L s₁.heap news ∧
      (∀ C a v s₂ m₂ E', s₁.heap.objs.size ≤ C → a ∈ as → ItemKind.int.is a v → s₂.heap.Ns (compEnvC scope cl C env).locals m₂ → m₂ x = some v → (∀ b o, s₁.heap.get? b = some o → s₂.heap.get? b = some o) →
        wpAny (model prog w) A (forIn ifs true fun c r => if r = true then do let ok ← isTrue c (compEnvC scope cl C env) (eval c (compEnvC scope cl C env)); pure (ForInStep.yield ok) else pure (ForInStep.yield r))
          (fun ok s₃ => ok = pz a ∧ Keeps s₂ s₃) E' s₂) ∧
      (∀ C a v s₂ m₂ E', s₁.heap.objs.size ≤ C → a ∈ as → ItemKind.int.is a v → pz a = true → s₂.heap.Ns (compEnvC scope cl C env).locals m₂ → m₂ x = some v → (∀ b o, s₁.heap.get? b = some o → s₂.heap.get? b = some o) →
        wpAny (model prog w) A (eval elt (compEnvC scope cl C env)) (fun y s₃ => Carried y (d a) ∧ Keeps s₂ s₃) E' s₂) ∧
      (∀ D (ys : List Value) h' tk, Fr h₀ L h' m → News h₀ L h' news → h₀.get? D = none → h'.IsList D ys.toArray → NewPlain h' news D ys.toArray → CarriedAll ys ((as.filter pz).map d) → Q (.ref D) { s₁ with heap := h', toks := tk })) E s) :
    wpAny (model prog w) A (eval (.ListComp elt [⟨.Name x px, iter, ifs, 0⟩] scope pos) env) Q E s := ListComp_DCn hh hclos hcell hkind hnames hx h hs
theorem TabSt.grown {P : Addr} {l c : Int} {qual : Str} {T : List (Addr × Obj)} (h : TabSt P l c qual T) : ∃ ps, (P, tabObj ps) ∈ T := by
  cases h with
  | fresh => exact ⟨_, .head _⟩
  | made => exact ⟨_, .head _⟩
theorem TabsOk.grown {h₀ h : Heap} {L : Addr} {T news : List (Addr × Obj)} (x : TabsOk T) (N : News h₀ L h news) (hs : ∀ p ∈ T, p ∈ news) : GrownAll [(41, 37), (34, 30)] h := by
  obtain ⟨t30, t37, rfl, h30, h37⟩ := x
  obtain ⟨p30, m30⟩ := h30.grown
  obtain ⟨p37, m37⟩ := h37.grown
  exact ⟨GrownAt.of N (hs _ (List.mem_append_right _ m37)), GrownAt.of N (hs _ (List.mem_append_left _ m30)), True.intro⟩
set_option maxRecDepth 100000 in
theorem claim_raises (xs : List Int) : ∀ cls, PySem.Challenge.rw_hr0002_01.row.claim.raises [ofPy (PyData.list (List.map PyData.int xs))] cls = false := raisesW_false (by wrow_none_raised)
set_option maxRecDepth 100000 in
theorem claim_post (xs : List Int) : PySem.Challenge.rw_hr0002_01.row.claim.post [ofPy (PyData.list (List.map PyData.int xs))] (.bool true) [ofPy (PyData.list (List.map PyData.int xs))] = true := by wrow_post
theorem haltV {prog : Program} {w : World} {A A' : Around} {h₀ : Heap} {env : Env} {x : Str} {body : List Stmt} {Q : Flow → Shared → Prop} {E E' : Value → Shared → Prop} {r : Addr} {s : Shared} (h : Hold (wpAny (model prog w) A' (pyIter (.ref r)) (fun it s₂ => LoopAtV prog w A h₀ env x body Q E it s₂) E' s)) : wpAny (model prog w) A' (pyIter (.ref r)) (fun it s₂ => LoopAtV prog w A h₀ env x body Q E it s₂) E' s := h
theorem haltT {prog : Program} {w : World} {A A' : Around} {h₀ : Heap} {env : Env} {x : PySem.Expr} {body : List Stmt} {Q : Flow → Shared → Prop} {E E' : Value → Shared → Prop} {r : Addr} {s : Shared} (h : Hold (wpAny (model prog w) A' (pyIter (.ref r)) (fun it s₂ => LoopAtT prog w A h₀ env x body Q E it s₂) E' s)) : wpAny (model prog w) A' (pyIter (.ref r)) (fun it s₂ => LoopAtT prog w A h₀ env x body Q E it s₂) E' s := h
theorem kbaT {prog : Program} {w : World} {A : Around} {E : Value → Shared → Prop} {s : Shared} {value slice : PySem.Expr} {o i : Value} {Q : Value → Shared → Prop} (h : wpAny (model prog w) A (subscriptTail (PySem.Expr.Name (PySem.Str.ofString "_") ⟨0, 0, 0, 0⟩) slice o i) Q E s) : wpAny (model prog w) A (subscriptTail value slice o i) Q E s := kba_turn (fun _ => rfl) h
theorem memL {α : Type} {a : α} {l r : List α} (h : a ∈ l) : a ∈ l ++ r := List.mem_append_left _ h
theorem memR {α : Type} {a : α} {l r : List α} (h : a ∈ r) : a ∈ l ++ r := List.mem_append_right _ h
local macro_rules | `(tactic| k_mem) => `(tactic| ((with_reducible rename LocM => locm'); first | assumption | (refine' memL ?_; k_mem) | (refine' memR ?_; k_mem)))
local macro_rules | `(tactic| k_all) => `(tactic| ((with_reducible rename Loc => loc'); assumption))
local macro_rules | `(tactic| walk_at "subscriptTail BinOp") => `(tactic| (k_here; k_dflt (refine kbaT ?_)))
local macro_rules | `(tactic| walk_at $s:str) => do
  let l := ([("call ref", .anonymous, `Mine.Hold.halt), ("compareOp NotEq ref ref", .anonymous, `Mine.Hold.halt), ("compareOp Eq ref ref", .anonymous, `Mine.Hold.halt), ("exec For Name BinOp", .anonymous, `Mine.Hold.halt), ("exec While Compare cons nil", .anonymous, `Mine.Hold.halt), ("CompSrc", .anonymous, `Mine.Hold.halt), ("call type:dict", .anonymous, `Mine.Hold.halt), ("eval ListComp", `Mine.HaltComp, `Mine.Hold.halt), ("storeName", `Mine.HaltStore, `Mine.Hold.halt), ("exec For Name Name cons nil", `Mine.HaltFor, `Mine.Hold.halt), ("exec Assign cons ListComp", `Mine.HaltAsg, `Mine.Hold.halt), ("subscriptTail Name Slice ref ref", `Mine.HaltSlice, `Mine.Hold.halt), ("call builtin:len", `Mine.HaltLen, `Mine.Hold.halt), ("pyIter ref", `Mine.HaltT, `Mine.haltT), ("pyIter ref", .anonymous, `Mine.haltV)] : List (String × Lean.Name × Lean.Name)).filter (·.1 == s.getString)
  if l.isEmpty then Lean.Macro.throwUnsupported
  let a ← l.toArray.mapM fun (_, m, r) => do
    let h ← `(tactic| with_reducible refine $(Lean.mkIdent r) ?_)
    if m.isAnonymous then return h else `(tactic| ((with_reducible rename $(Lean.mkIdent m) => haltmark'); $h:tactic))
  `(tactic| first $[| $a:tactic]*)
set_option maxRecDepth 100000 in
set_option maxHeartbeats 8000000 in
theorem law_holds : PySem.Challenge.rw_hr0002_01.Holds := by
  w_top off
  refine Mine.hd ?_
  k_go0
  have hm : HaltComp := True.intro
  k_steps
  refine Hold.on ?_
  rename HaltComp => hm
  clear hm
  have hm : HaltStore := True.intro
  k_steps
  refine Hold.on ?_
  rename HaltStore => hm
  clear hm
  rename_i w s₀ s₁ mg mb G Y fa o pm cd doc ho hcd hg XM V T0 B TE TW xs hs hlay0 hL0 hr0 hl2 wa wb wc wvs wd hLs ra w1 r0 hIs hr hcond' hcond2 hD h₁ tk₁ o1 o2 o3 o4 left1 left2 left3 right1 X0 X' T' K' chd l0 hA tkA tA hB lS hC l1 D1 ws1 hE hI1 l2 D2 ws2 hF F0 N0 hI2 hC2 hL2 l3 D ys hG tkG F1 N1 hfr hlD hpl hca
  w_top off
  clear hlD
  have hcr := cnt_range (x := xs.sum)
  have htl := taken_len (xs := xs) hcr.1 hcr.2
  have htr := taken_range (l := List.take (2 * (2 + xs.sum.fmod 2) - 1).toNat (xs ++ [1, 2, 3, 5, 8, 13, 21]))
  have htc := carried_ints (g := fun a => a.fmod 1000) hca
  obtain ⟨ep, N2, ne2⟩ := newsPlain F1 N1 hpl hfr
  clear hca hpl N1 hI2 hC2 hL2 F0 N0 hI1
  generalize ((List.take (2 * (2 + xs.sum.fmod 2) - 1).toNat (xs ++ [1, 2, 3, 5, 8, 13, 21])).filter fun _ => true).map (fun a => a.fmod 1000) = ns at htl htr htc
  obtain ⟨cnt, hcnt⟩ : ∃ c, c = 2 + xs.sum.fmod 2 := ⟨_, rfl⟩
  simp only [← hcnt] at hcr htl F1 N2 ⊢
  have hne := egz htl hcr.1 hcr.2
  have hn2 : (ns.length : Int) = 2 * cnt - 1 := by omega
  have hn5 : ns.length ≤ 5 := by omega
  clear htl hcnt
  have N3 := News.less (k := (D, W.listOf ys.toArray ep) :: (s₁.heap.objs.size + 1 + 1 + 1 + 1, o1) :: (s₁.heap.objs.size + 1 + 1 + 1, o2) :: (s₁.heap.objs.size + 1 + 1, o3) :: (s₁.heap.objs.size + 1, o4) :: [(37, tabObj #[]), (30, tabObj #[])]) N2 (by k_dflt (have loc9 : LocM := True.intro; (repeat' (first | exact subNil | (refine' subCons ?_ ?_) | (refine' subApp ?_ ?_) | k_mem | (intro p9 hp9; k_mem)))))
  have nD := fun p hp => ne2 p (List.mem_of_mem_drop (i := 3) hp)
  simp only [List.drop_succ_cons, List.drop_zero, List.mem_cons, forall_eq_or_imp] at nD
  obtain ⟨nD1, nD2, nD3, nD4, nD5, nD6, _⟩ := nD
  clear N2 ne2 l3 l2 l1 hfr
  k_steps
  rename_i nD7 hH oN F2 N4 dN
  refine Hold.on ?_
  have tOk : TabsOk [(30, tabObj #[]), (37, tabObj #[])] := ⟨[_], [_], rfl, .fresh, .fresh⟩
  obtain ⟨sz, hsz⟩ : ∃ n : Nat, n = s₁.heap.objs.size := ⟨_, rfl⟩
  have N5 := News.less (k := [(D, W.listOf ys.toArray ep), (s₁.heap.objs.size + 1 + 1 + 1 + 1, o1), (s₁.heap.objs.size + 1 + 1 + 1, o2), (s₁.heap.objs.size + 1 + 1, o3), (s₁.heap.objs.size + 1, oN)] ++ [(30, tabObj #[]), (37, tabObj #[])]) N4 (by k_dflt (have loc9 : LocM := True.intro; (repeat' (first | exact subNil | (refine' subCons ?_ ?_) | (refine' subApp ?_ ?_) | k_mem | (intro p9 hp9; k_mem)))))
  clear N4
  have il5 : hH.IsList D ys.toArray := News.isList N5 (List.mem_append_left _ (.head _))
  k_dflt (refine' Con.use (rest := [(D, W.listOf ys.toArray ep), (s₁.heap.objs.size + 1 + 1 + 1 + 1, o1), (s₁.heap.objs.size + 1 + 1 + 1, o2), (s₁.heap.objs.size + 1 + 1, o3), (s₁.heap.objs.size + 1, oN)]) (lots_con w D ys ns cnt _ _ tOk htc ?g1 htr hcr.1 hcr.2 ?g3) ?k1 ?k2 ?k3 ?k4 ?k5 ?k6 ?k7 ?k8 ?kp ?kr ?_)
  (case k1 => k_asm); (case k2 => k_asm); (case k3 => k_asm); (case k5 => k_asm); (case k6 => first | exact rfl | assumption); (case k7 => first | decide | ((try unfold recursionLimit); decide) | (simp [recursionLimit]; done)); (case k8 => first | decide | ((try unfold cLine); decide) | (simp [cLine]; done))
  (case k4 => exact N5)
  (case kp => exact il5)
  (case g1 => omega)
  (case g3 => (simp only [List.map_cons, List.map_nil, List.mem_cons, List.not_mem_nil, or_false, not_or]; exact ⟨nD6.symm, nD5.symm⟩))
  (case kr => exact awayCons (neCons nD6 (neCons nD5 neNil)) (awayCons (neCons (by dsimp only; omega) (neCons (by dsimp only; omega) neNil)) (awayCons (neCons (by dsimp only; omega) (neCons (by dsimp only; omega) neNil)) (awayCons (neCons (by dsimp only; omega) (neCons (by dsimp only; omega) neNil)) (awayCons (neCons (by dsimp only; omega) (neCons (by dsimp only; omega) neNil)) awayNil)))))
  intro r3 T3 h3 tk3 F11 N11 P11 st11 sz11 lt11
  obtain ⟨l3, fvs, ep3, TB, hz3, rfl, hi3, hTB, hnw, rfl⟩ := P11
  dsimp only at hz3 hnw
  have l11 := allLt_of lt11
  simp only [List.cons_append, List.nil_append, AllLt] at l11
  try dsimp only at l11
  have N12 := News.less (k := (l3, W.listOf fvs.toArray ep3) :: (D, W.listOf ys.toArray ep) :: (s₁.heap.objs.size + 1 + 1 + 1 + 1, o1) :: (s₁.heap.objs.size + 1 + 1 + 1, o2) :: (s₁.heap.objs.size + 1 + 1, o3) :: (s₁.heap.objs.size + 1, oN) :: TB) N11 (by k_dflt (have loc9 : LocM := True.intro; (repeat' (first | exact subNil | (refine' subCons ?_ ?_) | (refine' subApp ?_ ?_) | k_mem | (intro p9 hp9; k_mem)))))
  clear N11
  w_top off
  try dsimp only
  try k_fold
  clear st11 sz11 lt11 N5 il5
  k_steps
  rename_i hJ lE hK F3 N6 l4
  refine Hold.on ?_
  refine eq_intsK (News.isList N6 (.tail _ (.head _))) hi3 (News.isList N6 (.head _)) .nil (by units_room) ?_
  rw [decide_eq_false hne]
  try dsimp only
  try k_fold
  k_steps
  rename_i DQ wsQ hQ FQ NQ iQ lQ
  refine Hold.on ?_
  have lTB : AllLt DQ TB := lQ.2.2.2.2.2.2.2.2.2.2.2
  have hsol : Solid [(l3, W.listOf fvs.toArray ep3), (D, W.listOf ys.toArray ep), (s₁.heap.objs.size + 1 + 1 + 1 + 1, o1), (s₁.heap.objs.size + 1 + 1 + 1, o2), (s₁.heap.objs.size + 1 + 1, o3), (s₁.heap.objs.size + 1, oN)] := solidCons (fun vs h => by cases h) (solidCons (fun vs h => by cases h) (solidCons (fun vs h => by rw [left1] at h; cases h) (solidCons (fun vs h => by rw [left2] at h; cases h) (solidCons (fun vs h => by rw [left3] at h; cases h) (solidCons (fun vs h => by rw [dN] at h; cases h) solidNil)))))
  have N7 := News.less (k := [(l3, W.listOf fvs.toArray ep3), (D, W.listOf ys.toArray ep), (s₁.heap.objs.size + 1 + 1 + 1 + 1, o1), (s₁.heap.objs.size + 1 + 1 + 1, o2), (s₁.heap.objs.size + 1 + 1, o3), (s₁.heap.objs.size + 1, oN)] ++ TB) NQ (by k_dflt (have loc9 : LocM := True.intro; (repeat' (first | exact subNil | (refine' subCons ?_ ?_) | (refine' subApp ?_ ?_) | k_mem | (intro p9 hp9; k_mem)))))
  have ilQ : hQ.IsList DQ wsQ.toArray := News.isList NQ (.head _)
  have hkr := solid_apart N7 hTB hsol (fun p hp => List.mem_append_left _ hp) (fun p hp => List.mem_append_right _ hp)
  have hDQ : DQ ∉ TB.map (·.1) := fun hm => by
    obtain ⟨p, hp, e⟩ := List.mem_map.mp hm
    have := ktn_ltOf lTB p hp
    exact absurd e (Nat.ne_of_lt this)
  clear NQ lQ lTB
  k_dflt (refine' Con.use (rest := [(l3, W.listOf fvs.toArray ep3), (D, W.listOf ys.toArray ep), (s₁.heap.objs.size + 1 + 1 + 1 + 1, o1), (s₁.heap.objs.size + 1 + 1 + 1, o2), (s₁.heap.objs.size + 1 + 1, o3), (s₁.heap.objs.size + 1, oN)]) (lots_con w DQ wsQ _ cnt _ TB hTB iQ (nough_len hcr.1 hcr.2) nough_range hcr.1 hcr.2 hDQ) ?k1 ?k2 ?k3 ?k4 ?k5 ?k6 ?k7 ?k8 ?kp hkr ?_)
  (case k1 => k_asm); (case k2 => k_asm); (case k3 => k_asm); (case k5 => k_asm); (case k6 => first | exact rfl | assumption); (case k7 => first | decide | ((try unfold recursionLimit); decide) | (simp [recursionLimit]; done)); (case k8 => first | decide | ((try unfold cLine); decide) | (simp [cLine]; done))
  (case k4 => exact N7)
  (case kp => exact ilQ)
  intro r3 T3 h3 tk3 F13 N13 P13 st13 sz13 lt13
  obtain ⟨l5, fvs5, ep5, TB5, hz5, rfl, hi5, hTB5, hnw5, rfl⟩ := P13
  rw [nough hcr.1 hcr.2] at hi5
  have l13 := allLt_of lt13
  simp only [List.cons_append, List.nil_append, AllLt] at l13
  try dsimp only at l13
  have N14 := News.less (k := (l5, W.listOf fvs5.toArray ep5) :: (l3, W.listOf fvs.toArray ep3) :: (D, W.listOf ys.toArray ep) :: (s₁.heap.objs.size + 1 + 1 + 1 + 1, o1) :: (s₁.heap.objs.size + 1 + 1 + 1, o2) :: (s₁.heap.objs.size + 1 + 1, o3) :: (s₁.heap.objs.size + 1, oN) :: TB5) N13 (by k_dflt (have loc9 : LocM := True.intro; (repeat' (first | exact subNil | (refine' subCons ?_ ?_) | (refine' subApp ?_ ?_) | k_mem | (intro p9 hp9; k_mem)))))
  clear N13 N7 ilQ hDQ hkr st13 sz13 lt13
  try dsimp only
  try k_fold
  k_steps
  rename_i lG hM F15 N15 l15
  refine Hold.on ?_
  refine ne_intsK (News.isList N15 (.tail _ (.head _))) hi5 (News.isList N15 (.head _)) .nil (by units_room) ?_
  have hmf : HaltFor := True.intro
  rw [show (!decide (([] : List Int) = [])) = false from rfl]
  try dsimp only
  try k_fold
  k_steps
  refine Hold.on ?_
  rename HaltFor => hmf
  clear hmf
  rename_i la ha lb Da hb ia na sa ea eb ec lc ld hcc le De hdd ib nb sb ed ee ef lf0
  clear lb ia sa ea eb ec lc le ib sb ed ee ef lf0
  w_top off
  have g1 : @LT.lt Nat _ (s₁.heap.objs.size + 1 + 1 + 1 + 1) l3 := by omega
  have g2 : @LT.lt Nat _ D l3 := by omega
  clear hne hsol l11 l4 l13 l15 hz3 hnw hz5 hnw5 iQ
  refine For_invTF F15 ?_ (fun _ => rfl)
  have hmt : HaltT := True.intro
  k_steps
  refine Hold.on ?_
  rename HaltT => hmt
  clear hmt
  have N16 := News.less (k := (l3, W.listOf fvs.toArray ep3) :: (D, W.listOf ys.toArray ep) :: (s₁.heap.objs.size + 1 + 1 + 1 + 1, o1) :: (s₁.heap.objs.size + 1 + 1 + 1, o2) :: (s₁.heap.objs.size + 1 + 1, o3) :: (s₁.heap.objs.size + 1, oN) :: TB5) N15 (by k_dflt (have loc9 : LocM := True.intro; (repeat' (first | exact subNil | (refine' subCons ?_ ?_) | (refine' subApp ?_ ?_) | k_mem | (intro p9 hp9; k_mem)))))
  have hTs : ∀ p ∈ TB5, p ∈ (l3, W.listOf fvs.toArray ep3) :: (D, W.listOf ys.toArray ep) :: (s₁.heap.objs.size + 1 + 1 + 1 + 1, o1) :: (s₁.heap.objs.size + 1 + 1 + 1, o2) :: (s₁.heap.objs.size + 1 + 1, o3) :: (s₁.heap.objs.size + 1, oN) :: TB5 := fun p hp => .tail _ (.tail _ (.tail _ (.tail _ (.tail _ (.tail _ hp)))))
  have l3T := ne_airy N16 (.head _) (fun vs h => by cases h) hTB5.airy hTs
  have dT := ne_airy N16 (.tail _ (.head _)) (fun vs h => by cases h) hTB5.airy hTs
  have c4T := ne_airy N16 (.tail _ (.tail _ (.head _))) (fun vs h => by rw [left1] at h; cases h) hTB5.airy hTs
  have c3T := ne_airy N16 (.tail _ (.tail _ (.tail _ (.head _)))) (fun vs h => by rw [left2] at h; cases h) hTB5.airy hTs
  have c2T := ne_airy N16 (.tail _ (.tail _ (.tail _ (.tail _ (.head _))))) (fun vs h => by rw [left3] at h; cases h) hTB5.airy hTs
  have c1T := ne_airy N16 (.tail _ (.tail _ (.tail _ (.tail _ (.tail _ (.head _)))))) (fun vs h => by rw [dN] at h; cases h) hTB5.airy hTs
  clear hTs
  refine withMap F15 fun mm F15' hmm => ?_
  k_dflt (refine' iter_cell (vs := fvs) (lo := W.listOf fvs.toArray ep3) rfl F15' N16 (.head _) rfl rfl (fun I i m n' => ∃ (u : Str → Option Value) (oL : Obj) (fv : Option Value), (∀ p ∈ TB5, p.1 ≠ I) ∧ oL.data = .cell fv ∧ m = (fun y => if y = Str.ofString "taken" then u y else mm y) ∧ n' = (l3, W.listOf fvs.toArray ep3) :: (D, W.listOf ys.toArray ep) :: (s₁.heap.objs.size + 1 + 1 + 1 + 1, o1) :: (s₁.heap.objs.size + 1 + 1 + 1, o2) :: (s₁.heap.objs.size + 1 + 1, oL) :: (s₁.heap.objs.size + 1, oN) :: TB5) ?keep ?start ?turn ?done)
  case keep => rintro I i m n' ⟨u, oL, fv, _, _, _, rfl⟩; exact .head _
  case start =>
    intro I hI
    have hI1 := allLt_of hI
    simp only [AllLt] at hI1
    exact ⟨mm, o3, _, neAll hI1.2.2.2.2.2.2, left3, norm1 (fun _ _ => rfl), rfl⟩
  case turn =>
    rintro I i v m news it s₂ hI hin hv ⟨u, oL, fv, j1, j2, rfl, rfl⟩ hit F4 N4
    subst hmm
    have hI1 := allLt_of hI
    simp only [AllLt] at hI1
    have hm : HaltAsg := True.intro
    have loc : Loc := True.intro
    w_top off
    try dsimp only
    try k_fold
    k_steps
    refine Hold.on ?_
    rename_i hP oM F5 N5 dM
    obtain ⟨x, tx, hx, hxm⟩ := ints_get hi3 hv
    subst hx
    obtain ⟨lot, hlm, hlx⟩ := List.mem_map.mp hxm
    obtain ⟨hlr, hgood⟩ := List.mem_filter.mp hlm
    have hl0 : (0 : Int) ≤ x := by rw [← hlx]; exact Int.natCast_nonneg _
    k_dflt (refine' assignRange (fun k => decide ((x.fdiv (2 ^ k.toNat)).fmod 2 = 1)) (fun k => PyData.int (ns.getD k.toNat 0)) ?kF (by with_unfolding_all rfl) rfl rfl rfl (by decide) rfl (by decide) rfl rfl rfl (fun _ => rfl) ?_)
    (case kF => k_asm)
    try dsimp only
    try k_fold
    k_steps
    rename_i hR2 tkR t₁ u₁ v₁ iR FR NR kR
    refine Hold.on ?_
    have hyl : ys.length = ns.length := ints_len_eq htc
    k_dflt (refine' ⟨_, _, _, _, _, _, _, _, ns.length, rfl, iR, ?r0, ?r1, ?r2, FR, NR, ?r3, ?r4, ?r5⟩)
    case r0 => exact range_small (by omega) (by omega)
    case r1 => (try rw [List.size_toArray]); (try rw [hyl]); rw [rangeSize_nat]; simp
    case r2 => have : sizeLine = 16777216 := by decide
               omega
    case r3 =>
      intro C a v s₃ m₂ E' hC ha hv2 hns2 hm2 hkeep
      obtain ⟨tv, rfl⟩ := hv2
      obtain ⟨hb0, hb1⟩ := mem_rangeInts ha
      k_steps
      exact ⟨_, _, rfl, fun _ _ e => e⟩
    case r4 =>
      intro C a v s₃ m₂ E' hC ha hv2 hp hns2 hm2 hkeep
      obtain ⟨tv, rfl⟩ := hv2
      obtain ⟨hb0, hb1⟩ := mem_rangeInts ha
      k_steps
      · exact .int _ _
      · exact ⟨_, _, rfl, fun _ _ e => e⟩
    case r5 =>
      intro D2 ys2 h7 tk7 F7 N7 hfr hl7 hpl hca
      w_top off
      have i7 := carried_ints (g := fun k => ns.getD k.toNat 0) hca
      rw [lot_pick hlx] at i7
      obtain ⟨hgl, hgs⟩ := good_pick hgood
      obtain ⟨ep2, N8, ne8⟩ := newsPlain F7 N7 hpl hfr
      have p7 := ints_len_eq i7
      have hfm : (pick ns (digs 1 ns.length lot)).sum.fmod cnt = 0 := by rw [Int.fmod_eq_emod_of_nonneg _ (by omega)]; exact hgs
      clear hca hl7 hpl N7 FR NR iR
      generalize pick ns (digs 1 ns.length lot) = pk at i7 hgl hgs p7 hfm
      k_steps
      show UnrEnd _ _ _ _ _ _ _
      refine' UnrEnd.intro ?uF ?uN ((l3, W.listOf fvs.toArray ep3) :: (D, W.listOf ys.toArray ep) :: (s₁.heap.objs.size + 1 + 1 + 1 + 1, o1) :: (s₁.heap.objs.size + 1 + 1 + 1, o2) :: (s₁.heap.objs.size + 1 + 1, oM) :: (s₁.heap.objs.size + 1, oN) :: TB5) ?u1 ?u2 ⟨_, oM, _, j1, dM, ?u6, rfl⟩
      case uF => k_asm
      case uN => k_asm
      case u1 => k_dflt (have loc9 : LocM := True.intro; (repeat' (first | exact subNil | (refine' subCons ?_ ?_) | (refine' subApp ?_ ?_) | k_mem | (intro p9 hp9; k_mem))))
      case u2 => exact neCons (Nat.ne_of_lt hI1.1) (neCons (Nat.ne_of_lt hI1.2.1) (neCons (Nat.ne_of_lt hI1.2.2.1) (neCons (Nat.ne_of_lt hI1.2.2.2.1) (neCons (Nat.ne_of_lt hI1.2.2.2.2.1) (neCons (Nat.ne_of_lt hI1.2.2.2.2.2.1) j1)))))
      case u6 =>
        refine norm1 ?_
        intro y h1
        simp only [h1, if_false]
  case done =>
    rintro I m news h tk ⟨u, oL, fv, j1, j2, rfl, rfl⟩ F4 N4
    subst hmm
    try dsimp only
    try k_fold
    k_steps
    w_top off
    refine Hold.on ?_
    have N20 := News.less (k := [(l3, W.listOf fvs.toArray ep3), (D, W.listOf ys.toArray ep), (s₁.heap.objs.size + 1 + 1 + 1 + 1, o1), (s₁.heap.objs.size + 1 + 1 + 1, o2), (s₁.heap.objs.size + 1 + 1, oL), (s₁.heap.objs.size + 1, oN)] ++ TB5) N4 (by k_dflt (have loc9 : LocM := True.intro; (repeat' (first | exact subNil | (refine' subCons ?_ ?_) | (refine' subApp ?_ ?_) | k_mem | (intro p9 hp9; k_mem)))))
    have hkr : ∀ p ∈ [(l3, W.listOf fvs.toArray ep3), (D, W.listOf ys.toArray ep), (s₁.heap.objs.size + 1 + 1 + 1 + 1, o1), (s₁.heap.objs.size + 1 + 1 + 1, o2), (s₁.heap.objs.size + 1 + 1, oL), (s₁.heap.objs.size + 1, oN)], p.1 ∉ TB5.map (·.1) := awayCons l3T (awayCons dT (awayCons c4T (awayCons c3T (awayCons c2T (awayCons c1T awayNil)))))
    have ilD : h.IsList D ys.toArray := News.isList N4 (.tail _ (.head _))
    have hDT : D ∉ TB5.map (·.1) := hkr _ (.tail _ (.head _))
    k_dflt (refine' Con.use (rest := [(l3, W.listOf fvs.toArray ep3), (D, W.listOf ys.toArray ep), (s₁.heap.objs.size + 1 + 1 + 1 + 1, o1), (s₁.heap.objs.size + 1 + 1 + 1, o2), (s₁.heap.objs.size + 1 + 1, oL), (s₁.heap.objs.size + 1, oN)]) (stretch_con w D ys ns cnt _ TB5 hTB5 htc ?g1 ?g2 htr hcr.1 hcr.2) ?k1 ?k2 ?k3 ?k4 ?k5 ?k6 ?k7 ?k8 ?kp hkr ?_)
    (case k1 => k_asm); (case k2 => k_asm); (case k3 => k_asm); (case k5 => k_asm); (case k6 => first | exact rfl | assumption); (case k7 => first | decide | ((try unfold recursionLimit); decide) | (simp [recursionLimit]; done)); (case k8 => first | decide | ((try unfold cLine); decide) | (simp [cLine]; done))
    (case k4 => exact N20)
    (case kp => exact ⟨ilD, hDT⟩)
    (case g1 => omega)
    (case g2 => omega)
    intro r3 T3 h3 tk3 F21 N21 P21 st21 sz21 lt21
    obtain ⟨P, ti, tk4, t1, t2, TB6, hz6, rfl, hi0, hik, hkc, hsm, hTB6, hnw6, rfl⟩ := P21
    have N22 := News.less (k := (P, _) :: (D, W.listOf ys.toArray ep) :: (s₁.heap.objs.size + 1 + 1 + 1 + 1, o1) :: (s₁.heap.objs.size + 1 + 1 + 1, o2) :: (s₁.heap.objs.size + 1 + 1, oL) :: (s₁.heap.objs.size + 1, oN) :: TB6) N21 (by k_dflt (have loc9 : LocM := True.intro; (repeat' (first | exact subNil | (refine' subCons ?_ ?_) | (refine' subApp ?_ ?_) | k_mem | (intro p9 hp9; k_mem)))))
    w_top off
    try dsimp only
    try k_fold
    clear N20 N21 N4 ilD hkr hDT st21 sz21
    have hmn : min tk4.toNat ns.length - ti.toNat = (tk4 - ti).toNat := ar_mn hi0 hik (ar_kc hkc hn2 hcr.1)
    have hfs : ((ns.drop ti.toNat).take (min tk4.toNat ns.length - ti.toNat)).sum.fmod cnt = 0 := by rw [hmn, Int.fmod_eq_emod_of_nonneg _ (Int.le_trans (by decide) hcr.1)]; exact hsm
    clear hmn hsm
    have hms : HaltSlice := True.intro
    k_steps
    refine test_link ?_
    k_steps
    refine Hold.on ?_
    rename HaltSlice => hms
    clear hms
    k_here
    have ilN := News.isList (by k_asm : News _ _ _ _) (.tail _ (.head _))
    k_dflt (refine' kmk_slice_ints (vs := ys) (ns := ns) ?z1 ?z2 ?z3 ?z4 ?z5 ?z6 ?z7 ?z8 ?_ ?z9 ?z10 ?z11; (case z1 => k_asm); (case z2 => k_asm); (case z3 => kmk_list); (case z4 => kmk_part); (case z5 => kmk_part); (case z6 => exact htc); (case z7 => exact kmk_run htc hi0 (by omega)); (case z8 => exact rfl); (case z9 => with_unfolding_all rfl); (case z10 => kmk_pure); (case z11 => kmk_size))
    intro D' ws' h' F' N' l1 hI' hC' hL'
    iterate 6 (first | walk1 | (dsimp only; walk1))
    rw [show ((List.take (min tk4.toNat ns.length - ti.toNat) (List.drop ti.toNat ns)).sum.fmod cnt != 0) = false from by rw [hfs]; rfl]
    iterate 6 (first | walk1 | (dsimp only; walk1))
    try dsimp only
    rename_i h3b tk3b tkb hgg FA NA tkc hhh tkK tK F24 N24
    clear hi3 hTB hi5 hTB5 l3T dT c4T c3T c2T c1T j1 F4 lt21 hz6 hnw6 hi0 hik hkc hfs ilN FA NA hI' hC' hL' F' N' l1
    have N25 := News.less (k := (D, W.listOf ys.toArray ep) :: (s₁.heap.objs.size + 1 + 1 + 1 + 1, o1) :: (s₁.heap.objs.size + 1 + 1 + 1, o2) :: (s₁.heap.objs.size + 1 + 1, oL) :: (s₁.heap.objs.size + 1, oN) :: TB6) N24 (by k_dflt (have loc9 : LocM := True.intro; (repeat' (first | exact subNil | (refine' subCons ?_ ?_) | (refine' subApp ?_ ?_) | k_mem | (intro p9 hp9; k_mem)))))
    clear N24
    have hTs : ∀ p ∈ TB6, p ∈ (D, W.listOf ys.toArray ep) :: (s₁.heap.objs.size + 1 + 1 + 1 + 1, o1) :: (s₁.heap.objs.size + 1 + 1 + 1, o2) :: (s₁.heap.objs.size + 1 + 1, oL) :: (s₁.heap.objs.size + 1, oN) :: TB6 := fun p hp => .tail _ (.tail _ (.tail _ (.tail _ (.tail _ hp))))
    have dT := ne_airy N25 (.head _) (fun vs h => by cases h) hTB6.airy hTs
    have c4T := ne_airy N25 (.tail _ (.head _)) (fun vs h => by rw [left1] at h; cases h) hTB6.airy hTs
    have c3T := ne_airy N25 (.tail _ (.tail _ (.head _))) (fun vs h => by rw [left2] at h; cases h) hTB6.airy hTs
    have c2T := ne_airy N25 (.tail _ (.tail _ (.tail _ (.head _)))) (fun vs h => by rw [j2] at h; cases h) hTB6.airy hTs
    have c1T := ne_airy N25 (.tail _ (.tail _ (.tail _ (.tail _ (.head _))))) (fun vs h => by rw [dN] at h; cases h) hTB6.airy hTs
    clear hTs
    w_top off
    clear nD7
    have loc : Loc := True.intro
    k_steps
    refine Hold.on ?_
    (rename Fr _ _ _ _ => F26)
    refine For_invTF F26 ?_ (fun _ => rfl)
    have hmt : HaltT := True.intro
    k_steps
    refine Hold.on ?_
    rename HaltT => hmt
    clear hmt
    rename_i tkm lf hm1 lm1 Dt hm2 lm2 hm3 hm4 oB dB hm5 oR dR lt1 ht1 lm3 Dn wsn hm6 F27 N27 hIn lm4
    have N28 := News.less (k := (Dn, W.listOf wsn.toArray 0) :: (lf, W.listOf ([] : List Value).toArray 0) :: (D, W.listOf ys.toArray ep) :: (s₁.heap.objs.size + 1 + 1 + 1 + 1, oR) :: (s₁.heap.objs.size + 1 + 1 + 1, oB) :: (s₁.heap.objs.size + 1 + 1, oL) :: (s₁.heap.objs.size + 1, oN) :: TB6) N27 (by k_dflt (have loc9 : LocM := True.intro; (repeat' (first | exact subNil | (refine' subCons ?_ ?_) | (refine' subApp ?_ ?_) | k_mem | (intro p9 hp9; k_mem)))))
    obtain ⟨al, hal⟩ : ∃ al, al = ns ++ [(7 : Int), 11, 2, 9, 4, 12, 6, 3, 10, 8, 5, 1] := ⟨_, rfl⟩
    simp only [← hal] at hIn
    have llf : @LT.lt Nat _ lf Dn := lm4.2.2.1
    have llT := lm1.2.2.2.2.2
    have lnT : AllLt Dn TB6 := lm4.2.2.2.2.2.2.2.2
    have ldf : @LT.lt Nat _ D lf := lm1.1
    have lcf : s₁.heap.objs.size + 1 + 1 + 1 + 1 < lf := lm1.2.1
    clear N27 lm2 lm3 lm4 lm1 left1 left2
    refine withMap F27 fun mm F28 hmm => ?_
    k_dflt (refine' iter_cell (vs := wsn) (lo := W.listOf wsn.toArray 0) rfl F28 N28 (.head _) rfl rfl (fun I i m n' => ∃ (u : Str → Option Value) (dv : List Value) (ds : List Int) (ed : Nat), (∀ p ∈ TB6, p.1 ≠ I) ∧ IntsAre dv ds ∧ Drawn (2 * (3 + cnt)) (3 + cnt).toNat (al.take i) ds ∧ m = (fun y => if y = Str.ofString "number" then u y else if y = Str.ofString "one" then u y else if y = Str.ofString "place" then u y else mm y) ∧ n' = (Dn, W.listOf wsn.toArray 0) :: (lf, W.listOf dv.toArray ed) :: (D, W.listOf ys.toArray ep) :: (s₁.heap.objs.size + 1 + 1 + 1 + 1, oR) :: (s₁.heap.objs.size + 1 + 1 + 1, oB) :: (s₁.heap.objs.size + 1 + 1, oL) :: (s₁.heap.objs.size + 1, oN) :: TB6) ?keep ?start ?turn ?done)
    case keep => rintro I i m n' ⟨u, dv, ds, ed, _, _, _, _, rfl⟩; exact .head _
    case start =>
      intro I hI
      have hI1 := allLt_of hI
      simp only [AllLt] at hI1
      exact ⟨mm, [], [], 0, neAll hI1.2.2.2.2.2.2.2, .nil, Drawn.nil _ _, norm_f3 (fun _ _ _ _ => rfl), rfl⟩
    case turn =>
      rintro I i v m news it s₂ hI hin hv ⟨u, dv, ds, ed, i1, i2, i3, rfl, rfl⟩ hit F4 N4
      have hI1 := allLt_of hI
      simp only [AllLt] at hI1
      obtain ⟨x, tx, rfl, hx⟩ := hIn.at i v hv
      have i4 : al.take (i + 1) = al.take i ++ [x] := by rw [List.take_succ, hx]; rfl
      subst hmm
      w_top off
      clear N28 hI hit hv hIn
      try dsimp only
      try k_fold
      k_steps
      rename_i tk9 h9a h9 F9 N9
      refine Hold.on ?_
      have hlv := i2.length
      have hll := i3.len
      have hpl := posI_le ds (1 + x.fmod (2 * (3 + cnt)))
      have hB : (0 : Int) < 2 * (3 + cnt) := by omega
      k_dflt (refine' Con.use1 (bis_con w lf dv (.int (1 + x.fmod (2 * (3 + cnt))) _) (posI ds (1 + x.fmod (2 * (3 + cnt)))) (by omega) (by omega) _ (cmpInts w dv ds _ _ i2 i3.inc)) ?k1 ?k2 ?k3 ?k4 ?k5 ?k6 ?k7 ?k8 ⟨News.isList N9 (by k_mem), True.intro⟩ ?_)
      (case k1 => k_asm); (case k2 => k_asm); (case k3 => k_asm); (case k5 => k_asm); (case k6 => first | exact rfl | assumption); (case k7 => first | decide | ((try unfold recursionLimit); decide) | (simp [recursionLimit]; done)); (case k8 => first | decide | ((try unfold cLine); decide) | (simp [cLine]; done))
      (case k4 => exact N9)
      intro r5 T5 h5 tk5 F15 N15 P15 st15 sz15 lt15
      obtain ⟨tp, rfl, rfl⟩ := P15
      simp only [List.nil_append] at N15
      clear N9 F9 st15 sz15 lt15 N4 F4
      obtain ⟨one, hone⟩ : ∃ one, one = 1 + x.fmod (2 * (3 + cnt)) := ⟨_, rfl⟩
      simp only [← hone] at F15 N15 hpl ⊢
      obtain ⟨p, hp⟩ : ∃ p, p = posI ds one := ⟨_, rfl⟩
      simp only [← hp] at F15 N15 hpl ⊢
      try dsimp only
      try k_fold
      have hfd : (2 * (3 + cnt)).fdiv 2 = 3 + cnt := by rw [Int.fdiv_eq_ediv_of_nonneg _ (by decide)]; omega
      have hnt : (∀ e, ds[p]? = some e → e ≠ one) → one ∉ ds := fun q => not_there i3.inc (by rw [← hp]; exact q)
      k_steps
      · rename_i tp9 h9b F17 N17 tk10 ha hb
        have hle : ds.length ≤ (3 + cnt).toNat := by omega
        have hno : one ∉ ds := hnt fun e he => absurd (List.getElem?_eq_some_iff.mp he).1 (by omega)
        refine Hold.on ?_
        have i5 := i3.put (x := x) hB hle (by rw [← hone]; exact hno)
        rw [← hone, ← hp, ← i4] at i5
        have i6 : IntsAre (dv.take p ++ Value.int one (tp9 + 1 + 1) :: dv.drop p) (ds.take p ++ one :: ds.drop p) := (i2.take p).append (.cons _ _ (i2.drop p))
        have N18 := News.less (k := ([(I, it), (Dn, W.listOf wsn.toArray 0), (D, W.listOf ys.toArray ep), (s₁.heap.objs.size + 1 + 1 + 1 + 1, oR), (s₁.heap.objs.size + 1 + 1 + 1, oB), (s₁.heap.objs.size + 1 + 1, oL), (s₁.heap.objs.size + 1, oN)] ++ TB6) ++ [(lf, W.listOf dv.toArray ed)]) N17 (by k_dflt (have loc9 : LocM := True.intro; (repeat' (first | exact subNil | (refine' subCons ?_ ?_) | (refine' subApp ?_ ?_) | k_mem | (intro p9 hp9; k_mem)))))
        have hcB := cmpInts w dv ds one (tp9 + 1 + 1) i2 i3.inc
        rw [← hp] at hcB
        clear N17
        k_dflt (refine' Con.use (rest := [(I, it), (Dn, W.listOf wsn.toArray 0), (D, W.listOf ys.toArray ep), (s₁.heap.objs.size + 1 + 1 + 1 + 1, oR), (s₁.heap.objs.size + 1 + 1 + 1, oB), (s₁.heap.objs.size + 1 + 1, oL), (s₁.heap.objs.size + 1, oN)] ++ TB6) (ins_con w lf dv ed (.int one (tp9 + 1 + 1)) p (by omega) (by omega) _ hcB (fun _ _ _ _ => True.intro)) ?k1 ?k2 ?k3 ?k4 ?k5 ?k6 ?k7 ?k8 True.intro ?kr ?_)
        (case k1 => k_asm); (case k2 => k_asm); (case k3 => k_asm); (case k5 => k_asm); (case k6 => first | exact rfl | assumption); (case k7 => first | decide | ((try unfold recursionLimit); decide) | (simp [recursionLimit]; done)); (case k8 => first | decide | ((try unfold cLine); decide) | (simp [cLine]; done))
        (case k4 => exact N18)
        (case kr => exact away1 (neCons (Nat.ne_of_gt hI1.2.1) (neCons (Nat.ne_of_gt llf) (neCons (Nat.ne_of_lt ldf) (neCons (Nat.ne_of_lt lcf) (neCons (Nat.ne_of_lt (Nat.lt_of_succ_lt lcf)) (neCons (Nat.ne_of_lt (Nat.lt_of_succ_lt (Nat.lt_of_succ_lt lcf))) (neCons (Nat.ne_of_lt (Nat.lt_of_succ_lt (Nat.lt_of_succ_lt (Nat.lt_of_succ_lt lcf)))) (neAll llT)))))))))
        intro r7 T7 h7 tk7 F19 N19 P19 st19 sz19 lt19
        obtain ⟨rfl, rfl⟩ := P19
        clear N18 hcB st19 sz19 lt19
        try dsimp only
        try k_fold
        k_steps
        show UnrEnd _ _ _ _ _ _ _
        refine' UnrEnd.intro ?uF ?uN ((Dn, W.listOf wsn.toArray 0) :: (lf, W.listOf (dv.take p ++ Value.int one (tp9 + 1 + 1) :: dv.drop p).toArray (ed + 1)) :: (D, W.listOf ys.toArray ep) :: (s₁.heap.objs.size + 1 + 1 + 1 + 1, oR) :: (s₁.heap.objs.size + 1 + 1 + 1, oB) :: (s₁.heap.objs.size + 1 + 1, oL) :: (s₁.heap.objs.size + 1, oN) :: TB6) ?u1 ?u2 ⟨_, _, _, ed + 1, i1, i6, i5, ?u6, rfl⟩
        case uF => k_asm
        case uN => k_asm
        case u1 => k_dflt (have loc9 : LocM := True.intro; (repeat' (first | exact subNil | (refine' subCons ?_ ?_) | (refine' subApp ?_ ?_) | k_mem | (intro p9 hp9; k_mem))))
        case u2 => exact neCons (Nat.ne_of_lt hI1.1) (neCons (Nat.ne_of_lt hI1.2.1) (neCons (Nat.ne_of_lt hI1.2.2.1) (neCons (Nat.ne_of_lt hI1.2.2.2.1) (neCons (Nat.ne_of_lt hI1.2.2.2.2.1) (neCons (Nat.ne_of_lt hI1.2.2.2.2.2.1) (neCons (Nat.ne_of_lt hI1.2.2.2.2.2.2.1) i1))))))
        case u6 =>
          refine norm_f3 ?_
          intro y h1 h2 h3
          simp only [h1, h2, h3, if_false]
      · rename_i tp9 h9b F17 N17 tk10 ha hb t20 hc
        have hle : ds.length ≤ (3 + cnt).toNat := by omega
        have hno : one ∉ ds := hnt fun e he q => hc (by rw [Int.toNat_natCast, List.getD_eq_getElem?_getD, he, q]; rfl)
        refine Hold.on ?_
        have i5 := i3.put (x := x) hB hle (by rw [← hone]; exact hno)
        rw [← hone, ← hp, ← i4] at i5
        have i6 : IntsAre (dv.take p ++ Value.int one (tp9 + 1 + 1) :: dv.drop p) (ds.take p ++ one :: ds.drop p) := (i2.take p).append (.cons _ _ (i2.drop p))
        have N18 := News.less (k := ([(I, it), (Dn, W.listOf wsn.toArray 0), (D, W.listOf ys.toArray ep), (s₁.heap.objs.size + 1 + 1 + 1 + 1, oR), (s₁.heap.objs.size + 1 + 1 + 1, oB), (s₁.heap.objs.size + 1 + 1, oL), (s₁.heap.objs.size + 1, oN)] ++ TB6) ++ [(lf, W.listOf dv.toArray ed)]) N17 (by k_dflt (have loc9 : LocM := True.intro; (repeat' (first | exact subNil | (refine' subCons ?_ ?_) | (refine' subApp ?_ ?_) | k_mem | (intro p9 hp9; k_mem)))))
        have hcB := cmpInts w dv ds one (tp9 + 1 + 1) i2 i3.inc
        rw [← hp] at hcB
        clear N17
        k_dflt (refine' Con.use (rest := [(I, it), (Dn, W.listOf wsn.toArray 0), (D, W.listOf ys.toArray ep), (s₁.heap.objs.size + 1 + 1 + 1 + 1, oR), (s₁.heap.objs.size + 1 + 1 + 1, oB), (s₁.heap.objs.size + 1 + 1, oL), (s₁.heap.objs.size + 1, oN)] ++ TB6) (ins_con w lf dv ed (.int one (tp9 + 1 + 1)) p (by omega) (by omega) _ hcB (fun _ _ _ _ => True.intro)) ?k1 ?k2 ?k3 ?k4 ?k5 ?k6 ?k7 ?k8 True.intro ?kr ?_)
        (case k1 => k_asm); (case k2 => k_asm); (case k3 => k_asm); (case k5 => k_asm); (case k6 => first | exact rfl | assumption); (case k7 => first | decide | ((try unfold recursionLimit); decide) | (simp [recursionLimit]; done)); (case k8 => first | decide | ((try unfold cLine); decide) | (simp [cLine]; done))
        (case k4 => exact N18)
        (case kr => exact away1 (neCons (Nat.ne_of_gt hI1.2.1) (neCons (Nat.ne_of_gt llf) (neCons (Nat.ne_of_lt ldf) (neCons (Nat.ne_of_lt lcf) (neCons (Nat.ne_of_lt (Nat.lt_of_succ_lt lcf)) (neCons (Nat.ne_of_lt (Nat.lt_of_succ_lt (Nat.lt_of_succ_lt lcf))) (neCons (Nat.ne_of_lt (Nat.lt_of_succ_lt (Nat.lt_of_succ_lt (Nat.lt_of_succ_lt lcf)))) (neAll llT)))))))))
        intro r7 T7 h7 tk7 F19 N19 P19 st19 sz19 lt19
        obtain ⟨rfl, rfl⟩ := P19
        clear N18 hcB st19 sz19 lt19
        try dsimp only
        try k_fold
        k_steps
        show UnrEnd _ _ _ _ _ _ _
        refine' UnrEnd.intro ?uF ?uN ((Dn, W.listOf wsn.toArray 0) :: (lf, W.listOf (dv.take p ++ Value.int one (tp9 + 1 + 1) :: dv.drop p).toArray (ed + 1)) :: (D, W.listOf ys.toArray ep) :: (s₁.heap.objs.size + 1 + 1 + 1 + 1, oR) :: (s₁.heap.objs.size + 1 + 1 + 1, oB) :: (s₁.heap.objs.size + 1 + 1, oL) :: (s₁.heap.objs.size + 1, oN) :: TB6) ?u1 ?u2 ⟨_, _, _, ed + 1, i1, i6, i5, ?u6, rfl⟩
        case uF => k_asm
        case uN => k_asm
        case u1 => k_dflt (have loc9 : LocM := True.intro; (repeat' (first | exact subNil | (refine' subCons ?_ ?_) | (refine' subApp ?_ ?_) | k_mem | (intro p9 hp9; k_mem))))
        case u2 => exact neCons (Nat.ne_of_lt hI1.1) (neCons (Nat.ne_of_lt hI1.2.1) (neCons (Nat.ne_of_lt hI1.2.2.1) (neCons (Nat.ne_of_lt hI1.2.2.2.1) (neCons (Nat.ne_of_lt hI1.2.2.2.2.1) (neCons (Nat.ne_of_lt hI1.2.2.2.2.2.1) (neCons (Nat.ne_of_lt hI1.2.2.2.2.2.2.1) i1))))))
        case u6 =>
          refine norm_f3 ?_
          intro y h1 h2 h3
          simp only [h1, h2, h3, if_false]
      · rename_i tp9 h9b F17 N17 tk10 ha hb t20 hc
        have hpl2 : p < ds.length := by omega
        have i5 := i3.had (x := x) (p := p) (by
          rw [← hone, ← hc, Int.toNat_natCast, List.getD_eq_getElem?_getD, List.getElem?_eq_getElem hpl2]; rfl)
        rw [← i4] at i5
        show UnrEnd _ _ _ _ _ _ _
        refine' UnrEnd.intro ?uF ?uN ((Dn, W.listOf wsn.toArray 0) :: (lf, W.listOf dv.toArray ed) :: (D, W.listOf ys.toArray ep) :: (s₁.heap.objs.size + 1 + 1 + 1 + 1, oR) :: (s₁.heap.objs.size + 1 + 1 + 1, oB) :: (s₁.heap.objs.size + 1 + 1, oL) :: (s₁.heap.objs.size + 1, oN) :: TB6) ?u1 ?u2 ⟨_, _, _, ed, i1, i2, i5, ?u6, rfl⟩
        case uF => k_asm
        case uN => k_asm
        case u1 => k_dflt (have loc9 : LocM := True.intro; (repeat' (first | exact subNil | (refine' subCons ?_ ?_) | (refine' subApp ?_ ?_) | k_mem | (intro p9 hp9; k_mem))))
        case u2 => exact neCons (Nat.ne_of_lt hI1.1) (neCons (Nat.ne_of_lt hI1.2.1) (neCons (Nat.ne_of_lt hI1.2.2.1) (neCons (Nat.ne_of_lt hI1.2.2.2.1) (neCons (Nat.ne_of_lt hI1.2.2.2.2.1) (neCons (Nat.ne_of_lt hI1.2.2.2.2.2.1) (neCons (Nat.ne_of_lt hI1.2.2.2.2.2.2.1) i1))))))
        case u6 =>
          refine norm_f3 ?_
          intro y h1 h2 h3
          simp only [h1, h2, h3, if_false]
      · rename_i tp9 h9b F17 N17 tk10 ha
        have i5 := i3.full (x := x) (by omega)
        rw [← i4] at i5
        show UnrEnd _ _ _ _ _ _ _
        refine' UnrEnd.intro ?uF ?uN ((Dn, W.listOf wsn.toArray 0) :: (lf, W.listOf dv.toArray ed) :: (D, W.listOf ys.toArray ep) :: (s₁.heap.objs.size + 1 + 1 + 1 + 1, oR) :: (s₁.heap.objs.size + 1 + 1 + 1, oB) :: (s₁.heap.objs.size + 1 + 1, oL) :: (s₁.heap.objs.size + 1, oN) :: TB6) ?u1 ?u2 ⟨_, _, _, ed, i1, i2, i5, ?u6, rfl⟩
        case uF => k_asm
        case uN => k_asm
        case u1 => k_dflt (have loc9 : LocM := True.intro; (repeat' (first | exact subNil | (refine' subCons ?_ ?_) | (refine' subApp ?_ ?_) | k_mem | (intro p9 hp9; k_mem))))
        case u2 => exact neCons (Nat.ne_of_lt hI1.1) (neCons (Nat.ne_of_lt hI1.2.1) (neCons (Nat.ne_of_lt hI1.2.2.1) (neCons (Nat.ne_of_lt hI1.2.2.2.1) (neCons (Nat.ne_of_lt hI1.2.2.2.2.1) (neCons (Nat.ne_of_lt hI1.2.2.2.2.2.1) (neCons (Nat.ne_of_lt hI1.2.2.2.2.2.2.1) i1))))))
        case u6 =>
          refine norm_f3 ?_
          intro y h1 h2 h3
          simp only [h1, h2, h3, if_false]
    case done =>
      rintro I m news h tk ⟨u, dv, ds, ed, i1, i2, i3, rfl, rfl⟩ F4 N4
      rw [List.take_of_length_le (by rw [hIn.length]; exact Nat.le_refl _)] at i3
      subst hmm
      w_top off
      clear N28 hIn
      rw [hal] at i3
      have hdl := i3.done (h := (3 + cnt).toNat) hcr.1 hcr.2 (by omega)
      have hlv := i2.length
      have hfd : (2 * (3 + cnt)).fdiv 2 = 3 + cnt := by rw [Int.fdiv_eq_ediv_of_nonneg _ (by decide)]; omega
      have hdl2 : (ds.length : Int) = (2 * (3 + cnt)).fdiv 2 + 1 := by rw [hfd]; omega
      clear hfd
      try dsimp only
      try k_fold
      iterate 20 (first | walk1 | (dsimp only; walk1))
      rw [show (((ds.length : Int)) != (2 * (3 + cnt)).fdiv 2 + 1) = false from by rw [hdl2]; simp]
      k_steps
      rename_i tk9 DS vS nS cS hS FS NS iS eS pS oS bS p0S lS s1S s2S s3S
      refine Hold.on ?_
      have hS2 : ds = nS := List.Perm.eq_of_pairwise (le := fun a b => a ≤ b) (fun a b _ _ h1 h2 => by omega) (i3.inc.imp fun h => by omega) oS pS.symm
      clear eS pS bS p0S s1S s2S s3S
      refine ne_intsK (News.isList NS (.tail _ (.tail _ (.head _)))) i2 (News.isList NS (.head _)) iS (by units_room) ?_
      rw [decide_eq_true hS2]
      try dsimp only
      try k_fold
      k_steps
      rename_i tkW lo hW1 FW1 NW1 lW hW FW NW
      refine Hold.on ?_
      have N30 := News.less (k := (lf, W.listOf dv.toArray ed) :: (lo, W.listOf ([] : List Value).toArray 0) :: (D, W.listOf ys.toArray ep) :: (s₁.heap.objs.size + 1 + 1 + 1 + 1, oR) :: (s₁.heap.objs.size + 1 + 1 + 1, oB) :: (s₁.heap.objs.size + 1 + 1, oL) :: (s₁.heap.objs.size + 1, oN) :: TB6) NW (by k_dflt (have loc9 : LocM := True.intro; (repeat' (first | exact subNil | (refine' subCons ?_ ?_) | (refine' subApp ?_ ?_) | k_mem | (intro p9 hp9; k_mem)))))
      have llo : @LT.lt Nat _ lf lo := lW.2.2.1
      have ldo : @LT.lt Nat _ D lo := lW.2.2.2.1
      have lco : s₁.heap.objs.size + 1 + 1 + 1 + 1 < lo := lW.2.2.2.2.1
      have loT : AllLt lo TB6 := lW.2.2.2.2.2.2.2.2
      have hole := holes hcr.1 hcr.2 i3.inc i3.rng hdl
      have hrg := i3.rng
      clear NW lW lS hS2 hal
      refine withMap FW fun mm FW' hmm => ?_
      k_dflt (refine' iter_listUnr (vs := dv) (lo := W.listOf dv.toArray ed) rfl FW' N30 (.head _) rfl rfl fun I hI => ?_)
      have hI1 := allLt_of hI
      simp only [AllLt] at hI1
      refine list_ind (J := fun r m news => ∃ (u : Str → Option Value) (pre rs : List Int) (ov : List Value) (eo : Nat), IntsAre r rs ∧ ds = pre ++ rs ∧ IntsAre ov (pre.map oddP) ∧ m = (fun y => if y = Str.ofString "one" then u y else mm y) ∧ news = (lf, W.listOf dv.toArray ed) :: (lo, W.listOf ov.toArray eo) :: (D, W.listOf ys.toArray ep) :: (s₁.heap.objs.size + 1 + 1 + 1 + 1, oR) :: (s₁.heap.objs.size + 1 + 1 + 1, oB) :: (s₁.heap.objs.size + 1 + 1, oL) :: (s₁.heap.objs.size + 1, oN) :: TB6) ?done ?turn _ _ _ ?start
      case start => exact ⟨mm, [], ds, [], 0, i2, rfl, .nil, norm1 (fun _ _ => rfl), rfl⟩
      case turn =>
        rintro v r m news it h tk ⟨u, pre, rs, ov, eo, k1, k2, k3, rfl, rfl⟩ hic F4 N4
        subst hmm
        w_top off
        clear N30 hI
        obtain ⟨x, tx, rs', rfl, hx, k5⟩ : ∃ x tx rs', v = Value.int x tx ∧ rs = x :: rs' ∧ IntsAre r rs' := by cases k1; exact ⟨_, _, _, rfl, rfl, by assumption⟩
        subst hx
        have hxr := hrg x (by rw [k2]; exact List.mem_append_right _ (.head _))
        have hx12 : x ≤ 12 := by omega
        have hx1 := hxr.1
        have k6 : ds = (pre ++ [x]) ++ rs' := by rw [k2, List.append_assoc]; rfl
        clear k1 hxr
        have hov : ov.length ≤ 64 := by have := k3.length; rw [List.length_map] at this; have h2 := congrArg List.length k2; rw [List.length_append] at h2; omega
        have loc : Loc := True.intro
        have loT2 : ∀ p ∈ TB6, @Ne Nat p.1 lo := neAll loT
        try dsimp only
        try k_fold
        k_steps
        refine Hold.on ?_
        refine withMap F4 fun mm4 F4' hm4 => ?_
        refine While_inv2 (n₀ := x.toNat) (fun n m' news => ∃ (y : Int) (ty : Tok), 1 ≤ y ∧ y ≤ 12 ∧ oddP y = oddP x ∧ n = y.toNat ∧ m' = (fun z => if z = Str.ofString "one" then some (.int y ty) else mm4 z) ∧ news = (I, it) :: (lf, W.listOf dv.toArray ed) :: (lo, W.listOf ov.toArray eo) :: (D, W.listOf ys.toArray ep) :: (s₁.heap.objs.size + 1 + 1 + 1 + 1, oR) :: (s₁.heap.objs.size + 1 + 1 + 1, oB) :: (s₁.heap.objs.size + 1 + 1, oL) :: (s₁.heap.objs.size + 1, oN) :: TB6) F4' N4 ?start ?turn
        case start =>
          refine' ⟨x, tx, hx1, hx12, rfl, rfl, ?s1, rfl⟩
          funext z
          by_cases hz : z = Str.ofString "one"
          · rw [if_pos hz, hm4]; dsimp only; rw [if_pos hz]
          · rw [if_neg hz]
        case turn =>
          rintro n m' news h2 tk2 F5 N5 ⟨y, ty, q1, q2, q3, rfl, rfl, rfl⟩
          subst hm4
          clear F4 F4' N4
          try dsimp only
          try k_fold
          k_steps
          · rename_i he h6 F6 N6
            have hs := odd_step q1 q2 he
            refine' ⟨_, _, _, _, (y.fdiv 2).toNat, rfl, F6, N6, hs.2.2.2, y.fdiv 2, _, hs.1, hs.2.1, hs.2.2.1.trans q3, rfl, ?s2, rfl⟩
            case s2 =>
              funext z
              by_cases hz : z = Str.ofString "one"
              · rw [if_pos hz, if_pos hz]
              · simp only [hz, if_false]
          · rename_i he tk7 h7 F7 N7
            have q4 := odd_end q1 q2 he
            rw [q3] at q4
            rw [List.push_toArray] at N7
            have k7 : IntsAre (ov ++ [Value.int y ty]) ((pre ++ [x]).map oddP) := by
              rw [List.map_append]
              refine k3.append ?_
              rw [List.map_cons, q4]
              exact .cons _ _ .nil
            show UnrEnd _ _ _ _ _ _ _
            refine' UnrEnd.intro ?uF N7 ((lf, W.listOf dv.toArray ed) :: (lo, W.listOf (ov ++ [Value.int y ty]).toArray (eo + 1)) :: (D, W.listOf ys.toArray ep) :: (s₁.heap.objs.size + 1 + 1 + 1 + 1, oR) :: (s₁.heap.objs.size + 1 + 1 + 1, oB) :: (s₁.heap.objs.size + 1 + 1, oL) :: (s₁.heap.objs.size + 1, oN) :: TB6) ?u1 ?u2 ⟨.head _, _, pre ++ [x], rs', ov ++ [Value.int y ty], eo + 1, k5, k6, k7, ?u6, rfl⟩
            case uF => k_asm
            case u1 => k_dflt (have loc9 : LocM := True.intro; (repeat' (first | exact subNil | (refine' subCons ?_ ?_) | (refine' subApp ?_ ?_) | k_mem | (intro p9 hp9; k_mem))))
            case u2 => exact neCons (Nat.ne_of_lt hI1.1) (neCons (Nat.ne_of_lt hI1.2.1) (neCons (Nat.ne_of_lt hI1.2.2.1) (neCons (Nat.ne_of_lt hI1.2.2.2.1) (neCons (Nat.ne_of_lt hI1.2.2.2.2.1) (neCons (Nat.ne_of_lt hI1.2.2.2.2.2.1) (neCons (Nat.ne_of_lt hI1.2.2.2.2.2.2.1) (neAll hI1.2.2.2.2.2.2.2)))))))
            case u6 =>
              refine norm1 ?_
              intro y h1
              simp only [h1, if_false]
      case done =>
        rintro m news h tk ⟨u, pre, rs, ov, eo, k1, k2, k3, rfl, rfl⟩ F4 N4
        have k4 := IntsAre.nil_inv' k1
        subst k4
        rw [List.append_nil] at k2
        subst k2
        subst hmm
        w_top off
        clear N30 hI
        have hm : HaltComp := True.intro
        have hov : ov.length = ds.length := by have := k3.length; rw [List.length_map] at this; exact this
        try dsimp only
        try k_fold
        k_steps
        refine Hold.on ?_
        rename HaltComp => hm
        clear hm
        k_dflt (refine LCg.ListComp_U (F₀ := by k_asm) (by rfl) (by decide) (by rfl) (by decide) (by rfl) ?_)
        k_steps
        refine Hold.on ?_
        k_dflt (refine LCg.CompSrc.ledger (its := ov.toArray) (k := eo) rfl F4 N4 (.tail _ (.head _)) ?ksz ?_)
        case ksz => rw [List.size_toArray, hov, hdl]; have : sizeLine = 16777216 := by decide
                    omega
        intro g9
        refine comp_ind (n := ov.toArray.size) (J := fun i ys' news => ∃ es : List Pr, ys' = es.map Pr.ref ∧ es.map (·.r) = (ds.map oddP).take i ∧ news = es.map Pr.ent ++ ((lf, W.listOf dv.toArray ed) :: (lo, W.listOf ov.toArray eo) :: (D, W.listOf ys.toArray ep) :: (s₁.heap.objs.size + 1 + 1 + 1 + 1, oR) :: (s₁.heap.objs.size + 1 + 1 + 1, oB) :: (s₁.heap.objs.size + 1 + 1, oL) :: (s₁.heap.objs.size + 1, oN) :: TB6)) ?done ?turn _ _ _ _ (Nat.zero_add _) ⟨[], rfl, rfl, rfl⟩
        case turn =>
          rintro i ys' news v Ic oI Cc oC Dc m₂ h9 tk9 E9 hi9 ⟨es, rfl, hes, rfl⟩ hv hoC hmx F9 N9 o9 ne9
          obtain ⟨x, tx, rfl, hx⟩ := k3.at i v (by simpa using hv)
          try dsimp only
          try k_fold
          k_steps
          rename_i P9 h9b F9b N9b l9
          have hnew : ∀ p ∈ (es ++ [Pr.mk P9 x 1 tx tk9]).map Pr.ent ++ ((lf, W.listOf dv.toArray ed) :: (lo, W.listOf ov.toArray eo) :: (D, W.listOf ys.toArray ep) :: (s₁.heap.objs.size + 1 + 1 + 1 + 1, oR) :: (s₁.heap.objs.size + 1 + 1 + 1, oB) :: (s₁.heap.objs.size + 1 + 1, oL) :: (s₁.heap.objs.size + 1, oN) :: TB6), p = (P9, { cls := .type "tuple", data := .seq #[.int x tx, .int 1 tk9] }) ∨ p ∈ es.map Pr.ent ++ ((lf, W.listOf dv.toArray ed) :: (lo, W.listOf ov.toArray eo) :: (D, W.listOf ys.toArray ep) :: (s₁.heap.objs.size + 1 + 1 + 1 + 1, oR) :: (s₁.heap.objs.size + 1 + 1 + 1, oB) :: (s₁.heap.objs.size + 1 + 1, oL) :: (s₁.heap.objs.size + 1, oN) :: TB6) := by
            intro p hp
            rw [List.map_append, List.append_assoc] at hp
            rcases List.mem_append.mp hp with hp | hp
            · exact .inr (List.mem_append_left _ hp)
            · rcases List.mem_append.mp hp with hp | hp
              · rw [List.map_cons, List.map_nil, List.mem_singleton] at hp
                exact .inl hp
              · exact .inr (List.mem_append_right _ hp)
          show LCg.CompEnd _ _ _ _ _ _ _ _ _ _ _ _ _ _
          refine LCg.CompEnd.intro F9b N9b ((es ++ [Pr.mk P9 x 1 tx tk9]).map Pr.ent ++ ((lf, W.listOf dv.toArray ed) :: (lo, W.listOf ov.toArray eo) :: (D, W.listOf ys.toArray ep) :: (s₁.heap.objs.size + 1 + 1 + 1 + 1, oR) :: (s₁.heap.objs.size + 1 + 1 + 1, oB) :: (s₁.heap.objs.size + 1 + 1, oL) :: (s₁.heap.objs.size + 1, oN) :: TB6)) (subCons (.tail _ (.head _)) (subCons (.tail _ (.tail _ (.head _))) (subCons (.tail _ (.tail _ (.tail _ (.head _)))) (fun p hp => (hnew p hp).elim (fun e => e ▸ .head _) (fun q => .tail _ (.tail _ (.tail _ (.tail _ q)))))))) (LCg.Off3.of fun p hp => (hnew p hp).elim (fun e => ?koff) (fun q => o9.mem p q)) ?ksrc ⟨es ++ [Pr.mk P9 x 1 tx tk9], ?kr1, ?kr2, rfl⟩
          case koff =>
            subst e
            exact ⟨Nat.ne_of_gt l9.1, Nat.ne_of_gt l9.2.1, Nat.ne_of_gt l9.2.2.1⟩
          case ksrc => exact .inr ⟨_, List.mem_append_right _ (.tail _ (.head _)), rfl, _, rfl⟩
          case kr1 => rw [List.map_append]; rfl
          case kr2 => rw [List.map_append, hes, List.take_succ, hx]; rfl
        case done =>
          rintro ys' news ⟨es, rfl, hes, rfl⟩ Dc h9 tk9 F9 N9 o9
          rw [List.size_toArray, hov, List.take_of_length_le (by rw [List.length_map]; exact Nat.le_refl _)] at hes
          w_top off
          clear N4 F4
          try dsimp only
          try k_fold
          (with_reducible conv => whnf)
          k_steps
          refine Hold.on ?_
          have hel : es.length = ds.length := by have := congrArg List.length hes; rw [List.length_map, List.length_map] at this; exact this
          have hel2 : es.length ≤ sizeLine := by rw [sizeLine_eq]; omega
          refine call_dict_pairs rfl (N9 _ (.head _)).1 (fun e he => (N9 _ (.tail _ (List.mem_append_left _ (List.mem_map_of_mem he)))).1) hel2 ?_
          intro h10 tk10 hD10 hk10
          have F10 := F9.keeps hk10
          have hnd := F9.notModules (modules_low (Top.nolimit (by k_asm)))
          have N10 := N9.grown hk10
          have N11 := News.less (k := (lf, W.listOf dv.toArray ed) :: (lo, W.listOf ov.toArray eo) :: (D, W.listOf ys.toArray ep) :: (s₁.heap.objs.size + 1 + 1 + 1 + 1, oR) :: (s₁.heap.objs.size + 1 + 1 + 1, oB) :: (s₁.heap.objs.size + 1 + 1, oL) :: (s₁.heap.objs.size + 1, oN) :: TB6) N10 (fun p hp => .tail _ (List.mem_append_right _ hp))
          have hll : (laid es).length ≠ ds.length := by
            rw [laid_len, hes]
            have := hole
            unfold Mine.hole at this
            simp only [Bool.and_eq_true, bne_iff_ne, ne_eq] at this
            exact this.1.1.1
          have hl7 : (laid es).length ≤ 7 := by rw [laid_len, hes]; have := once_le _ (ds.map oddP) rfl; rw [List.length_map] at this; omega
          clear N10 N9 F9 hk10 o9
          have hm : HaltLen := True.intro
          try dsimp only
          try k_fold
          k_steps
          refine Hold.on ?_
          rename HaltLen => hm
          clear hm
          refine call_len_dict hnd hD10 (by omega) ?_
          try dsimp only
          try k_fold
          clear hD10
          iterate 9 (first | walk1 | (dsimp only; walk1))
          rw [show (((laid es).length : Int) == ((List.map oddP ds).length : Int)) = false from by rw [List.length_map, beq_eq_false_iff_ne]; omega]
          have hm : HaltComp := True.intro
          k_steps
          refine Hold.on ?_
          rename HaltComp => hm
          clear hm
          clear hll hl7 hel hel2 hes hov k3
          w_top off
          try dsimp only
          try k_fold
          (with_reducible show wpAny _ _ (eval (twoFor _ _ _ (.Name _ _) (.Name _ _) _ _ _) _) _ _ _)
          refine' ListComp_2 ?k0 ?k1 ?k2 ?k3 ?k4 ?k5 ?k6 ?k7 ?k8 ?k9 ?k10
          case k0 => k_asm
          case k1 => exact rfl
          case k2 => decide
          case k3 => rfl
          case k4 => decide
          case k5 => rfl
          case k6 => rfl
          case k7 => decide
          case k8 => exact fun _ => rfl
          case k9 => exact fun _ _ => rfl
          case k10 =>
            k_steps
            refine Hold.on ?_
            have hd7 : ds.length ≤ 7 := by omega
            refine ⟨lf, ed, dv.toArray, (lf, W.listOf dv.toArray ed) :: (lo, W.listOf ov.toArray eo) :: (D, W.listOf ys.toArray ep) :: (s₁.heap.objs.size + 1 + 1 + 1 + 1, oR) :: (s₁.heap.objs.size + 1 + 1 + 1, oB) :: (s₁.heap.objs.size + 1 + 1, oL) :: (s₁.heap.objs.size + 1, oN) :: TB6, (fun i j zs nw => ∃ (TB : List (Addr × Obj)) (c : Nat), TabsOk TB ∧ IntsAre zs (List.replicate c 1) ∧ Found ds i j c ∧ nw = (lf, W.listOf dv.toArray ed) :: (lo, W.listOf ov.toArray eo) :: (D, W.listOf ys.toArray ep) :: (s₁.heap.objs.size + 1 + 1 + 1 + 1, oR) :: (s₁.heap.objs.size + 1 + 1 + 1, oB) :: (s₁.heap.objs.size + 1 + 1, oL) :: (s₁.heap.objs.size + 1, oN) :: TB), rfl, rfl, ?keep, ?len, F10, N11, ⟨TB6, 0, hTB6, .nil, Found.start ds, rfl⟩, ?hit2, ?turn, ?next, ?done⟩
            case keep => rintro i j zs nw ⟨TB, c, _, _, _, rfl⟩; exact .head _
            case len =>
              rintro i j zs nw ⟨TB, c, _, h1, h2, rfl⟩
              have h3 := h1.length
              have h4 := h2.i7
              have h5 := h2.j7
              have h6 := h2.le
              rw [List.length_replicate] at h3
              rw [sizeLine_eq]; omega
            case next =>
              rintro i zs nw hi ⟨TB, c, h1, h2, h3, rfl⟩
              rw [List.size_toArray, hlv] at hi h3
              exact ⟨TB, c, h1, h2, h3.next hi hd7, rfl⟩
            case hit2 =>
              rintro i zs nw I oI C oC Dz m₂ hz tkz E' hi ⟨TB, c, h1, h2, h3, rfl⟩ hoC Fz Nz
              k_steps
            case turn =>
              rintro i j zs nw v₁ v₂ I oI I2 oI2 C oC Dz m₂ hz tkz E' hv1 hv2 ⟨TB, c, h1, h2, h3, rfl⟩ hoC hmx hmy Fz Nz offz nez
              w_top off
              obtain ⟨y0, ty, rfl, hy0⟩ := i2.at j v₂ (by simpa using hv2)
              obtain ⟨x0, tx, rfl, hx0⟩ := i2.at i v₁ (by simpa using hv1)
              have hxr := hrg x0 (List.mem_of_getElem? hx0)
              have hyr := hrg y0 (List.mem_of_getElem? hy0)
              clear N11 F10 hv1 hv2
              try dsimp only
              try k_fold
              refine wpAny_tests_one ?_
              k_steps
              · rename_i hxy cE
                refine Hold.on ?_
                have N17 := News.less (k := [(I2, oI2), (I, oI), (C, oC), (Dz, LCg.lst zs), (lf, W.listOf dv.toArray ed), (lo, W.listOf ov.toArray eo), (D, W.listOf ys.toArray ep), (s₁.heap.objs.size + 1 + 1 + 1 + 1, oR), (s₁.heap.objs.size + 1 + 1 + 1, oB), (s₁.heap.objs.size + 1 + 1, oL), (s₁.heap.objs.size + 1, oN)] ++ TB) Nz (by k_dflt (have loc9 : LocM := True.intro; (repeat' (first | exact subNil | (refine' subCons ?_ ?_) | (refine' subApp ?_ ?_) | k_mem | (intro p9 hp9; k_mem)))))
                have hTs : ∀ p ∈ TB, p ∈ [(I2, oI2), (I, oI), (C, oC), (Dz, LCg.lst zs), (lf, W.listOf dv.toArray ed), (lo, W.listOf ov.toArray eo), (D, W.listOf ys.toArray ep), (s₁.heap.objs.size + 1 + 1 + 1 + 1, oR), (s₁.heap.objs.size + 1 + 1 + 1, oB), (s₁.heap.objs.size + 1 + 1, oL), (s₁.heap.objs.size + 1, oN)] ++ TB := fun p hp => List.mem_append_right _ hp
                have hTw : ∀ p ∈ TB, p.1 ≠ I2 ∧ p.1 ≠ I ∧ p.1 ≠ C ∧ p.1 ≠ Dz := fun p hp => offz p (.tail _ (.tail _ (.tail _ (.tail _ (.tail _ (.tail _ (.tail _ hp)))))))
                have hkr : ∀ p ∈ [(I2, oI2), (I, oI), (C, oC), (Dz, LCg.lst zs), (lf, W.listOf dv.toArray ed), (lo, W.listOf ov.toArray eo), (D, W.listOf ys.toArray ep), (s₁.heap.objs.size + 1 + 1 + 1 + 1, oR), (s₁.heap.objs.size + 1 + 1 + 1, oB), (s₁.heap.objs.size + 1 + 1, oL), (s₁.heap.objs.size + 1, oN)], p.1 ∉ TB.map (·.1) := awayCons (fun p hp => (hTw p hp).1) (awayCons (fun p hp => (hTw p hp).2.1) (awayCons (fun p hp => (hTw p hp).2.2.1) (awayCons (fun p hp => (hTw p hp).2.2.2)
                  (awayCons (ne_airy N17 (by k_mem) (fun vs h => by cases h) h1.airy hTs) (awayCons (ne_airy N17 (by k_mem) (fun vs h => by cases h) h1.airy hTs) (awayCons (ne_airy N17 (by k_mem) (fun vs h => by cases h) h1.airy hTs)
                  (awayCons (ne_airy N17 (by k_mem) (fun vs h => by rw [dR] at h; cases h) h1.airy hTs) (awayCons (ne_airy N17 (by k_mem) (fun vs h => by rw [dB] at h; cases h) h1.airy hTs) (awayCons (ne_airy N17 (by k_mem) (fun vs h => by rw [j2] at h; cases h) h1.airy hTs) (awayCons (ne_airy N17 (by k_mem) (fun vs h => by rw [dN] at h; cases h) h1.airy hTs) awayNil))))))))))
                k_dflt (refine' Con.use (rest := [(I2, oI2), (I, oI), (C, oC), (Dz, LCg.lst zs), (lf, W.listOf dv.toArray ed), (lo, W.listOf ov.toArray eo), (D, W.listOf ys.toArray ep), (s₁.heap.objs.size + 1 + 1 + 1 + 1, oR), (s₁.heap.objs.size + 1 + 1 + 1, oB), (s₁.heap.objs.size + 1 + 1, oL), (s₁.heap.objs.size + 1, oN)]) (idm_con w y0 x0 _ _ TB h1 (by omega) (by omega) (by omega) (by omega)) ?k1 ?k2 ?k3 ?k4 ?k5 ?k6 ?k7 ?k8 True.intro hkr ?_)
                (case k1 => k_asm); (case k2 => k_asm); (case k3 => k_asm); (case k5 => k_asm); (case k6 => first | exact rfl | assumption); (case k7 => first | decide | ((try unfold recursionLimit); decide) | (simp [recursionLimit]; done)); (case k8 => first | decide | ((try unfold cLine); decide) | (simp [cLine]; done))
                (case k4 => exact N17)
                intro r3 T3 h30 tk30 F11 N11 P11 st11 sz11 lt11
                obtain ⟨l3, q3, t31, t32, TB3, hz3, rfl, hTB3, hnw3, rfl⟩ := P11
                have lI2 : @LT.lt Nat _ I2 _ := lt11 _ (.head _)
                have lI : @LT.lt Nat _ I _ := lt11 _ (.tail _ (.head _))
                have lC : @LT.lt Nat _ C _ := lt11 _ (.tail _ (.tail _ (.head _)))
                have lDz : @LT.lt Nat _ Dz _ := lt11 _ (.tail _ (.tail _ (.tail _ (.head _))))
                have off3 : ∀ p ∈ [(lf, W.listOf dv.toArray ed), (lo, W.listOf ov.toArray eo), (D, W.listOf ys.toArray ep), (s₁.heap.objs.size + 1 + 1 + 1 + 1, oR), (s₁.heap.objs.size + 1 + 1 + 1, oB), (s₁.heap.objs.size + 1 + 1, oL), (s₁.heap.objs.size + 1, oN)] ++ TB3, p.1 ≠ I2 ∧ p.1 ≠ I ∧ p.1 ≠ C ∧ p.1 ≠ Dz := fun p hp => (List.mem_append.mp hp).elim (fun q => offz p (List.mem_append_left TB q))
                  fun q => ⟨hnw3.ne (fun p hp => (hTw p hp).1) lI2 p q, hnw3.ne (fun p hp => (hTw p hp).2.1) lI p q, hnw3.ne (fun p hp => (hTw p hp).2.2.1) lC p q, hnw3.ne (fun p hp => (hTw p hp).2.2.2) lDz p q⟩
                have N12 := News.less (k := (l3, _) :: (I2, oI2) :: (I, oI) :: (C, oC) :: (Dz, LCg.lst zs) ::  ([(lf, W.listOf dv.toArray ed), (lo, W.listOf ov.toArray eo), (D, W.listOf ys.toArray ep), (s₁.heap.objs.size + 1 + 1 + 1 + 1, oR), (s₁.heap.objs.size + 1 + 1 + 1, oB), (s₁.heap.objs.size + 1 + 1, oL), (s₁.heap.objs.size + 1, oN)] ++ TB3)) N11 (by k_dflt (have loc9 : LocM := True.intro; (repeat' (first | exact subNil | (refine' subCons ?_ ?_) | (refine' subApp ?_ ?_) | k_mem | (intro p9 hp9; k_mem)))))
                clear N11 N17 hTs hTw hkr st11 sz11 lt11 lI2 lI lC lDz hz3 hnw3 Nz Fz offz
                try dsimp only
                try k_fold
                k_steps
                · rename_i hrest
                  show End2 _ _ _ _ _ _ _ _ _ _ _ _ _ _
                  refine End2.intro F11 N12 ([(lf, W.listOf dv.toArray ed), (lo, W.listOf ov.toArray eo), (D, W.listOf ys.toArray ep), (s₁.heap.objs.size + 1 + 1 + 1 + 1, oR), (s₁.heap.objs.size + 1 + 1 + 1, oB), (s₁.heap.objs.size + 1 + 1, oL), (s₁.heap.objs.size + 1, oN)] ++ TB3) (fun p hp => .tail _ hp) off3 ⟨TB3, c + 1, hTB3, ?_, h3.yes hy0, rfl⟩
                  rw [List.replicate_succ']
                  exact h2.append (.cons _ _ .nil)
                · rename_i hrest
                  show End2 _ _ _ _ _ _ _ _ _ _ _ _ _ _
                  exact End2.intro F11 N12 ([(lf, W.listOf dv.toArray ed), (lo, W.listOf ov.toArray eo), (D, W.listOf ys.toArray ep), (s₁.heap.objs.size + 1 + 1 + 1 + 1, oR), (s₁.heap.objs.size + 1 + 1 + 1, oB), (s₁.heap.objs.size + 1 + 1, oL), (s₁.heap.objs.size + 1, oN)] ++ TB3) (fun p hp => .tail _ hp) off3 ⟨TB3, c, hTB3, h2, h3.no hx0 hy0 (fun q => hrest q.2), rfl⟩
              · rename_i hxy
                show End2 _ _ _ _ _ _ _ _ _ _ _ _ _ _
                exact End2.intro Fz Nz ([(lf, W.listOf dv.toArray ed), (lo, W.listOf ov.toArray eo), (D, W.listOf ys.toArray ep), (s₁.heap.objs.size + 1 + 1 + 1 + 1, oR), (s₁.heap.objs.size + 1 + 1 + 1, oB), (s₁.heap.objs.size + 1 + 1, oL), (s₁.heap.objs.size + 1, oN)] ++ TB) (fun p hp => hp) offz ⟨TB, c, h1, h2, h3.no hx0 hy0 (fun q => hxy q.1), rfl⟩
            case done =>
              rintro zs nw Dz hz tkz ⟨TB, c, h1, h2, h3, rfl⟩ Fz Nz offz
              rw [List.size_toArray, hlv] at h3
              have hc := h3.met (seen_end hole)
              w_top off
              clear N11 F10
              try dsimp only
              try k_fold
              (with_reducible conv => whnf)
              k_steps
              refine Hold.on ?_
              rename_i ln hn Fn Nn l1n
              refine eq_intsK (vs := zs) (us := []) (ns := List.replicate c 1) (ms := []) ⟨_, (Nn _ (.tail _ (.head _))).1, rfl, _, rfl⟩ h2 ⟨_, (Nn _ (.head _)).1, rfl, _, rfl⟩ .nil (by units_room) ?_
              rw [decide_eq_false (by intro q; have := congrArg List.length q; rw [List.length_replicate, List.length_nil] at this; omega)]
              have N40 := News.less (k := (lf, W.listOf dv.toArray ed) :: (lo, W.listOf ov.toArray eo) :: (D, W.listOf ys.toArray ep) :: (s₁.heap.objs.size + 1 + 1 + 1 + 1, oR) :: (s₁.heap.objs.size + 1 + 1 + 1, oB) :: (s₁.heap.objs.size + 1 + 1, oL) :: (s₁.heap.objs.size + 1, oN) :: TB) Nn (by k_dflt (have loc9 : LocM := True.intro; (repeat' (first | exact subNil | (refine' subCons ?_ ?_) | (refine' subApp ?_ ?_) | k_mem | (intro p9 hp9; k_mem)))))
              clear Nn l1n offz h2 h3 hc
              have hm : HaltComp := True.intro
              try dsimp only
              try k_fold
              k_steps
              refine Hold.on ?_
              rename HaltComp => hm
              clear hm
              k_dflt (refine' compRange (fun k => decide (ds.getD k.toNat 0 - ds.getD (k - 1).toNat 0 = 1)) (fun k => PyData.int k) ?kF rfl rfl (by decide) rfl (by decide) rfl (fun _ => rfl) ?_)
              (case kF => k_asm)
              try dsimp only
              try k_fold
              k_steps
              rename_i hR8 tkR t1R u1R v1R iR FR NR kR
              refine Hold.on ?_
              k_dflt (refine' ⟨_, _, _, _, _, _, _, _, ds.length - 1, rfl, iR, small_one (by decide) (by decide) (by omega) (by omega), ?r1, ?r2, FR, NR, ?r3, ?r4, ?r5⟩)
              case r1 => rw [rangeSize_nat]; omega
              case r2 => rw [sizeLine_eq]; omega
              case r3 =>
                intro C a v s₃ m₂ E' hC ha hv2 hns2 hm2 hkeep
                obtain ⟨tv, rfl⟩ := hv2
                obtain ⟨hb0, hb1⟩ := mem_rangeInts ha
                have hb2 : a < ds.length := by omega
                k_steps
                exact ⟨_, _, rfl, fun _ _ e => e⟩
              case r4 =>
                intro C a v s₃ m₂ E' hC ha hv2 hp hns2 hm2 hkeep
                obtain ⟨tv, rfl⟩ := hv2
                k_steps
                · exact .int _ _
                · exact ⟨_, _, rfl, fun _ _ e => e⟩
              case r5 =>
                intro D2 ys2 h7 tk7 F7 N7 hfr hl7 hpl hca
                w_top off
                have i7 := carried_ints (g := fun k => k) hca
                have hne := near_some hole
                obtain ⟨ep2, N8, ne8⟩ := newsPlain F7 N7 hpl hfr
                clear hca hl7 hpl N7 FR NR iR kR
                try dsimp only
                try k_fold
                (with_reducible conv => whnf)
                k_steps
                refine Hold.on ?_
                rename_i ln2 hn2 Fn2 Nn2 l1n2
                refine eq_intsK (News.isList Nn2 (.tail _ (.head _))) i7 (News.isList Nn2 (.head _)) .nil (by units_room) ?_
                rw [decide_eq_false hne]
                have N50 := News.less (k := (lf, W.listOf dv.toArray ed) :: (lo, W.listOf ov.toArray eo) :: (D, W.listOf ys.toArray ep) :: (s₁.heap.objs.size + 1 + 1 + 1 + 1, oR) :: (s₁.heap.objs.size + 1 + 1 + 1, oB) :: (s₁.heap.objs.size + 1 + 1, oL) :: (s₁.heap.objs.size + 1, oN) :: TB) Nn2 (by k_dflt (have loc9 : LocM := True.intro; (repeat' (first | exact subNil | (refine' subCons ?_ ?_) | (refine' subApp ?_ ?_) | k_mem | (intro p9 hp9; k_mem)))))
                clear Nn2 l1n2 ne8 i7 hne
                have hm : HaltComp := True.intro
                try dsimp only
                try k_fold
                k_steps
                refine Hold.on ?_
                rename HaltComp => hm
                clear hm
                k_dflt (refine' compList (fun x => ds.any fun y => y == 2 * (3 + cnt) + 1 - x) (fun x => PyData.int x) ?kF rfl rfl (by decide) rfl (by decide) rfl (fun _ => rfl) ?_)
                (case kF => k_asm)
                try dsimp only
                try k_fold
                k_steps
                refine Hold.on ?_
                k_dflt (refine' ⟨_, lf, dv, ds, rfl, News.isList N50 (.head _), i2.areOf, ?r2, ?rF, N50, ?r3, ?r4, ?r5⟩)
                case rF => k_asm
                case r2 => rw [sizeLine_eq]; omega
                case r3 =>
                  intro C a v s₃ m₂ E' hC ha hv2 hns2 hm2 hkeep
                  obtain ⟨tv, rfl⟩ := hv2
                  k_steps
                  exact ⟨_, _, rfl, fun _ _ e => e⟩
                case r4 =>
                  intro C a v s₃ m₂ E' hC ha hv2 hp hns2 hm2 hkeep
                  obtain ⟨tv, rfl⟩ := hv2
                  k_steps
                  · exact .int _ _
                  · exact ⟨_, _, rfl, fun _ _ e => e⟩
                case r5 =>
                  intro D3 ys3 h7 tk7 F7 N7 hfr hl7 hpl hca
                  have i7 := carried_ints (g := fun k => k) hca
                  obtain ⟨ep3, N8, ne8⟩ := newsPlain F7 N7 hpl hfr
                  have hne : (ds.filter fun x => ds.any fun y => y == 2 * (3 + cnt) + 1 - x).map (fun k => k) ≠ [] := by
                    unfold Mine.hole at hole
                    simp only [Bool.and_eq_true] at hole
                    obtain ⟨x, hx, h3⟩ := List.any_eq_true.mp hole.2
                    intro q
                    have hm : x ∈ ds.filter fun x => ds.any fun y => y == 2 * (3 + cnt) + 1 - x := by
                      refine List.mem_filter.mpr ⟨hx, List.any_eq_true.mpr ⟨_, List.contains_iff_mem.mp h3, ?_⟩⟩
                      rw [beq_iff_eq]; omega
                    rw [List.map_eq_nil_iff.mp q] at hm
                    cases hm
                  clear hca hl7 hpl N7 hole
                  try dsimp only
                  try k_fold
                  (with_reducible conv => whnf)
                  k_steps
                  rename_i ln3 hn3 Fn3 Nn3 l1n3
                  refine Hold.on ?_
                  refine ne_intsK (News.isList Nn3 (.tail _ (.head _))) i7 (News.isList Nn3 (.head _)) .nil (by units_room) ?_
                  rw [decide_eq_false hne]
                  try dsimp only
                  try k_fold
                  walk1
                  · dsimp only [Bool.not_false]
                    exact goodW_bool (b := true) Fn3 hg (claim_raises xs) (claim_post xs)
                  · exact h1.grown Nn3 (fun p hp => .tail _ (.tail _ (.tail _ (.tail _ (.tail _ (.tail _ (.tail _ (.tail _ (.tail _ hp)))))))))
end Mine
end
end

theorem PySem.Challenge.cw_hr0002_01_holds : PySem.Challenge.rw_hr0002_01.Holds :=
  Mine.law_holds
