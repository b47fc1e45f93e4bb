import PyProof.Rows.All
import Wide.All
import OpenK.AllK
import Wide.FinOn
import PySem.Challenge.RW_tv0023_01
set_option Elab.async false
set_option linter.all false
set_option maxRecDepth 100000
local macro_rules | `(tactic| k_room) => `(tactic| k_extra "my room")
section SH1
open PySem PySem.W PyProof.Rows
namespace Mine
set_option maxHeartbeats 8000000
open_top hd for PySem.Challenge.rw_tv0023_01
end Mine
end SH1
section SP0
open PySem PySem.W PyProof.Rows PySem.Calls PySem.Spec
namespace Mine
theorem top_off_P0 : True := by
  w_top off
  trivial
noncomputable abbrev LL : List Str := looseW hd.view_39 [Str.ofString "UTC_ZONES", Str.ofString "TIMEZONE_RE", Str.ofString "_filemode_table"]
theorem enterG {prog : Program} {w : World} {A A₀ : Around} {s : Shared} {K : Frag} {L : Addr} {h₀ base : Heap} {m mg mb : Str → Option Value} {p : Program} {loose : List Str} {mean : ExcName → Option Value} {news : List (Addr × Obj)}
    {env : Env} {outer : List Env} {R : Result → Shared → Prop} {name qual : Str} {params : Arguments} {body : List Stmt} {scope : Scope} {dV kV doc pm cdv ct oc : Value} {an od : Option Addr} {osl : Array (Option Value)} {f : Addr} {args : Args} {binds : List (Str × Value)}
    (B : Below A₀ base outer h₀) (F : Fr h₀ L s.heap m) (X₀ : K.In h₀) (N : News h₀ L s.heap news) (T : Top p loose mean mg mb h₀) (hA : A.frames = some (env :: outer)) (hf : env.frame = some L) (hke : env.scope.kind = .function)
    (ho : K.lookup f = some ⟨oc, od, .func (fnOf name qual params body scope dV kV doc pm an cdv ct), osl⟩) (hcd : codeIn K cdv qual = true) (hroom : A.depth < recursionLimit)
    (hbind : BindsTo s (fnOf name qual params body scope dV kV doc pm an cdv ct) args binds) (hloc : ∀ y ∈ binds, scope.names.lookup y.1 = some .local)
    (h : ∀ g L' h₁, g = hideAll s.heap (news.map (·.1)) → Fr h₀ L g m → Fr g L' h₁ (fun y => binds.reverse.lookup y) → News g L' h₁ news → Below A base (env :: outer) g → K.In g → Top p loose mean mg mb g → (∀ p ∈ news, p.1 < L') →
      wpAny (model prog w) (A.deeper (envOf qual scope L' f cdv)) (execs body (envOf qual scope L' f cdv))
        (fun fl s' => R (.ok (.ret (match fl with | .ret v => v | _ => .none))) s')
        (fun e s' => wpAny (model prog w) (A.deeper (envOf qual scope L' f cdv)) (leaving (envOf qual scope L' f cdv) e) (fun _ s'' => R (.error e) s'') (fun e' s'' => R (.error e') s'') s')
        { s with heap := h₁, toks := s.toks + binds.length })
    (hco : scope.isCoroutine = false) (hgen : scope.isGenerator = false) (hk : scope.kind = .function)
    (hcell : ∀ x ∈ scope.names, x.2 ≠ .cell) : codeAny (model prog w) A (.call (.ref f) args) R s := by
  obtain ⟨FG, BG, st, _⟩ := groundX (R := R) B F N hA hf hke
  refine codeAny_call_def (fd := fnOf name qual params body scope dV kV doc pm an cdv ct) (body := body) (binds := binds) hroom ((X₀.keeps F.keep) _ _ ho) rfl ((T.keeps F.keep).nolimit) (codeRec_of (X₀.keeps F.keep) hcd) rfl hbind hcell hloc (fun h₁ hns hk₁ => ?_) hco hgen hk
  exact h _ s.heap.objs.size h₁ rfl FG ⟨hns, fun b o e => hk₁ b o (of_hideAll _ e), Nat.le_of_eq (hideAll_size _ _)⟩
    (fun p hp => ⟨hk₁ _ _ (N p hp).1, Nat.ne_of_lt (Heap.lt_size (N p hp).1), hideAll_none _ (List.mem_map_of_mem hp)⟩) BG (X₀.keeps st) (T.keeps st) (fun p hp => Heap.lt_size (N p hp).1)
theorem keepG {h h' g h₀ : Heap} {L L' : Addr} {m' : Str → Option Value} {news news' : List (Addr × Obj)} (hg : g = hideAll h (news.map (·.1))) (N : News h₀ L h news)
    (F' : Fr g L' h' m') (N' : News g L' h' news') (hs : ∀ p ∈ news, p ∈ news') : ∀ b o, h.get? b = some o → h'.get? b = some o := by
  intro b o e
  by_cases hb : b ∈ news.map (·.1)
  · obtain ⟨p, hp, rfl⟩ := List.mem_map.mp hb
    have h1 := (N p hp).1
    rw [e] at h1
    rw [Option.some.inj h1]
    exact (N' p (hs p hp)).1
  · subst hg
    exact F'.keep b o (hideAll_get _ e hb)
theorem fr_of_keep {h₀ h h' : Heap} {L : Addr} {m : Str → Option Value} (F : Fr h₀ L h m) (k : ∀ b o, h.get? b = some o → h'.get? b = some o) : Fr h₀ L h' m :=
  ⟨F.ns.keeps k, fun b o e => k b o (F.keep b o e), F.above⟩
theorem news_of_keep {h₀ h h' : Heap} {L : Addr} {news : List (Addr × Obj)} (N : News h₀ L h news) (k : ∀ b o, h.get? b = some o → h'.get? b = some o) : News h₀ L h' news :=
  fun p hp => ⟨k _ _ (N p hp).1, (N p hp).2⟩
theorem news_new {h₀ h h' : Heap} {L a : Addr} {o : Obj} {m : Str → Option Value} {news : List (Addr × Obj)} (F : Fr h₀ L h m) (N : News h₀ L h' news) (hn : h.objs.size ≤ a) (ho : h'.get? a = some o) : News h₀ L h' ((a, o) :: news) := by
  intro p hp
  rcases List.mem_cons.mp hp with rfl | hp
  · refine ⟨ho, fun e => ?_, ?_⟩
    · have := F.ns.lt
      rw [← e] at this
      exact absurd hn (Nat.not_le.mpr this)
    · cases q : h₀.get? a with
      | none => rfl
      | some o' => exact absurd hn (Nat.not_le.mpr (Heap.lt_size (F.keep _ _ q)))
  · exact N p hp
theorem fill0 (w : World) (h : Heap) : PySem.Challenge.rw_tv0023_01.writes = false ∨ (hd.heap_39 w.params).In h := by
  k_fill
  exact .inl rfl
noncomputable def PureC (prog : Program) (w : World) (mean : ExcName → Option Value) (mg mb : Str → Option Value) (f : Addr) (vs : List Value) (news : List (Addr × Obj)) (Post : Heap → Heap → Value → Prop) : Prop :=
  ∀ (dp un : Nat) (gd : Option (List Code)) (cn : Str) (cs : Scope) (a : Addr) (ccd : Value) (cl : List (Str × Addr)) (outer : List Env) (A₀ : Around) (base h₀ : Heap) (L : Addr) (m : Str → Option Value) (s : Shared) (Q E : Value → Shared → Prop),
    Below A₀ base outer h₀ → Fr h₀ L s.heap m → (hd.heap_39 w.params).In h₀ → News h₀ L s.heap news → Top hd.view_39 LL mean mg mb h₀ → cs.kind = .function → dp < 500 → un < 200 →
    (∀ v h' tk', (∀ b o, s.heap.get? b = some o → h'.get? b = some o) → Post s.heap h' v → Q v { s with heap := h', toks := tk' }) →
    wpAny (model prog w) (ktrTop dp un gd cn cs L a ccd cl outer) (call (.ref f) vs) Q E s
end Mine
namespace Mine
theorem enterGC {prog : Program} {w : World} {A A₀ : Around} {s : Shared} {K : Frag} {L : Addr} {h₀ base : Heap} {m mg mb : Str → Option Value} {p : Program} {loose : List Str} {mean : ExcName → Option Value} {news : List (Addr × Obj)}
    {env : Env} {outer : List Env} {R : Result → Shared → Prop} {name qual : Str} {params : Arguments} {body : List Stmt} {scope : Scope} {dV kV doc pm cdv ct oc : Value} {an od : Option Addr} {osl : Array (Option Value)} {f : Addr} {args : Args} {binds : List (Str × Value)}
    (B : Below A₀ base outer h₀) (F : Fr h₀ L s.heap m) (X₀ : K.In h₀) (N : News h₀ L s.heap news) (T : Top p loose mean mg mb h₀) (hA : A.frames = some (env :: outer)) (hf : env.frame = some L) (hke : env.scope.kind = .function)
    (ho : K.lookup f = some ⟨oc, od, .func (fnOf name qual params body scope dV kV doc pm an cdv ct), osl⟩) (hcd : codeIn K cdv qual = true) (hroom : A.depth < recursionLimit)
    (hbind : BindsTo s (fnOf name qual params body scope dV kV doc pm an cdv ct) args binds) (hkind : (binds.all fun y => scope.names.lookup y.1 == some .local || scope.names.lookup y.1 == some .cell) = true)
    (hnd : ((cellsFrom 0 scope.names []).map (·.1)).Nodup)
    (h : ∀ g L' h₁ tk cells, g = hideAll s.heap (news.map (·.1)) → Fr h₀ L g m → Fr g L' h₁ (bindL (envOfC qual scope L' f cdv).kindOf binds fun _ => none) → News g L' h₁ (cells ++ news) →
      CellsAre (bindC (envOfC qual scope L' f cdv).kindOf binds fun _ => none) (cellsFrom (L' + 1) scope.names []) cells → Below A base (env :: outer) g → K.In g → Top p loose mean mg mb g → (∀ p ∈ news, p.1 < L') →
      wpAny (model prog w) (A.deeper (envOfC qual scope L' f cdv)) (execs body (envOfC qual scope L' f cdv))
        (fun fl s' => R (.ok (.ret (match fl with | .ret v => v | _ => .none))) s')
        (fun e s' => wpAny (model prog w) (A.deeper (envOfC qual scope L' f cdv)) (leaving (envOfC qual scope L' f cdv) e) (fun _ s'' => R (.error e) s'') (fun e' s'' => R (.error e') s'') s')
        { s with heap := h₁, toks := tk })
    (hco : scope.isCoroutine = false) (hgen : scope.isGenerator = false) (hk : scope.kind = .function) : codeAny (model prog w) A (.call (.ref f) args) R s := by
  obtain ⟨FG, BG, st, _⟩ := groundX (R := R) B F N hA hf hke
  refine codeAny_call_function hroom ((X₀.keeps F.keep) _ _ ho) rfl hco hgen rfl (codeRec_of (X₀.keeps F.keep) hcd) (hbind _ _ _ _ ?_)
  refine wpAny_newFunctionEnv_cells hk (kindsX hkind _) fun env' he s' x => ?_
  subst he
  refine ⟨((T.keeps F.keep).nolimit).keeps x.toInCall.keep, codeAny_func ?_⟩
  obtain ⟨h₁, tk, rfl, _⟩ := x.done
  have hk₁ := x.toInCall.keep
  obtain ⟨cells, NC, Y⟩ := Cl.news (h₀ := s.heap) (Nat.le_refl _) fun n c hm => ⟨x.cell n c (lookup_of_mem_nodup (cellsFrom_names scope.names 0 (s.heap.objs.size + 1) [] [] rfl ▸ hnd) hm), x.above n c hm⟩
  refine h _ s.heap.objs.size h₁ tk cells rfl FG ⟨x.toInCall.ns, fun b o e => hk₁ b o (of_hideAll _ e), Nat.le_of_eq (hideAll_size _ _)⟩ (fun p hp => ?_) Y BG (X₀.keeps st) (T.keeps st) (fun p hp => Heap.lt_size (N p hp).1)
  rcases List.mem_append.mp hp with hp | hp
  · refine ⟨(NC p hp).1, (NC p hp).2.1, ?_⟩
    cases q : (hideAll s.heap (news.map (·.1))).get? p.1 with
    | none => rfl
    | some o => have := of_hideAll _ q; rw [(NC p hp).2.2] at this; cases this
  · exact ⟨hk₁ _ _ (N p hp).1, Nat.ne_of_lt (Heap.lt_size (N p hp).1), hideAll_none _ (List.mem_map_of_mem hp)⟩
end Mine
namespace Mine
theorem freshG {h g : Heap} {L' r : Addr} {h' : Heap} {o : Obj} {news news' : List (Addr × Obj)} (hg : g = hideAll h (news.map (·.1))) (N' : News g L' h' news') (hm : (r, o) ∈ news') (hne : ∀ p ∈ news, p.1 ≠ r) : h.get? r = none := by
  cases q : h.get? r with
  | none => rfl
  | some o' =>
    have h1 := (N' _ hm).2.2
    rw [hg, hideAll_get _ q (fun hb => by obtain ⟨p, hp, e⟩ := List.mem_map.mp hb; exact hne p hp e)] at h1
    cases h1
theorem news_new' {h₀ h h' : Heap} {L a : Addr} {o : Obj} {m : Str → Option Value} {news : List (Addr × Obj)} (F : Fr h₀ L h m) (N : News h₀ L h' news) (hn : h.get? a = none) (ho : h'.get? a = some o) : News h₀ L h' ((a, o) :: news) := by
  intro p hp
  rcases List.mem_cons.mp hp with rfl | hp
  · refine ⟨ho, fun e => ?_, ?_⟩
    · obtain ⟨oL, _, _, hL, _⟩ := F.ns
      rw [← e, hn] at hL; cases hL
    · cases q : h₀.get? a with
      | none => rfl
      | some o' => rw [F.keep _ _ q] at hn; cases hn
  · exact N p hp
theorem divmod_ex {prog : Program} {w : World} {A : Around} {E : Value → Shared → Prop} {s : Shared} {h₀ : Heap} {L : Addr} {m : Str → Option Value} {news : List (Addr × Obj)} {a b : Int} (q : Int) {t u : Tok} {Q : Value → Shared → Prop} (F : Fr h₀ L s.heap m) (N : News h₀ L s.heap news) (hb : 0 < b) (hb2 : b < 1000) (hx : a = q * b)
    (h : ∀ T h', (∀ p ∈ news, p.1 < T) → Fr h₀ L h' m → News h₀ L h' ((T, { cls := .type "tuple", data := .seq #[.int q s.toks, .int 0 (s.toks + 1)] }) :: news) →
      Q (.ref T) { s with toks := s.toks + 1 + 1, heap := h' }) :
    wpAny (model prog w) A (call (.builtin "divmod") [.int a t, .int b u]) Q E s := by
  have e1 : a.fdiv b = q := by rw [hx, Int.mul_fdiv_cancel _ (by omega)]
  have e2 : a.fmod b = 0 := by rw [hx, Int.mul_fmod_left]
  refine divmod_N F N (by omega) (fun h' F' N' => ?_) (Or.inl (PyProof.noPylong_small (by omega)))
  rw [e1, e2] at N'
  exact h _ h' (fun p hp => Heap.lt_size (N p hp).1) F' N'
theorem bit_le {a k : Int} (h0 : 0 ≤ a) (h : (a.fdiv (2 ^ k.toNat)).fmod 2 = 1) : (2 : Int) ^ k.toNat ≤ a := by
  have hp : (0 : Int) < 2 ^ k.toNat := Int.pow_pos (by omega)
  generalize (2 : Int) ^ k.toNat = P at *
  rw [Int.fdiv_eq_ediv_of_nonneg _ (Int.le_of_lt hp)] at h
  by_cases hl : a < P
  · rw [Int.ediv_eq_zero_of_lt h0 hl] at h; cases h
  · omega
theorem pow_pos' (k : Int) : (0 : Int) < 2 ^ k.toNat := Int.pow_pos (by omega)
end Mine
namespace Mine
theorem sub0 {news' : List (Addr × Obj)} : ∀ p ∈ ([] : List (Addr × Obj)), p ∈ news' := fun _ h => nomatch h
theorem subC {q : Addr × Obj} {news news' : List (Addr × Obj)} (h1 : q ∈ news') (h2 : ∀ p ∈ news, p ∈ news') : ∀ p ∈ q :: news, p ∈ news' := fun p hp => by
  rcases List.mem_cons.mp hp with rfl | hp
  · exact h1
  · exact h2 p hp
end Mine
end SP0
section SM1
open PySem PySem.W PyProof.Rows PySem.Calls PySem.Spec
namespace Mine
theorem fdiv_cast (n m : Nat) : (n : Int).fdiv (m : Int) = ((n / m : Nat) : Int) := by
  rw [Int.fdiv_eq_ediv_of_nonneg _ (Int.natCast_nonneg m)]; rfl
theorem fmod_cast (n m : Nat) : (n : Int).fmod (m : Int) = ((n % m : Nat) : Int) := by
  rw [Int.fmod_eq_emod_of_nonneg _ (Int.natCast_nonneg m)]; rfl
theorem bit_cast (n k : Nat) : ((n : Int).fdiv (2 ^ k)).fmod 2 = ((n / 2 ^ k % 2 : Nat) : Int) := by
  have e : (2 : Int) ^ k = ((2 ^ k : Nat) : Int) := by simp
  rw [e, fdiv_cast]
  exact fmod_cast _ 2
theorem bit_iff {who k : Int} {j : Nat} (h0 : 0 ≤ who) (hk : k = 0 + (j : Int)) : ((who.fdiv (2 ^ k.toNat)).fmod 2 = 1) = (who.toNat / 2 ^ j % 2 = 1) := by
  obtain ⟨n, rfl⟩ := Int.eq_ofNat_of_zero_le h0
  have e : k.toNat = j := by omega
  rw [e, bit_cast]
  have e2 : (n : Int).toNat = n := by omega
  rw [e2]
  exact propext ⟨fun h => by omega, fun h => by omega⟩
theorem bit_le' {a k : Int} (h : (a.fdiv (2 ^ k.toNat)).fmod 2 = 1) (h0 : 0 ≤ a) : (2 : Int) ^ k.toNat ≤ a ∧ 0 < (2 : Int) ^ k.toNat := ⟨bit_le h0 h, pow_pos' k⟩
theorem sz_pos {ss : List Int} (h4 : ss = [0,1,1,2,1,2,2,3,1,2,2,3,2,3,3,4]) {k : Int} (h1 : 1 ≤ k) (h2 : k < 16) : 0 < ss.getD k.toNat 0 ∧ ss.getD k.toNat 0 < 1000 := by
  obtain ⟨n, rfl⟩ := Int.eq_ofNat_of_zero_le (show 0 ≤ k by omega)
  have e : ((n : Int)).toNat = n := by omega
  rw [e, h4]
  have hn1 : 1 ≤ n := by omega
  have hn2 : n < 16 := by omega
  revert n
  intro n _ _ _ hn1 hn2
  have : ∀ n, n < 16 → 1 ≤ n → 0 < ([0,1,1,2,1,2,2,3,1,2,2,3,2,3,3,4] : List Int).getD n 0 ∧ ([0,1,1,2,1,2,2,3,1,2,2,3,2,3,3,4] : List Int).getD n 0 < 1000 := by decide
  exact this n hn2 hn1
theorem pow_cast (k : Nat) : ((2 : Int) ^ k) = ((2 ^ k : Nat) : Int) := by simp
noncomputable def inS (pot : Nat → Int) (who : Nat) : Nat → Int
  | 0 => 0
  | k + 1 => inS pot who k + if who / 2 ^ k % 2 = 1 then pot (who - 2 ^ k) else 0
noncomputable def potL (pot : Nat → Int) (n : Nat) : List Int := (List.range n).map pot
theorem potL_succ (pot : Nat → Int) (n : Nat) : potL pot (n + 1) = potL pot n ++ [pot n] := by simp [potL, List.range_succ]
theorem potL_len (pot : Nat → Int) (n : Nat) : (potL pot n).length = n := by simp [potL]
theorem potL_get (pot : Nat → Int) {n k : Nat} (h : k < n) : (potL pot n).getD k 0 = pot k := by simp [potL, h]
theorem j_start {ws : List Int} {pot : Nat → Int} (h : 12 * ws.getD 0 0 = pot 0) : [12 * ws.getD (Int.toNat 0) 0].length = ([] : List Int).length + 1 ∧ [12 * ws.getD (Int.toNat 0) 0] = potL pot (([] : List Int).length + 1) := by
  refine ⟨rfl, ?_⟩
  show [12 * ws.getD 0 0] = potL pot 1
  rw [h]; rfl
theorem j_in0 {x : Int} {pot : Nat → Int} {n : Nat} : x = x + inS pot n ([] : List Int).length := by simp [inS]
theorem j_inN {who k x w : Int} {pre : List Int} {pot : Nat → Int} (hb : (who.fdiv (2 ^ k.toNat)).fmod 2 ≠ 1) (hx : x = w + inS pot who.toNat pre.length) (hk : k = 0 + (pre.length : Int)) (h0 : 0 ≤ who) :
    x = w + inS pot who.toNat (pre ++ [k]).length := by
  have e : (pre ++ [k]).length = pre.length + 1 := by simp
  have hb' : ¬ (who.toNat / 2 ^ pre.length % 2 = 1) := by rw [← bit_iff h0 hk]; exact hb
  rw [e, inS, if_neg hb', hx]; omega
theorem j_inY {who k x w : Int} {pre p : List Int} {pot : Nat → Int} (hb : (who.fdiv (2 ^ k.toNat)).fmod 2 = 1) (hx : x = w + inS pot who.toNat pre.length) (hk : k = 0 + (pre.length : Int)) {n : Nat} (hp : p = potL pot n) (hn : who = (n : Int)) :
    x + p.getD (who - 2 ^ k.toNat).toNat 0 = w + inS pot who.toNat (pre ++ [k]).length := by
  have e : (pre ++ [k]).length = pre.length + 1 := by simp
  have h0 : 0 ≤ who := by omega
  have hb' : who.toNat / 2 ^ pre.length % 2 = 1 := by rw [← bit_iff h0 hk]; exact hb
  have hle := bit_le' hb h0
  have ek : k.toNat = pre.length := by omega
  rw [ek, pow_cast] at hle
  have hi : (who - 2 ^ k.toNat).toNat = who.toNat - 2 ^ pre.length := by rw [ek, pow_cast]; omega
  rw [hi, hp, potL_get pot (by omega), e, inS, if_pos hb', hx]; omega
theorem j_dm {ws ss : List Int} {pot : Nat → Int} (hp : ∀ who, 1 ≤ who → who < 16 → 12 * ws.getD who 0 + inS pot who 4 = pot who * ss.getD who 0) {k x : Int} (hx : x = 12 * ws.getD k.toNat 0 + inS pot k.toNat (rangeKs 0 (4 - 0 : Int).toNat).length) (h1 : 1 ≤ k) (h2 : k < 16) :
    x = pot k.toNat * ss.getD k.toNat 0 := by
  rw [hx, rangeKs_length]
  exact hp _ (by omega) (by omega)
theorem j_out {pot : Nat → Int} {pre p : List Int} {k : Int} (h1 : p = potL pot (pre.length + 1)) (hk : k = 1 + (pre.length : Int)) :
    (p ++ [pot k.toNat]).length = (pre ++ [k]).length + 1 ∧ p ++ [pot k.toNat] = potL pot ((pre ++ [k]).length + 1) := by
  have e : (pre ++ [k]).length = pre.length + 1 := by simp
  have ek : k.toNat = pre.length + 1 := by omega
  rw [e, potL_succ, h1, ek]
  exact ⟨by simp [potL_len], rfl⟩
end Mine
namespace Mine
theorem j_end {vs : List Value} {ns : List Int} {pot : Nat → Int} (h : IntsAre vs ns) (e : ns = potL pot ((rangeKs 1 (16 - 1 : Int).toNat).length + 1)) : IntsAre vs (potL pot 16) := by
  rw [rangeKs_length] at e
  exact e ▸ h
end Mine
namespace Mine
theorem fdiv_sz {prog : Program} {w : World} {A : Around} {E : Value → Shared → Prop} {s : Shared} {a b : Int} {t u : Tok} {Q : Value → Shared → Prop} (hb : 0 < b ∧ b < 1000) (h : Q (.int (a.fdiv b) s.toks) { s with toks := s.toks + 1 }) :
    wpAny (model prog w) A (binaryOp .FloorDiv (.int a t) (.int b u)) Q E s := floordiv_int (by omega) h (Or.inl (PyProof.noPylong_small (by omega)))
theorem mul_left {prog : Program} {w : World} {A : Around} {E : Value → Shared → Prop} {s : Shared} {a b : Int} {t u : Tok} {Q : Value → Shared → Prop} (hb : -1000 ≤ a ∧ a < 1000) (h : Q (.int (a * b) s.toks) { s with toks := s.toks + 1 }) :
    wpAny (model prog w) A (binaryOp .Mult (.int a t) (.int b u)) Q E s := mul_int h (IntMulOk.of_left (intBits_le_64 (by omega) (by omega)))
noncomputable def scF (ss : List Int) (part : Nat) : Int := (if (ss.getD part 0).fmod 2 = 1 then 1 else -1) * (Int.fdiv 12 (ss.getD part 0))
noncomputable def sumS (ws ss : List Int) (who : Nat) : Nat → Int
  | 0 => 0
  | n + 1 => sumS ws ss who n + if Builtin.bitAnd ((n + 1 : Nat) : Int) (who : Int) = ((n + 1 : Nat) : Int) then scF ss (n + 1) * ws.getD (n + 1) 0 else 0
theorem s_in0 {ws ss : List Int} {n : Nat} : (0 : Int) = sumS ws ss n ([] : List Int).length := rfl
theorem s_start {pot : Nat → Int} (h : pot 0 = 0) : ([0] : List Int).length = ([] : List Int).length + 1 ∧ ([0] : List Int) = potL pot (([] : List Int).length + 1) := by
  refine ⟨rfl, ?_⟩
  show ([0] : List Int) = [pot 0]
  rw [h]
theorem sz_all {ss : List Int} (h4 : ss = [0,1,1,2,1,2,2,3,1,2,2,3,2,3,3,4]) (k : Nat) : 0 ≤ Int.fdiv 12 (ss.getD k 0) ∧ Int.fdiv 12 (ss.getD k 0) ≤ 12 := by
  rw [h4]
  by_cases hk : k < 16
  · have : ∀ k, k < 16 → 0 ≤ Int.fdiv 12 (([0,1,1,2,1,2,2,3,1,2,2,3,2,3,3,4] : List Int).getD k 0) ∧ Int.fdiv 12 (([0,1,1,2,1,2,2,3,1,2,2,3,2,3,3,4] : List Int).getD k 0) ≤ 12 := by decide
    exact this k hk
  · have e : ([0,1,1,2,1,2,2,3,1,2,2,3,2,3,3,4] : List Int).getD k 0 = 0 := by
      rw [List.getD_eq_getElem?_getD, List.getElem?_eq_none (by simp; omega)]; rfl
    rw [e]; decide
theorem sc_p {ss : List Int} (h4 : ss = [0,1,1,2,1,2,2,3,1,2,2,3,2,3,3,4]) (k : Nat) : -1000 ≤ 1 * Int.fdiv 12 (ss.getD k 0) ∧ 1 * Int.fdiv 12 (ss.getD k 0) < 1000 := by
  have := sz_all h4 k; omega
theorem sc_m {ss : List Int} (h4 : ss = [0,1,1,2,1,2,2,3,1,2,2,3,2,3,3,4]) (k : Nat) : -1000 ≤ -1 * Int.fdiv 12 (ss.getD k 0) ∧ -1 * Int.fdiv 12 (ss.getD k 0) < 1000 := by
  have := sz_all h4 k; omega
theorem s_eq {who k : Int} {j : Nat} (h0 : 0 ≤ who) (hk : k = 1 + (j : Int)) : (Builtin.bitAnd ((j + 1 : Nat) : Int) (who.toNat : Int) = ((j + 1 : Nat) : Int)) = (Builtin.bitAnd k who = k) := by
  obtain ⟨n, rfl⟩ := Int.eq_ofNat_of_zero_le h0
  have e : ((j + 1 : Nat) : Int) = k := by omega
  have e2 : ((n : Int).toNat : Int) = (n : Int) := by omega
  rw [e, e2]
theorem s_inN {who k x : Int} {pre : List Int} {ws ss : List Int} (hb : Builtin.bitAnd k who ≠ k) (hx : x = sumS ws ss who.toNat pre.length) (hk : k = 1 + (pre.length : Int)) (h0 : 0 ≤ who) :
    x = sumS ws ss who.toNat (pre ++ [k]).length := by
  have e : (pre ++ [k]).length = pre.length + 1 := by simp
  rw [e, sumS, if_neg (by rw [s_eq h0 hk]; exact hb), hx]; omega
theorem s_inY1 {who k x : Int} {pre : List Int} {ws ss : List Int} (hb : Builtin.bitAnd k who = k) (hx : x = sumS ws ss who.toNat pre.length) (hk : k = 1 + (pre.length : Int)) (h0 : 0 ≤ who) (h2 : (ss.getD k.toNat 0).fmod 2 = 1) :
    x + 1 * Int.fdiv 12 (ss.getD k.toNat 0) * ws.getD k.toNat 0 = sumS ws ss who.toNat (pre ++ [k]).length := by
  have e : (pre ++ [k]).length = pre.length + 1 := by simp
  have ek : k.toNat = pre.length + 1 := by omega
  rw [e, sumS, if_pos (by rw [s_eq h0 hk]; exact hb), hx, scF, ← ek, if_pos h2]
theorem s_inY2 {who k x : Int} {pre : List Int} {ws ss : List Int} (hb : Builtin.bitAnd k who = k) (hx : x = sumS ws ss who.toNat pre.length) (hk : k = 1 + (pre.length : Int)) (h0 : 0 ≤ who) (h2 : (ss.getD k.toNat 0).fmod 2 ≠ 1) :
    x + -1 * Int.fdiv 12 (ss.getD k.toNat 0) * ws.getD k.toNat 0 = sumS ws ss who.toNat (pre ++ [k]).length := by
  have e : (pre ++ [k]).length = pre.length + 1 := by simp
  have ek : k.toNat = pre.length + 1 := by omega
  rw [e, sumS, if_pos (by rw [s_eq h0 hk]; exact hb), hx, scF, ← ek, if_neg h2]
theorem s_out {f : Nat → Nat → Int} {pre p : List Int} {k x : Int} (h1 : p = potL (fun n => f n n) (pre.length + 1)) (hk : k = 1 + (pre.length : Int)) (hx : x = f k.toNat (rangeKs 1 (k + 1 - 1).toNat).length) :
    (p ++ [x]).length = (pre ++ [k]).length + 1 ∧ p ++ [x] = potL (fun n => f n n) ((pre ++ [k]).length + 1) := by
  have e : (pre ++ [k]).length = pre.length + 1 := by simp
  have ek : k.toNat = pre.length + 1 := by omega
  rw [rangeKs_length] at hx
  have ek2 : (k + 1 - 1).toNat = pre.length + 1 := by omega
  rw [ek, ek2] at hx
  rw [e, potL_succ _ (pre.length + 1), h1, hx]
  exact ⟨by simp [potL_len], rfl⟩
theorem j_end' {vs : List Value} {ns : List Int} {pot : Nat → Int} {n : Nat} (h : IntsAre vs ns) (e : ns = potL pot n) {k : Nat} (hk : n = k) : IntsAre vs (potL pot k) := hk ▸ e ▸ h
end Mine
namespace Mine
noncomputable def ordS (ws ss : List Int) (k : Nat) : Nat → Int
  | 0 => 0
  | n + 1 => ordS ws ss k n + if n / 2 ^ k % 2 = 0 then ([6, 2, 2, 6] : List Int).getD (ss.getD n 0).toNat 0 * (ws.getD (n + 2 ^ k) 0 - ws.getD n 0) else 0
theorem o_in0 {ws ss : List Int} {n : Nat} : (0 : Int) = ordS ws ss n ([] : List Int).length := rfl
theorem o_start {pot : Nat → Int} : ([] : List Int).length = ([] : List Int).length ∧ ([] : List Int) = potL pot ([] : List Int).length := ⟨rfl, rfl⟩
theorem o_tab : ∀ n, n < 16 → ∀ j, j < 4 → n / 2 ^ j % 2 = 0 → 0 ≤ ([0,1,1,2,1,2,2,3,1,2,2,3,2,3,3,4] : List Int).getD n 0 ∧ ([0,1,1,2,1,2,2,3,1,2,2,3,2,3,3,4] : List Int).getD n 0 < 4 ∧ n + 2 ^ j < 16 := by decide
theorem o_idx {ss : List Int} (h4 : ss = [0,1,1,2,1,2,2,3,1,2,2,3,2,3,3,4]) {who k : Int} (hb : (who.fdiv (2 ^ k.toNat)).fmod 2 = 0) (h0 : 0 ≤ who) (h1 : who < 16) (h2 : 0 ≤ k) (h3 : k < 4) :
    0 ≤ ss.getD who.toNat 0 ∧ ss.getD who.toNat 0 < ([6, 2, 2, 6] : List Int).length ∧ who + 2 ^ k.toNat < 16 ∧ 0 < (2 : Int) ^ k.toNat := by
  obtain ⟨n, rfl⟩ := Int.eq_ofNat_of_zero_le h0
  obtain ⟨j, rfl⟩ := Int.eq_ofNat_of_zero_le h2
  have e1 : ((n : Int)).toNat = n := by omega
  have e2 : ((j : Int)).toNat = j := by omega
  rw [e2, bit_cast] at hb
  have := o_tab n (by omega) j (by omega) (by omega)
  rw [e1, e2, h4, pow_cast]
  refine ⟨this.1, this.2.1, by omega, ?_⟩
  have := Nat.pow_pos (n := j) (show 0 < 2 by omega)
  omega
theorem o_bit {who k : Int} {i j : Nat} (hk : k = 0 + (j : Int)) (hw : who = 0 + (i : Int)) : ((who.fdiv (2 ^ k.toNat)).fmod 2 = 0) = (i / 2 ^ k.toNat % 2 = 0) := by
  have e2 : k.toNat = j := by omega
  have e3 : who = (i : Int) := by omega
  rw [e2, e3, bit_cast]
  exact propext ⟨fun h => by omega, fun h => by omega⟩
theorem o_inN {who k x : Int} {pre pre' : List Int} {ws ss : List Int} (hb : (who.fdiv (2 ^ k.toNat)).fmod 2 ≠ 0) (hx : x = ordS ws ss k.toNat pre.length) (hw : who = 0 + (pre.length : Int)) (hk : k = 0 + (pre'.length : Int)) :
    x = ordS ws ss k.toNat (pre ++ [who]).length := by
  have e : (pre ++ [who]).length = pre.length + 1 := by simp
  rw [e, ordS, if_neg (by rw [← o_bit hk hw]; exact hb), hx]; omega
theorem o_inY {who k x : Int} {pre pre' : List Int} {ws ss : List Int} (hb : (who.fdiv (2 ^ k.toNat)).fmod 2 = 0) (hx : x = ordS ws ss k.toNat pre.length) (hw : who = 0 + (pre.length : Int)) (hk : k = 0 + (pre'.length : Int)) :
    x + ([6, 2, 2, 6] : List Int).getD (ss.getD who.toNat 0).toNat 0 * (ws.getD (who + 2 ^ k.toNat).toNat 0 - ws.getD who.toNat 0) = ordS ws ss k.toNat (pre ++ [who]).length := by
  have e : (pre ++ [who]).length = pre.length + 1 := by simp
  have e1 : who.toNat = pre.length := by omega
  have e2 : (who + 2 ^ k.toNat).toNat = pre.length + 2 ^ k.toNat := by
    rw [pow_cast]
    generalize 2 ^ k.toNat = P
    omega
  rw [e, ordS, if_pos (by rw [← o_bit hk hw]; exact hb), hx, e1, e2]
theorem o_out {f : Nat → Nat → Int} {pre p : List Int} {k x : Int} (h1 : p = potL (fun k => f k 16) pre.length) (hk : k = 0 + (pre.length : Int)) (hx : x = f k.toNat (rangeKs 0 (16 - 0 : Int).toNat).length) :
    (p ++ [x]).length = (pre ++ [k]).length ∧ p ++ [x] = potL (fun k => f k 16) (pre ++ [k]).length := by
  have e : (pre ++ [k]).length = pre.length + 1 := by simp
  have ek : k.toNat = pre.length := by omega
  rw [rangeKs_length, ek] at hx
  rw [e, potL_succ _ pre.length, h1, hx]
  exact ⟨by simp [potL_len], rfl⟩
end Mine
namespace Mine
theorem ord_b (n : Nat) : -1000 ≤ ([6, 2, 2, 6] : List Int).getD n 0 ∧ ([6, 2, 2, 6] : List Int).getD n 0 < 1000 := by
  match n with
  | 0 | 1 | 2 | 3 => decide
  | n + 4 => simp
end Mine
end SM1
section SE1
open PySem PySem.W PyProof.Rows PySem.Calls PySem.Spec
namespace Mine
section
variable {prog : Program} {w : World} {A : Around} {E : Value → Shared → Prop} {s : Shared} {env : Env} {h₀ : Heap} {body : List Stmt} {Q : Flow → Shared → Prop}
theorem enum_inv {elts : List Expr} {k₀ : Nat} {pos : Pos} {l : Addr} {n : Nat} {vs : List Value} {ns : List Int} {m₀ : Str → Option Value} {news : List (Addr × Obj)}
    (J : Nat → (Str → Option Value) → List (Addr × Obj) → Prop)
    (hh : A.handled = none) (F : Fr h₀ env.locals s.heap m₀) (N : News h₀ env.locals s.heap news) (hm : (l, W.listOf vs.toArray n) ∈ news) (hi : IntsAre vs ns) (hJ : J 0 m₀ news)
    (turn : ∀ (I : Addr) i k t x T m₁ news₁ h₁ tk₁ own, (∀ p ∈ news, p.1 < I) → ns[i]? = some k → J i m₁ news₁ → (∀ p ∈ news₁, p.1 ≠ I ∧ p.1 ≠ I + 1) → (∀ p ∈ own, p.1 = I + 1 ∨ p.1 = I ∨ p.1 = l) → IsTup h₁ T #[.int (i : Nat) t, .int k x] →
      Fr h₀ env.locals h₁ m₁ → News h₀ env.locals h₁ (own ++ news₁) →
      wpAny (model prog w) A (assign (.Tuple elts k₀ pos) env (.ref T)) (fun _ s₂ => wpAny (model prog w) A (execs body env)
        (LoopStepV h₀ env.locals [I + 1, I] own (J (i + 1)) { s with heap := h₁, toks := tk₁ } (fun v s' => Q (.ret v) s') fun s' => Q .next s') E s₂) E { s with heap := h₁, toks := tk₁ })
    (done : ∀ h' tk m' news', Fr h₀ env.locals h' m' → News h₀ env.locals h' news' → J ns.length m' news' → Q .next { s with heap := h', toks := tk }) :
    wpAny (model prog w) A (call (.type "enumerate") [.ref l]) (fun xv s₁ => wpAny (model prog w) A (pyIter xv) (fun it s₂ => TurnsAt prog w A h₀ env (.Tuple elts k₀ pos) body Q E it s₂) E s₁) E s := by
  have hax := N _ hm
  have hl : s.heap.IsList l vs.toArray := ⟨_, hax.1, rfl, n, rfl⟩
  have hlt : l < s.heap.objs.size := Heap.lt_size hax.1
  have hLs : env.locals < s.heap.objs.size := F.ns.lt
  refine call_enumerate_list hl fun h' hE hI hsz hk => ?_
  refine wpAny_pyIter_enum hE ?_
  have hsize : vs.toArray.size = ns.length := by rw [List.size_toArray]; exact hi.length
  refine ⟨s.heap.objs.size + 1, _, _, _, _, _, _, m₀, news, J, rfl, KTurns.ofWalksU (WalksT.enumerate hh (s.heap.objs.size + 1) s.heap.objs.size l (Nat.succ_ne_self _) (ktu_ne 1 hlt) (Nat.ne_of_lt hlt) vs.toArray).toU, ?_, ?_, ?_, ⟨⟨_, hE⟩, hI, hl.at fun o x => hk _ _ x⟩, F.keeps hk, N.grown hk, hJ, ?_, ?_⟩
  · intro hI'
    have hb' : env.locals = s.heap.objs.size + 1 ∨ env.locals = s.heap.objs.size ∨ env.locals = l := by simpa using hI'
    rcases hb' with e | e | e
    · exact ktu_ne 1 hLs e
    · exact Nat.ne_of_lt hLs e
    · exact hax.2.1 e.symm
  · intro b hb
    have hb' : b = s.heap.objs.size + 1 ∨ b = s.heap.objs.size := by simpa using hb
    rcases hb' with rfl | rfl
    · exact ktu_new F (Nat.le_add_right _ _)
    · exact ktu_new F (Nat.le_refl _)
  · intro p hp hI'
    have hb' : p.1 = s.heap.objs.size + 1 ∨ p.1 = s.heap.objs.size := by simpa using hI'
    have hlp := Heap.lt_size (N p hp).1
    rcases hb' with e | e
    · exact ktu_ne 1 hlp e
    · exact Nat.ne_of_lt hlp e
  · rintro i v m₁ news₁ h₁ tk₁ own hi' ⟨T, vals, rfl, ⟨t, x, hx, rfl⟩, hT⟩ hJ' hw hf _ _ _ F₁ N₁
    have hlt' : i < ns.length := by rw [← hsize]; exact hi'
    obtain ⟨u, hu⟩ := hi.get i ns[i] (by simp [hlt'])
    have hv : x = .int ns[i] u := by
      have hP' : vs[i]? = some x := by simpa using hx
      rw [hu] at hP'; exact (Option.some.inj hP').symm
    subst hv
    exact turn s.heap.objs.size i ns[i] t u T m₁ news₁ h₁ tk₁ own (fun p hp => Heap.lt_size (N p hp).1) (by simp [hlt']) hJ' (fun p hp => by have := hw p hp; constructor <;> (intro e; exact this (by simp [e])))
      (fun p hp => by have := hf p hp; simpa using this) hT F₁ N₁
  · intro h'' tk m' news' F' N' _ hJ'
    rw [hsize] at hJ'
    exact done h'' tk m' news' F' N' hJ'
end
end Mine
namespace Mine
theorem ne_at {a I : Nat} (h : a < I) : a ≠ I ∧ a ≠ I + 1 := by omega
section
variable {prog : Program} {w : World} {A : Around} {E : Value → Shared → Prop} {s : Shared} {env : Env} {h₀ : Heap} {body : List Stmt} {Q : Flow → Shared → Prop}
theorem kst_enum {w' : World} {elts : List Expr} {k₀ : Nat} {pos : Pos} {l M : Addr} {n : Nat} {vs : List Value} {ns : List Int} {x₀ : Str} {m₀ : Str → Option Value} {w₀ : List Value} {ms₀ : List Int} {kk₀ : Nat} (stored : List Str) (P : List Int → Prop)
    (hh : A.handled = none) (F : Fr h₀ env.locals s.heap m₀) (N : News h₀ env.locals s.heap [(l, W.listOf vs.toArray n), (M, W.listOf w₀.toArray kk₀)]) (hlM : l ≠ M) (hi : IntsAre vs ns) (hw : IntsAre w₀ ms₀) (hP : P ms₀)
    (turn : ∀ (w : List Value) (ms : List Int) (kk : Nat) i k t x T (u : Str → Option Value) h tk own, ns[i]? = some k → IntsAre w ms → P ms → OwnOff own [M] → IsTup h T #[.int ((i : Nat) : Int) t, .int k x] →
      Fr h₀ env.locals h (fun y => if y = x₀ then u y else if stored.contains y then u y else m₀ y) → News h₀ env.locals h ([(M, W.listOf w.toArray kk)] ++ own) →
      wpAny (model prog w') A (assign (.Tuple elts k₀ pos) env (.ref T)) (fun _ s₂ => wpAny (model prog w') A (execs body env)
        (InvPostN h₀ env.locals (fun m nx => ∃ (c : List Value × List Int × Nat), nx = [(M, W.listOf c.1.toArray c.2.2)] ∧ IntsAre c.1 c.2.1 ∧ (∀ z, z ≠ x₀ → stored.contains z = false → m z = m₀ z) ∧ P c.2.1) own [M] { s with heap := h, toks := tk } Q) E s₂) E { s with heap := h, toks := tk })
    (done : ∀ (w : List Value) (ms : List Int) (kk : Nat) (u : Str → Option Value) h tk, IntsAre w ms → P ms → Fr h₀ env.locals h (fun y => if y = x₀ then u y else if stored.contains y then u y else m₀ y) → News h₀ env.locals h [(M, W.listOf w.toArray kk)] → Q .next { s with heap := h, toks := tk }) :
    wpAny (model prog w') A (call (.type "enumerate") [.ref l]) (fun xv s₁ => wpAny (model prog w') A (pyIter xv) (fun it s₂ => TurnsAt prog w' A h₀ env (.Tuple elts k₀ pos) body Q E it s₂) E s₁) E s := by
  have frU : ∀ {h : Heap} {m : Str → Option Value}, (∀ z, z ≠ x₀ → stored.contains z = false → m z = m₀ z) → Fr h₀ env.locals h m → Fr h₀ env.locals h (fun y => if y = x₀ then m y else if stored.contains y then m y else m₀ y) := by
    intro h m hm F
    have em : (fun y => if y = x₀ then m y else if stored.contains y then m y else m₀ y) = m := by
      funext y
      by_cases h1 : y = x₀
      · rw [if_pos h1]
      · rw [if_neg h1]
        cases h2 : stored.contains y with
        | true => simp
        | false => simp only [Bool.false_eq_true, if_false]; exact (hm y h1 h2).symm
    rw [em]; exact F
  let J : Nat → (Str → Option Value) → List (Addr × Obj) → Prop := fun _ m nx => ∃ (c : List Value × List Int × Nat), nx = [(l, W.listOf vs.toArray n), (M, W.listOf c.1.toArray c.2.2)] ∧ IntsAre c.1 c.2.1 ∧ (∀ z, z ≠ x₀ → stored.contains z = false → m z = m₀ z) ∧ P c.2.1
  have hN : ∀ p ∈ [(l, W.listOf vs.toArray n), (M, W.listOf w₀.toArray kk₀)], p.1 = l ∨ p.1 = M := by
    intro p hp
    simp only [List.mem_cons, List.not_mem_nil, or_false] at hp
    rcases hp with rfl | rfl
    · exact .inl rfl
    · exact .inr rfl
  refine enum_inv J hh F N (.head _) hi ⟨(w₀, ms₀, kk₀), rfl, hw, fun _ _ _ => rfl, hP⟩ ?_ ?_
  · rintro I i k t x T m₁ news₁ h₁ tk₁ own hI hk ⟨c, rfl, hw', hm', hP'⟩ hne hown hT F₁ N₁
    have hMI : M < I := hI _ (.tail _ (.head _))
    have hoff : OwnOff own [M] := by
      intro p hp b hb e
      rw [List.mem_singleton.mp hb] at e
      rcases hown p hp with h | h | h
      · exact (ne_at hMI).2 (e.symm.trans h)
      · exact (ne_at hMI).1 (e.symm.trans h)
      · exact hlM (h.symm.trans e)
    have N₂ : News h₀ env.locals h₁ ([(M, W.listOf c.1.toArray c.2.2)] ++ (own ++ [(l, W.listOf vs.toArray n)])) := by
      intro p hp
      refine N₁ p ?_
      simp only [List.mem_append, List.mem_cons, List.not_mem_nil, or_false] at hp ⊢
      rcases hp with h | h | h
      · exact .inr (.inr h)
      · exact .inl h
      · exact .inr (.inl h)
    have hoff2 : OwnOff (own ++ [(l, W.listOf vs.toArray n)]) [M] := by
      intro p hp b hb e
      rcases List.mem_append.mp hp with h | h
      · exact hoff p h b hb e
      · rw [List.mem_singleton.mp h, List.mem_singleton.mp hb] at e
        exact hlM e
    refine wpAny_mono (turn c.1 c.2.1 c.2.2 i k t x T m₁ h₁ tk₁ (own ++ [(l, W.listOf vs.toArray n)]) hk hw' hP' hoff2 hT (frU hm' F₁) N₂) (fun _ s₂ h₂ => wpAny_mono h₂ (fun f s₃ h₃ => ?_) fun _ _ e => e) fun _ _ e => e
    have fin : InvEndN h₀ env.locals (fun m nx => ∃ (c : List Value × List Int × Nat), nx = [(M, W.listOf c.1.toArray c.2.2)] ∧ IntsAre c.1 c.2.1 ∧ (∀ z, z ≠ x₀ → stored.contains z = false → m z = m₀ z) ∧ P c.2.1) (own ++ [(l, W.listOf vs.toArray n)]) [M] { s with heap := h₁, toks := tk₁ } s₃ →
        LoopStepU h₀ env.locals [I + 1, I] own (J (i + 1)) { s with heap := h₁, toks := tk₁ } .next s₃ := by
      rintro ⟨h', tk, m', news', nx, e, F', N', hn', ho', _, ⟨c', rfl, hw'', hm'', hP''⟩⟩
      refine ⟨rfl, h', tk, m', [(l, W.listOf vs.toArray n), (M, W.listOf c'.1.toArray c'.2.2)], e, F', ?_, ?_, ⟨c', rfl, hw'', hm'', hP''⟩⟩
      · intro p hp
        rcases List.mem_append.mp hp with h | h
        · exact N' p (ho' p (List.mem_append.mpr (.inl h)))
        · simp only [List.mem_cons, List.not_mem_nil, or_false] at h
          rcases h with rfl | rfl
          · exact N' _ (ho' _ (List.mem_append.mpr (.inr (.head _))))
          · exact N' _ (hn' _ (.head _))
      · intro p hp hw9
        have hlI : l < I := hI _ (.head _)
        have h9 : p.1 = I + 1 ∨ p.1 = I := by simpa using hw9
        simp only [List.mem_cons, List.not_mem_nil, or_false] at hp
        rcases hp with rfl | rfl
        · rcases h9 with h | h
          · exact (ne_at hlI).2 h
          · exact (ne_at hlI).1 h
        · rcases h9 with h | h
          · exact (ne_at hMI).2 h
          · exact (ne_at hMI).1 h
    cases f with
    | ret v => exact h₃
    | brk => exact h₃
    | next => exact fin h₃
    | cont => exact fin h₃
  · rintro h' tk m' news' F' N' ⟨c, rfl, hw', hm', hP'⟩
    exact done c.1 c.2.1 c.2.2 m' h' tk hw' hP' (frU hm' F') fun p hp => N' p (.tail _ hp)
end
end Mine
namespace Mine
section
variable {prog : Program} {w : World} {A : Around} {E : Value → Shared → Prop} {s : Shared} {h₀ : Heap} {L : Addr} {news : List (Addr × Obj)}
theorem item_obj {value slice : PySem.Expr} {D : Addr} {o : Obj} {n : Nat} {vs : List Value} {k : Int} {u : Tok} {v : Value} {Q : Value → Shared → Prop} (N : News h₀ L s.heap news) (hm : (D, o) ∈ news) (hc : o.cls = .type "list") (hd : o.data = .seq vs.toArray n) (h0 : 0 ≤ k) (h1 : k < 100) (hx : vs[k.toNat]? = some v) (h : Q v s)
    (hs : subscripted slice false (.ref D) (.int k u) = operate [.ref D, .int k u] (getItem (.ref D) (.int k u))) :
    wpAny (model prog w) A (subscriptTail value slice (.ref D) (.int k u)) Q E s :=
  have hl : s.heap.IsList D vs.toArray := ⟨o, N.get hm, hc, n, hd⟩
  tail_any hl.typeIs slot_list_getitem.lookup (wpAny_getItem_list hl h0 (by omega) (by simpa using hx) h) hs
end
end Mine
end SE1
section SM3
open PySem PySem.W PyProof.Rows PySem.Calls PySem.Spec
namespace Mine
theorem and_nn (x y : Nat) : Builtin.bitAnd (x : Int) (y : Int) = ((x &&& y : Nat) : Int) := by
  unfold Builtin.bitAnd
  rw [show decide (0 ≤ (x : Int)) = true from by simp, show decide (0 ≤ (y : Int)) = true from by simp]
  rfl
theorem or_nn (x y : Nat) : Builtin.bitOr (x : Int) (y : Int) = ((x ||| y : Nat) : Int) := by
  unfold Builtin.bitOr Builtin.bitAnd
  rw [show decide (0 ≤ Builtin.bitNot (x : Int)) = false from by simp [Builtin.bitNot]; omega, show decide (0 ≤ Builtin.bitNot (y : Int)) = false from by simp [Builtin.bitNot]; omega]
  dsimp only
  have e : ∀ z : Nat, (Builtin.bitNot (Builtin.bitNot (z : Int))).toNat = z := by intro z; simp only [Builtin.bitNot]; omega
  rw [e, e]
  simp only [Builtin.bitNot]; omega
theorem xor_rng {x y : Int} (hx : 0 ≤ x ∧ x < 65536) (hy : 0 ≤ y ∧ y < 65536) : 0 ≤ Builtin.bitXor x y ∧ Builtin.bitXor x y < 65536 := by
  obtain ⟨a, rfl⟩ := Int.eq_ofNat_of_zero_le hx.1
  obtain ⟨b, rfl⟩ := Int.eq_ofNat_of_zero_le hy.1
  unfold Builtin.bitXor
  rw [and_nn, or_nn]
  have h1 : a ||| b < 2 ^ 16 := Nat.or_lt_two_pow (by omega) (by omega)
  have h2 : a &&& b ≤ a := Nat.and_le_left
  have h3 : a ≤ a ||| b := Nat.left_le_or
  omega
theorem modes_step {ms : List Int} {i : Nat} {k : Int} (h1 : ms.length = 4) (h2 : ∀ x ∈ ms, 0 ≤ x ∧ x < 65536) :
    (ms.set ((i : Int).fmod 4).toNat (Builtin.bitXor (ms.getD ((i : Int).fmod 4).toNat 0) (k.fmod 65536))).length = 4 ∧ ∀ x ∈ ms.set ((i : Int).fmod 4).toNat (Builtin.bitXor (ms.getD ((i : Int).fmod 4).toNat 0) (k.fmod 65536)), 0 ≤ x ∧ x < 65536 := by
  refine ⟨by rw [List.length_set]; exact h1, fun x hx => ?_⟩
  have h0 : 0 ≤ (i : Int).fmod 4 := Int.fmod_nonneg_of_pos _ (by decide)
  have h4 : (i : Int).fmod 4 < 4 := Int.fmod_lt_of_pos _ (by decide)
  rcases List.mem_or_eq_of_mem_set hx with h | h
  · exact h2 x h
  · rw [h]
    refine xor_rng ?_ ⟨Int.fmod_nonneg_of_pos _ (by decide), Int.fmod_lt_of_pos _ (by decide)⟩
    have hl : ((i : Int).fmod 4).toNat < ms.length := by omega
    rw [List.getD_eq_getElem?_getD, List.getElem?_eq_getElem hl]
    exact h2 _ (List.getElem_mem hl)
end Mine
namespace Mine
theorem modes_end {w : List Value} {ms : List Int} (h : IntsAre w ms) (h1 : ms.length = 4 ∧ ∀ x ∈ ms, 0 ≤ x ∧ x < 65536) :
    ∃ a b c d t1 t2 t3 t4, w = [.int a t1, .int b t2, .int c t3, .int d t4] ∧ (0 ≤ a ∧ a < 65536) ∧ (0 ≤ b ∧ b < 65536) ∧ (0 ≤ c ∧ c < 65536) ∧ (0 ≤ d ∧ d < 65536) := by
  obtain ⟨hl, hr⟩ := h1
  cases h with
  | nil => cases hl
  | cons a t1 h => cases h with
    | nil => cases hl
    | cons b t2 h => cases h with
      | nil => cases hl
      | cons c t3 h => cases h with
        | nil => cases hl
        | cons d t4 h => cases h with
          | nil => exact ⟨a, b, c, d, t1, t2, t3, t4, rfl, hr a (by simp), hr b (by simp), hr c (by simp), hr d (by simp)⟩
          | cons e t5 h => simp at hl
theorem modes_post {h' g : Heap} {r : Addr} {w : List Value} {ms : List Int} {k : Nat} (ho : h'.get? r = some (W.listOf w.toArray k)) (hf : g.get? r = none) (h : IntsAre w ms) (h1 : ms.length = 4 ∧ ∀ x ∈ ms, 0 ≤ x ∧ x < 65536) :
    ∃ r' k a b c d t1 t2 t3 t4, Value.ref r = .ref r' ∧ g.get? r' = none ∧ h'.get? r' = some (W.listOf #[.int a t1, .int b t2, .int c t3, .int d t4] k) ∧ (0 ≤ a ∧ a < 65536) ∧ (0 ≤ b ∧ b < 65536) ∧ (0 ≤ c ∧ c < 65536) ∧ (0 ≤ d ∧ d < 65536) := by
  obtain ⟨a, b, c, d, t1, t2, t3, t4, rfl, hs⟩ := modes_end h h1
  exact ⟨r, k, a, b, c, d, t1, t2, t3, t4, rfl, hf, ho, hs⟩
end Mine
end SM3
section SE2
open PySem PySem.W PyProof.Rows PySem.Calls PySem.Spec
namespace Mine
theorem compEnd_mono {h₀ : Heap} {L : Addr} {m : Str → Option Value} {s₁ : Shared} {I : Addr} {oI : Obj} {C : Addr} {oC : Obj} {D : Addr} {oD : Obj} {S : List (Addr × Obj) → Prop} {rest rest' : Value → List (Addr × Obj) → Prop} {y : Value} {s₂ : Shared}
    (h : LCg.CompEnd h₀ L m s₁ I oI C oC D oD S rest y s₂) (k : ∀ n, rest y n → rest' y n) : LCg.CompEnd h₀ L m s₁ I oI C oC D oD S rest' y s₂ :=
  let ⟨h', tk, news', e, F, N, off, hS, r⟩ := h
  ⟨h', tk, news', e, F, N, off, hS, k _ r⟩
section
variable {prog : Program} {w : World} {A : Around} {s : Shared} {h₀ : Heap} {L : Addr} {m : Str → Option Value} {env : Env}
theorem rest_cut {ct elt : Expr} {x : Str} {scope : Scope} {cl : List (Str × Addr)} {S : List (Addr × Obj) → Prop} {P : Nat → Value → Prop} {Fin : List Value → List (Addr × Obj) → Prop} {k i : Nat} {ys : List Value} {news : List (Addr × Obj)} (R : List Value → Prop)
    (turn : ∀ v I oI C oC D m₂ h tk (E' : Value → Shared → Prop), P i v → LCg.NsObj oC m₂ → m₂ x = some v → Fr h₀ L h m → News h₀ L h ((I, oI) :: (C, oC) :: (D, LCg.lst ys) :: news) → LCg.Off3 I C D news → ((@Ne Nat I C) ∧ (@Ne Nat I D) ∧ (@Ne Nat C D)) →
      wpAny (model prog w) A (isTrue ct (compEnvC scope cl C env) (eval ct (compEnvC scope cl C env))) (fun ok s' => if ok = true then
        wpAny (model prog w) A (eval elt (compEnvC scope cl C env)) (LCg.CompEnd h₀ L m { s with heap := h, toks := tk } I oI C oC D (LCg.lst ys) S (fun y news' => news' = news ∧ R (ys ++ [y]))) E' s'
        else LCg.CompEnd h₀ L m { s with heap := h, toks := tk } I oI C oC D (LCg.lst ys) S (fun _ news' => news' = news ∧ R ys) Value.none s') E' { s with heap := h, toks := tk })
    (rest : ∀ ys', R ys' → LCt.CompRestT prog w A h₀ L m env ct elt x scope cl s S P Fin k (i + 1) ys' news) :
    LCt.CompRestT prog w A h₀ L m env ct elt x scope cl s S P Fin (k + 1) i ys news := by
  intro v I oI C oC D m₂ h tk E' a b c d e f g
  refine wpAny_mono (turn v I oI C oC D m₂ h tk E' a b c d e f g) (fun ok s' q => ?_) fun _ _ x => x
  cases ok with
  | true =>
    exact wpAny_mono q (fun y s'' q' => compEnd_mono q' fun n hn => by obtain ⟨rfl, hr⟩ := hn; exact rest _ hr) fun _ _ x => x
  | false =>
    have q2 : LCg.CompEnd h₀ L m { s with heap := h, toks := tk } I oI C oC D (LCg.lst ys) S (fun _ news' => news' = news ∧ R ys) Value.none s' := q
    exact compEnd_mono (rest' := fun _ n => LCt.CompRestT prog w A h₀ L m env ct elt x scope cl s S P Fin k (i + 1) ys n) q2 fun n hn => by obtain ⟨rfl, hr⟩ := hn; exact rest _ hr
end
end Mine
end SE2
section SE3
open PySem PySem.W PyProof.Rows PySem.Calls PySem.Spec
namespace Mine
open PySem
theorem meets_enumerate_newT (l : Addr) (items : Array Value) :
    Meets (Builtin.«enumerate.__new__» ⟨[.type "enumerate", .ref l], []⟩) (fun _ R s => s.heap.IsTuple l items ∧
      R (.ok (.ret (.ref (s.heap.push { cls := .type "tuple_iterator", data := .fields #[.ref l, .int 0 0] }).objs.size)))
        { s with heap := (s.heap.push { cls := .type "tuple_iterator", data := .fields #[.ref l, .int 0 0] }).push { cls := .type "enumerate", data := .fields #[.none, .bool false, .ref s.heap.objs.size, rawInt 0, .none, .none] } }) :=
  .of_wp fun prog w A R s h => by
    obtain ⟨hp, g, d, tk, os⟩ := s; obtain ⟨hL, h⟩ := h
    have hsub := sub_enumerate
    wp_walk using wpAny_pyIter_tuple hL
    refine wpAny_stack_any fun st => wpAny_pure ?_
    split
    · rename_i c _ _ _ _ _
      cases (c == Value.type "enumerate")
      · wp_walk using wpAny_pyIter_tuple hL
        exact ⟨_, rfl, h⟩
      · wp_walk using wpAny_pyIter_tuple hL
        exact ⟨_, rfl, h⟩
    · wp_walk using wpAny_pyIter_tuple hL
      exact ⟨_, rfl, h⟩
section
variable {prog : Program} {w : World} {A : Around} {E : Value → Shared → Prop} {s : Shared}
theorem nextOf_tuple_item {it t : Addr} {i : Nat} {items} {x : Value} {Q : Value → Shared → Prop} (hit : s.heap.IsTupleIter it t i)
    (ht : s.heap.IsTuple t items) (hx : items[i]? = some x)
    (hQ : ∀ h', h'.IsTupleIter it t (i + 1) → Heap.SameBut it s.heap h' → Q x { s with heap := h' }) :
    wpAny (model prog w) A (Builtin.SmallTypes.nextOf (.ref it)) Q E s := by
  obtain ⟨o, ho, hc, hd⟩ := id hit
  obtain ⟨ol, hol, _, nl, hdl⟩ := ht
  unfold Builtin.SmallTypes.nextOf
  refine wpAny_bind (wpAny_callSpecial?_slot (name := Str.ofString "__next__") hit.typeIs F.slot_tuple_iterator_next
    (wpAny_call_entry F.slot_tuple_iterator_next hit.typeIs F.entry_tuple_iterator_next ?_ (F.args_tuple_iterator_next_1 _)))
  show wpAny _ _ (field (.ref it) 0 >>= _) _ _ s
  refine wpAny_bind (wpAny_field ho hd (x := .ref t) rfl ?_)
  show wpAny _ _ (if (Value.ref t == Value.none) = true then _ else _) _ _ s
  rw [if_neg (show ¬ ((Value.ref t == Value.none) = true) from Bool.false_ne_true)]
  show wpAny _ _ (field (.ref it) 1 >>= _) _ _ s
  refine wpAny_bind (wpAny_field ho hd (x := .int i 0) rfl ?_)
  show wpAny _ _ (seqItems? (.ref t) >>= _) _ _ s
  refine wpAny_bind (wpAny_seqItems hol hdl ?_)
  simp only [Int.toNat_natCast, hx]
  refine wpAny_bind (wpAny_setField ho hd (by simp) (wpAny_pure ⟨x, rfl, wpAny_pure (hQ _ ?_ (Heap.SameBut.update ..))⟩))
  exact ⟨_, Heap.get?_update_self _ ho (Obj.isFreed_of_fields (Obj.data_mapFields hd _)), (Obj.cls_mapFields ..).trans hc, by
    rw [Obj.data_mapFields hd]; simp [rawInt]⟩
theorem nextOf_tuple_end {it t : Addr} {i : Nat} {items} {Q : Value → Shared → Prop} (hh : A.handled = none)
    (hit : s.heap.IsTupleIter it t i) (ht : s.heap.IsTuple t items) (hx : items[i]? = none)
    (hE : ∀ h' e, Heap.ExtBut it s.heap h' → (∃ o, h'.get? e = some o ∧ o.cls = .type "StopIteration") → E (.ref e) { s with heap := h' }) :
    wpAny (model prog w) A (Builtin.SmallTypes.nextOf (.ref it)) Q E s := by
  obtain ⟨o, ho, hc, hd⟩ := id hit
  obtain ⟨ol, hol, _, nl, hdl⟩ := ht
  unfold Builtin.SmallTypes.nextOf
  refine wpAny_bind (wpAny_callSpecial?_slot (name := Str.ofString "__next__") hit.typeIs F.slot_tuple_iterator_next
    (wpAny_call_entry F.slot_tuple_iterator_next hit.typeIs F.entry_tuple_iterator_next ?_ (F.args_tuple_iterator_next_1 _)))
  show wpAny _ _ (field (.ref it) 0 >>= _) _ _ s
  refine wpAny_bind (wpAny_field ho hd (x := .ref t) rfl ?_)
  show wpAny _ _ (if (Value.ref t == Value.none) = true then _ else _) _ _ s
  rw [if_neg (show ¬ ((Value.ref t == Value.none) = true) from Bool.false_ne_true)]
  show wpAny _ _ (field (.ref it) 1 >>= _) _ _ s
  refine wpAny_bind (wpAny_field ho hd (x := .int i 0) rfl ?_)
  show wpAny _ _ (seqItems? (.ref t) >>= _) _ _ s
  refine wpAny_bind (wpAny_seqItems hol hdl ?_)
  simp only [Int.toNat_natCast, hx]
  refine wpAny_bind (wpAny_rule (wpAny_bind (wpAny_setField ho hd (by simp) ?_)))
  show wpAny _ _ (newExc (.type "StopIteration") [] >>= _) _ _ _
  refine wpAny_bind ?_
  simp only [newExc, newTuple]
  refine wpAny_bind (wpAny_newObj_type ?_ (by size_fits))
  refine wpAny_bind (m := firstArgMember _ _) (wpAny_of_eq (a := Value.none) (by first | rfl | (simp only [firstArgMember]; rfl)) ?_)
  refine wpAny_newObj_type ?_ (by size_fits)
  simp only [raiseNew]
  refine wpAny_bind (wpAny_handled ?_)
  first | rw [show A.in1.handled = none from hh] | rw [hh]
  refine wpAny_bind (wpAny_pure (wpAny_throw ?_))
  exact hE _ _ (((Heap.SameBut.update ..).extBut.push _).push _) ⟨_, Heap.get?_push_size _ rfl, rfl⟩
end
theorem draws_tuple {prog : Program} {w : World} {A : Around} (hh : A.handled = none) (it l : Addr) (hne : l ≠ it) (items : Array Value) :
    Draws prog w A it [it, l] items.size (fun i v => items[i]? = some v) (fun i h => h.IsTupleIter it l i ∧ h.IsTuple l items) where
  live := fun _ _ st => let ⟨o, ho, _⟩ := st.1; ⟨o, ho⟩
  frame := fun _ _ _ st hk => ⟨st.1.at fun o e => hk it (by simp) o e, st.2.at fun o e => hk l (by simp) o e⟩
  item := fun i s Q E hi st hQ => by
    refine nextOf_tuple_item st.1 st.2 (x := items[i]) (by simp [hi]) fun h' hit' hs' => ?_
    exact hQ _ h' s.toks (by simp [hi]) ⟨hit', st.2.extBut hs'.extBut hne⟩ hs'
  done := fun s Q E st hE => nextOf_tuple_end hh st.1 st.2 (by simp) hE
section
variable {prog : Program} {w : World} {A : Around} {E : Value → Shared → Prop} {s : Shared}
theorem call_enumerate_tuple {l : Addr} {items : Array Value} {Q : Value → Shared → Prop} (hL : s.heap.IsTuple l items)
    (h : ∀ h', IsEnum h' (s.heap.objs.size + 1) s.heap.objs.size 0 .none → h'.IsTupleIter s.heap.objs.size l 0 → h'.objs.size = s.heap.objs.size + 2 →
      (∀ b o, s.heap.get? b = some o → h'.get? b = some o) → Q (.ref (s.heap.objs.size + 1)) { s with heap := h' }) :
    wpAny (model prog w) A (call (.type "enumerate") [.ref l]) Q E s := by
  refine callType_new F.called_enumerate (by decide) (F.typeCall_enumerate_1 _) (F.newCall_enumerate_1 _) (fun obj => F.args_object_init_2 obj _) F.entry_enumerate_new
    (meets_enumerate_newT l items) ⟨hL, ?_⟩
  have hz : (s.heap.push { cls := .type "tuple_iterator", data := .fields #[.ref l, .int 0 0] }).objs.size = s.heap.objs.size + 1 := Heap.size_push ..
  show _ ∧ _
  rw [hz]
  have he : IsEnum ((s.heap.push { cls := .type "tuple_iterator", data := .fields #[.ref l, .int 0 0] }).push
      { cls := .type "enumerate", data := .fields #[.none, .bool false, .ref s.heap.objs.size, rawInt 0, .none, .none] }) (s.heap.objs.size + 1) s.heap.objs.size 0 .none := by
    have := Heap.get?_push_size (s.heap.push { cls := .type "tuple_iterator", data := .fields #[.ref l, .int 0 0] })
      (o := { cls := .type "enumerate", data := .fields #[.none, .bool false, .ref s.heap.objs.size, rawInt 0, .none, .none] }) rfl
    rw [hz] at this; exact this
  refine ⟨⟨_, he, rfl⟩, h _ he ⟨_, Heap.get?_push_of_some _ (Heap.get?_push_size _ rfl), rfl, rfl⟩ (by rw [Heap.size_push, hz]) fun b o x => Heap.get?_push_of_some _ (Heap.get?_push_of_some _ x)⟩
end
end Mine
end SE3
section SE4
open PySem PySem.W PyProof.Rows PySem.Calls PySem.Spec
namespace Mine
section
variable {prog : Program} {w : World} {A : Around} {E : Value → Shared → Prop} {s : Shared} {env : Env} {h₀ : Heap} {body : List Stmt} {Q : Flow → Shared → Prop}
theorem enum_invT {elts : List Expr} {k₀ : Nat} {pos : Pos} {t : Addr} {items : Array Value} {m₀ : Str → Option Value} {news : List (Addr × Obj)}
    (J : Nat → (Str → Option Value) → List (Addr × Obj) → Prop)
    (hh : A.handled = none) (F : Fr h₀ env.locals s.heap m₀) (N : News h₀ env.locals s.heap news) (ht : IsTup h₀ t items) (hJ : J 0 m₀ news)
    (turn : ∀ (I : Addr) i t' x T m₁ news₁ h₁ tk₁ own, (∀ p ∈ news, p.1 < I) → items[i]? = some x → J i m₁ news₁ → (∀ p ∈ news₁, p.1 ≠ I ∧ p.1 ≠ I + 1) → (∀ p ∈ own, p.1 = I + 1 ∨ p.1 = I ∨ p.1 = t) → IsTup h₁ T #[.int (i : Nat) t', x] →
      Fr h₀ env.locals h₁ m₁ → News h₀ env.locals h₁ (own ++ news₁) →
      wpAny (model prog w) A (assign (.Tuple elts k₀ pos) env (.ref T)) (fun _ s₂ => wpAny (model prog w) A (execs body env)
        (LoopStepV h₀ env.locals [I + 1, I] own (J (i + 1)) { s with heap := h₁, toks := tk₁ } (fun v s' => Q (.ret v) s') fun s' => Q .next s') E s₂) E { s with heap := h₁, toks := tk₁ })
    (done : ∀ h' tk m' news', Fr h₀ env.locals h' m' → News h₀ env.locals h' news' → J items.size m' news' → Q .next { s with heap := h', toks := tk }) :
    wpAny (model prog w) A (call (.type "enumerate") [.ref t]) (fun xv s₁ => wpAny (model prog w) A (pyIter xv) (fun it s₂ => TurnsAt prog w A h₀ env (.Tuple elts k₀ pos) body Q E it s₂) E s₁) E s := by
  have hl : s.heap.IsTuple t items := Heap.IsTuple.at ht fun o e => F.keep t o e
  obtain ⟨ol, hol, _⟩ := id ht
  have hlt0 : t < h₀.objs.size := Heap.lt_size hol
  have hLs : env.locals < s.heap.objs.size := F.ns.lt
  have hlt : t < s.heap.objs.size := Nat.lt_trans (Nat.lt_of_lt_of_le hlt0 F.above) hLs
  refine call_enumerate_tuple hl fun h' hE hI hsz hk => ?_
  refine wpAny_pyIter_enum hE ?_
  refine ⟨s.heap.objs.size + 1, _, _, _, _, _, _, m₀, news, J, rfl, KTurns.ofWalksU (WalksT.enumerateD (draws_tuple (A := A.in1) hh s.heap.objs.size t (Nat.ne_of_lt hlt) items) (s.heap.objs.size + 1) (Nat.succ_ne_self _) ?_ (by simp)).toU, ?_, ?_, ?_, ⟨⟨_, hE⟩, hI, hl.at fun o x => hk _ _ x⟩, F.keeps hk, N.grown hk, hJ, ?_, ?_⟩
  · intro hm
    have hb' : s.heap.objs.size + 1 = s.heap.objs.size ∨ s.heap.objs.size + 1 = t := by simpa using hm
    rcases hb' with e | e
    · exact Nat.succ_ne_self _ e
    · exact ktu_ne 1 hlt e.symm
  · intro hI'
    have hb' : env.locals = s.heap.objs.size + 1 ∨ env.locals = s.heap.objs.size ∨ env.locals = t := by simpa using hI'
    rcases hb' with e | e | e
    · exact ktu_ne 1 hLs e
    · exact Nat.ne_of_lt hLs e
    · exact absurd (Nat.lt_of_lt_of_le hlt0 F.above) (e ▸ Nat.lt_irrefl _)
  · intro b hb
    have hb' : b = s.heap.objs.size + 1 ∨ b = s.heap.objs.size := by simpa using hb
    rcases hb' with rfl | rfl
    · exact ktu_new F (Nat.le_add_right _ _)
    · exact ktu_new F (Nat.le_refl _)
  · intro p hp hI'
    have hb' : p.1 = s.heap.objs.size + 1 ∨ p.1 = s.heap.objs.size := by simpa using hI'
    have hlp := Heap.lt_size (N p hp).1
    rcases hb' with e | e
    · exact ktu_ne 1 hlp e
    · exact Nat.ne_of_lt hlp e
  · rintro i v m₁ news₁ h₁ tk₁ own hi' ⟨T, vals, rfl, ⟨t', x, hx, rfl⟩, hT⟩ hJ' hw hf _ _ _ F₁ N₁
    exact turn s.heap.objs.size i t' x T m₁ news₁ h₁ tk₁ own (fun p hp => Heap.lt_size (N p hp).1) hx hJ' (fun p hp => by have := hw p hp; constructor <;> (intro e; exact this (by simp [e])))
      (fun p hp => by have := hf p hp; simpa using this) hT F₁ N₁
  · intro h'' tk m' news' F' N' _ hJ'
    exact done h'' tk m' news' F' N' hJ'
end
end Mine
end SE4
section SE5
open PySem PySem.W PyProof.Rows PySem.Calls PySem.Spec
namespace Mine
section
variable {prog : Program} {w : World} {A : Around} {s : Shared} {env : Env} {h₀ : Heap}
noncomputable def FirstStep (h₀ : Heap) (L : Addr) (own news : List (Addr × Obj)) (M : (Str → Option Value) → Prop) (s₁ : Shared) (b : Bool) (Q : Flow → Shared → Prop) (f : Flow) (s₂ : Shared) : Prop :=
  match f with
  | .next => b = false ∧ ∃ h' tk m', s₂ = { s₁ with heap := h', toks := tk } ∧ Fr h₀ L h' m' ∧ News h₀ L h' (own ++ news) ∧ M m'
  | .brk => b = true ∧ Q .next s₂
  | _ => False
theorem for_first {E : Value → Shared → Prop} {Q : Flow → Shared → Prop} {target iter : Expr} {pos : Pos} {body orelse : List Stmt} {t : Addr} {items : Array Value} {m : Str → Option Value} {news : List (Addr × Obj)}
    (M : (Str → Option Value) → Prop) (hit : Nat → Bool)
    (hh : A.handled = none) (F : Fr h₀ env.locals s.heap m) (N : News h₀ env.locals s.heap news) (ht : IsTup h₀ t items) (hm : M m)
    (he : wpAny (model prog w) A (eval iter env) (fun v s' => v = .ref t ∧ Keeps s s') E s)
    (turn : ∀ i v m₁ h₁ tk₁ own, items[i]? = some v → (∀ j, j < i → hit j = false) → M m₁ → (∀ p ∈ own, ∀ q ∈ news, p.1 ≠ q.1) → Fr h₀ env.locals h₁ m₁ → News h₀ env.locals h₁ (own ++ news) →
      wpAny (model prog w) A (assign target env v) (fun _ s₂ => wpAny (model prog w) A (execs body env)
        (FirstStep h₀ env.locals own news M { s with heap := h₁, toks := tk₁ } (hit i) Q) E s₂) E { s with heap := h₁, toks := tk₁ })
    (done : ∀ h' tk m', (∀ j, j < items.size → hit j = false) → M m' → Fr h₀ env.locals h' m' → News h₀ env.locals h' news → wpAny (model prog w) A (execs orelse env) Q E { s with heap := h', toks := tk })
    (hs : ∀ x, foldedSetIterable iter env x = pure x)
    (hE : PassesOwn (model prog w) A env E := by passes_own) :
    wpAny (model prog w) A (exec (.For target iter body orelse pos) env) Q E s := by
  refine wpAny_For (wpAny_mono he (fun xv s₁ h₁ => ?_) fun _ _ e => e) hs
  obtain ⟨rfl, h1, tk1, rfl, hk1⟩ := h₁
  have F1 : Fr h₀ env.locals h1 m := F.keeps hk1
  have N1 : News h₀ env.locals h1 news := N.grown hk1
  have hls : h1.IsTuple t items := Heap.IsTuple.at ht fun o e => F1.keep t o e
  obtain ⟨ol, hol, _⟩ := id ht
  have hlt0 : t < h₀.objs.size := Heap.lt_size hol
  have hLs : env.locals < h1.objs.size := F1.ns.lt
  have hlt : t < h1.objs.size := Nat.lt_trans (Nat.lt_of_lt_of_le hlt0 F1.above) hLs
  refine wpAny_pyIter_tuple (s := { s with heap := h1, toks := tk1 }) hls ?_
  have W := Walks.tuple (prog := prog) (w := w) (A := A) hh h1.objs.size t (Nat.ne_of_lt hlt) items
  have hwr : ∀ b ∈ [h1.objs.size], h₀.get? b = none := by
    intro b hb
    rw [List.mem_singleton.mp hb]
    exact Heap.get?_none_of_le (Nat.le_of_lt (Nat.lt_of_le_of_lt F1.above F1.ns.lt))
  have hLf : env.locals ∉ [h1.objs.size, t] := by
    intro hm
    rcases List.mem_cons.mp hm with e | hm
    · exact absurd hLs (e ▸ Nat.lt_irrefl _)
    · exact absurd (Nat.lt_of_lt_of_le hlt0 F1.above) ((List.mem_singleton.mp hm) ▸ Nat.lt_irrefl _)
  have hLw : env.locals ∉ [h1.objs.size] := fun h => hLf (W.sub _ h)
  have old : ∀ b o, h₀.get? b = some o → b ∉ [h1.objs.size] := fun b o e hb => by rw [hwr b hb] at e; cases e
  have hnw : ∀ p ∈ news, p.1 ∉ [h1.objs.size] := fun p hp hI => absurd (Heap.lt_size (N1 p hp).1) ((List.mem_singleton.mp hI) ▸ Nat.lt_irrefl _)
  refine codeAny_forLoop_any
    (fun k s' => ∃ h' tk m' i, s' = { s with heap := h', toks := tk } ∧ (h'.IsTupleIter h1.objs.size t i ∧ h'.IsTuple t items) ∧ Fr h₀ env.locals h' m' ∧ News h₀ env.locals h' news ∧ M m' ∧
      (∀ j, j < i → hit j = false) ∧ i ≤ items.size ∧ k = items.size + 1 - i) ?_ (items.size + 1)
    ⟨_, tk1, m, 0, rfl, ⟨⟨_, Heap.get?_push_size _ rfl, rfl, rfl⟩, hls.at fun o e => Heap.get?_push_of_some _ e⟩, F1.push _, fun p hp => ⟨Heap.get?_push_of_some _ (N1 p hp).1, (N1 p hp).2⟩, hm, (fun j hj => absurd hj (Nat.not_lt_zero _)), Nat.zero_le _, rfl⟩
  rintro k s' ⟨h', tk, m', i, rfl, hst', F', N', hM', hno, hi, rfl⟩
  have next : ∀ h₁ : Heap, (∀ b o, b ∉ [h1.objs.size] → h'.get? b = some o → h₁.get? b = some o) → Fr h₀ env.locals h₁ m' ∧ News h₀ env.locals h₁ news := fun h₁ hk₁ =>
    ⟨⟨F'.ns.at' fun o e => hk₁ _ o hLw e, fun b o e => hk₁ b o (old b o e) (F'.keep b o e), F'.above⟩, fun p hp => ⟨hk₁ _ _ (hnw p hp) (N' p hp).1, (N' p hp).2⟩⟩
  by_cases hlti : i < items.size
  · refine W.item i _ _ _ hlti hst' fun v h₁ tk₁ hP hst₁ hk₁ => ?_
    obtain ⟨F₁, N₁⟩ := next h₁ hk₁
    refine letGo_tupleiter hst₁.1 ?_
    have hown : ∀ p ∈ ownOf h₀ [h1.objs.size, t] h₁, ∀ q ∈ news, p.1 ≠ q.1 := by
      intro p hp q hq e
      rcases List.mem_cons.mp (ownOf_sub p hp) with e1 | e1
      · exact hnw q hq (List.mem_singleton.mpr (e.symm.trans e1))
      · have : h₀.get? q.1 = none := (N' q hq).2.2
        rw [← e, List.mem_singleton.mp e1, hol] at this
        cases this
    refine wpAny_mono (turn i v m' h₁ tk₁ (ownOf h₀ [h1.objs.size, t] h₁) hP hno hM' hown F₁ ((news_ownOf hLf).append N₁)) (fun _ s₂ h₂ => wpAny_mono h₂ (fun f s₃ h₃ => ?_) hE) hE
    cases f with
    | ret v => exact h₃.elim
    | brk => exact h₃.2
    | cont => exact h₃.elim
    | next =>
      obtain ⟨hb, h₃', tk₃, m₂, rfl, F₃, N₃, hM₃⟩ := h₃
      refine ⟨items.size + 1 - (i + 1), by omega, h₃', tk₃, m₂, i + 1, rfl, ?_, F₃, N₃.right, hM₃, (fun j hj => ?_), hlti, rfl⟩
      · refine W.frame _ _ _ hst₁ fun b hb o e => ?_
        cases hn : h₀.get? b with
        | some o₀ =>
          have : o₀ = o := by have := F₁.keep b o₀ hn; rw [e] at this; exact (Option.some.inj this).symm
          exact this ▸ F₃.keep b o₀ hn
        | none => exact (N₃ _ (List.mem_append_left _ (mem_ownOf hb hn e))).1
      · rcases Nat.lt_succ_iff_lt_or_eq.mp hj with h | h
        · exact hno j h
        · exact h ▸ hb
  · have hin : i = items.size := by omega
    subst hin
    refine W.done _ _ _ hst' fun h₁ tk₁ hk₁ => ?_
    obtain ⟨F₁, N₁⟩ := next h₁ hk₁
    exact wpAny_mono (done h₁ tk₁ m' hno hM' F₁ N₁) (fun _ _ q => q) hE
end
end Mine
end SE5
section SE6
open PySem PySem.W PyProof.Rows PySem.Calls PySem.Spec
namespace Mine
section
variable {prog : Program} {w : World} {A : Around} {E : Value → Shared → Prop} {s : Shared} {env : Env} {h₀ : Heap} {body : List Stmt} {Q : Flow → Shared → Prop}
theorem kst_enumT {w' : World} {elts : List Expr} {k₀ : Nat} {pos : Pos} {t M : Addr} {items : Array Value} {x₀ : Str} {m₀ : Str → Option Value} {kk₀ : Nat} (stored : List Str) (cols : Nat → List Str)
    (hh : A.handled = none) (F : Fr h₀ env.locals s.heap m₀) (N : News h₀ env.locals s.heap [(M, W.listOf #[] kk₀)]) (ht : IsTup h₀ t items) (h0 : cols 0 = [])
    (turn : ∀ (w : List Value) (kk : Nat) i t' x T (u : Str → Option Value) h tk own, items[i]? = some x → StrsAre w (cols i) → OwnOff own [M] → IsTup h T #[.int ((i : Nat) : Int) t', x] →
      Fr h₀ env.locals h (fun y => if y = x₀ then u y else if stored.contains y then u y else m₀ y) → News h₀ env.locals h ([(M, W.listOf w.toArray kk)] ++ own) →
      wpAny (model prog w') A (assign (.Tuple elts k₀ pos) env (.ref T)) (fun _ s₂ => wpAny (model prog w') A (execs body env)
        (InvPostN h₀ env.locals (fun m nx => ∃ (c : List Value × Nat), nx = [(M, W.listOf c.1.toArray c.2)] ∧ StrsAre c.1 (cols (i + 1)) ∧ (∀ z, z ≠ x₀ → stored.contains z = false → m z = m₀ z)) own [M] { s with heap := h, toks := tk } Q) E s₂) E { s with heap := h, toks := tk })
    (done : ∀ (w : List Value) (kk : Nat) (u : Str → Option Value) h tk, StrsAre w (cols items.size) → Fr h₀ env.locals h (fun y => if y = x₀ then u y else if stored.contains y then u y else m₀ y) → News h₀ env.locals h [(M, W.listOf w.toArray kk)] → Q .next { s with heap := h, toks := tk }) :
    wpAny (model prog w') A (call (.type "enumerate") [.ref t]) (fun xv s₁ => wpAny (model prog w') A (pyIter xv) (fun it s₂ => TurnsAt prog w' A h₀ env (.Tuple elts k₀ pos) body Q E it s₂) E s₁) E s := by
  have frU : ∀ {h : Heap} {m : Str → Option Value}, (∀ z, z ≠ x₀ → stored.contains z = false → m z = m₀ z) → Fr h₀ env.locals h m → Fr h₀ env.locals h (fun y => if y = x₀ then m y else if stored.contains y then m y else m₀ y) := by
    intro h m hm F
    have em : (fun y => if y = x₀ then m y else if stored.contains y then m y else m₀ y) = m := by
      funext y
      by_cases h1 : y = x₀
      · rw [if_pos h1]
      · rw [if_neg h1]
        cases h2 : stored.contains y with
        | true => simp
        | false => simp only [Bool.false_eq_true, if_false]; exact (hm y h1 h2).symm
    rw [em]; exact F
  let J : Nat → (Str → Option Value) → List (Addr × Obj) → Prop := fun i m nx => ∃ (c : List Value × Nat), nx = [(M, W.listOf c.1.toArray c.2)] ∧ StrsAre c.1 (cols i) ∧ (∀ z, z ≠ x₀ → stored.contains z = false → m z = m₀ z)
  have htM : t ≠ M := by
    obtain ⟨o, ho, _⟩ := id ht
    intro e
    have := (N _ (.head _)).2.2
    rw [← e, ho] at this
    cases this
  refine enum_invT J hh F N ht ⟨([], kk₀), rfl, h0 ▸ .nil, fun _ _ _ => rfl⟩ ?_ ?_
  · rintro I i t' x T m₁ news₁ h₁ tk₁ own hI hk ⟨c, rfl, hw', hm'⟩ hne hown hT F₁ N₁
    have hMI : M < I := hI _ (.head _)
    have hoff : OwnOff own [M] := by
      intro p hp b hb e
      rw [List.mem_singleton.mp hb] at e
      rcases hown p hp with h | h | h
      · exact (ne_at hMI).2 (e.symm.trans h)
      · exact (ne_at hMI).1 (e.symm.trans h)
      · exact htM (h.symm.trans e)
    have N₂ : News h₀ env.locals h₁ ([(M, W.listOf c.1.toArray c.2)] ++ own) := by
      intro p hp
      refine N₁ p ?_
      simp only [List.mem_append] at hp ⊢
      exact hp.symm
    refine wpAny_mono (turn c.1 c.2 i t' x T m₁ h₁ tk₁ own hk hw' hoff hT (frU hm' F₁) N₂) (fun _ s₂ h₂ => wpAny_mono h₂ (fun f s₃ h₃ => ?_) fun _ _ e => e) fun _ _ e => e
    have fin : InvEndN h₀ env.locals (fun m nx => ∃ (c : List Value × Nat), nx = [(M, W.listOf c.1.toArray c.2)] ∧ StrsAre c.1 (cols (i + 1)) ∧ (∀ z, z ≠ x₀ → stored.contains z = false → m z = m₀ z)) own [M] { s with heap := h₁, toks := tk₁ } s₃ →
        LoopStepU h₀ env.locals [I + 1, I] own (J (i + 1)) { s with heap := h₁, toks := tk₁ } .next s₃ := by
      rintro ⟨h', tk, m', news', nx, e, F', N', hn', ho', _, ⟨c', rfl, hw'', hm''⟩⟩
      refine ⟨rfl, h', tk, m', [(M, W.listOf c'.1.toArray c'.2)], e, F', ?_, ?_, ⟨c', rfl, hw'', hm''⟩⟩
      · intro p hp
        rcases List.mem_append.mp hp with h | h
        · exact N' p (ho' p h)
        · rw [List.mem_singleton.mp h]
          exact N' _ (hn' _ (.head _))
      · intro p hp hw9
        have h9 : p.1 = I + 1 ∨ p.1 = I := by simpa using hw9
        rw [List.mem_singleton.mp hp] at h9
        rcases h9 with h | h
        · exact (ne_at hMI).2 h
        · exact (ne_at hMI).1 h
    cases f with
    | ret v => exact h₃
    | brk => exact h₃
    | next => exact fin h₃
    | cont => exact fin h₃
  · rintro h' tk m' news' F' N' ⟨c, rfl, hw', hm'⟩
    exact done c.1 c.2 m' h' tk hw' (frU hm' F') N'
end
end Mine
end SE6
section SE7
open PySem PySem.W PyProof.Rows PySem.Calls PySem.Spec
namespace Mine
inductive PairsAre (h : Heap) : List Value → List (Int × Str) → Prop
  | nil : PairsAre h [] []
  | cons {a : Addr} {b : Int} {c : Str} {u v : Tok} {vs ps} : IsTup h a #[.int b u, .str c v] → PairsAre h vs ps → PairsAre h (.ref a :: vs) ((b, c) :: ps)
theorem PairsAre.at {h : Heap} : ∀ {vs ps}, PairsAre h vs ps → ∀ (j : Nat) (v : Value), vs[j]? = some v → ∃ a b c u v', v = .ref a ∧ IsTup h a #[.int b u, .str c v'] ∧ ps[j]? = some (b, c)
  | _, _, .nil, j, v, e => by simp at e
  | _, _, .cons t r, 0, v, e => by simp at e; exact ⟨_, _, _, _, _, e.symm, t, rfl⟩
  | _, _, .cons t r, j + 1, v, e => by simpa using r.at j v (by simpa using e)
theorem PairsAre.len {h : Heap} : ∀ {vs ps}, PairsAre h vs ps → vs.length = ps.length
  | _, _, .nil => rfl
  | _, _, .cons _ r => congrArg (· + 1) r.len
noncomputable def tabs : List (List (Int × Str)) := [
  [(40960, Str.ofString "l"), (49152, Str.ofString "s"), (32768, Str.ofString "-"), (24576, Str.ofString "b"), (16384, Str.ofString "d"), (8192, Str.ofString "c"), (4096, Str.ofString "p")],
  [(256, Str.ofString "r")], [(128, Str.ofString "w")], [(2112, Str.ofString "s"), (2048, Str.ofString "S"), (64, Str.ofString "x")],
  [(32, Str.ofString "r")], [(16, Str.ofString "w")], [(1032, Str.ofString "s"), (1024, Str.ofString "S"), (8, Str.ofString "x")],
  [(4, Str.ofString "r")], [(2, Str.ofString "w")], [(513, Str.ofString "t"), (512, Str.ofString "T"), (1, Str.ofString "x")]]
noncomputable def tabItems : Array Value := #[.ref 66, .ref 68, .ref 70, .ref 74, .ref 76, .ref 78, .ref 82, .ref 84, .ref 86, .ref 90]
theorem tab_tup {w : World} {h : Heap} (X : (hd.heap_39 w.params).In h) : IsTup h 91 tabItems := ⟨_, X 91 _ rfl, rfl, _, rfl⟩
theorem tab_at {w : World} {h : Heap} (X : (hd.heap_39 w.params).In h) (i : Nat) (x : Value) (hx : tabItems[i]? = some x) : ∃ t refs ps, x = .ref t ∧ IsTup h t (List.toArray refs) ∧ PairsAre h refs ps ∧ tabs[i]? = some ps := by
  have hi : i < 10 := by
    have := (Array.getElem?_eq_some_iff.mp hx).1
    simpa [tabItems] using this
  match i, hi with
  | 0, _ => cases hx; exact ⟨66, [.ref 59, .ref 60, .ref 61, .ref 62, .ref 63, .ref 64, .ref 65], _, rfl, ⟨_, X 66 _ rfl, rfl, _, rfl⟩, .cons ⟨_, X 59 _ rfl, rfl, _, rfl⟩ (.cons ⟨_, X 60 _ rfl, rfl, _, rfl⟩ (.cons ⟨_, X 61 _ rfl, rfl, _, rfl⟩ (.cons ⟨_, X 62 _ rfl, rfl, _, rfl⟩ (.cons ⟨_, X 63 _ rfl, rfl, _, rfl⟩ (.cons ⟨_, X 64 _ rfl, rfl, _, rfl⟩ (.cons ⟨_, X 65 _ rfl, rfl, _, rfl⟩ .nil)))))), rfl⟩
  | 1, _ => cases hx; exact ⟨68, [.ref 67], _, rfl, ⟨_, X 68 _ rfl, rfl, _, rfl⟩, .cons ⟨_, X 67 _ rfl, rfl, _, rfl⟩ .nil, rfl⟩
  | 2, _ => cases hx; exact ⟨70, [.ref 69], _, rfl, ⟨_, X 70 _ rfl, rfl, _, rfl⟩, .cons ⟨_, X 69 _ rfl, rfl, _, rfl⟩ .nil, rfl⟩
  | 3, _ => cases hx; exact ⟨74, [.ref 71, .ref 72, .ref 73], _, rfl, ⟨_, X 74 _ rfl, rfl, _, rfl⟩, .cons ⟨_, X 71 _ rfl, rfl, _, rfl⟩ (.cons ⟨_, X 72 _ rfl, rfl, _, rfl⟩ (.cons ⟨_, X 73 _ rfl, rfl, _, rfl⟩ .nil)), rfl⟩
  | 4, _ => cases hx; exact ⟨76, [.ref 75], _, rfl, ⟨_, X 76 _ rfl, rfl, _, rfl⟩, .cons ⟨_, X 75 _ rfl, rfl, _, rfl⟩ .nil, rfl⟩
  | 5, _ => cases hx; exact ⟨78, [.ref 77], _, rfl, ⟨_, X 78 _ rfl, rfl, _, rfl⟩, .cons ⟨_, X 77 _ rfl, rfl, _, rfl⟩ .nil, rfl⟩
  | 6, _ => cases hx; exact ⟨82, [.ref 79, .ref 80, .ref 81], _, rfl, ⟨_, X 82 _ rfl, rfl, _, rfl⟩, .cons ⟨_, X 79 _ rfl, rfl, _, rfl⟩ (.cons ⟨_, X 80 _ rfl, rfl, _, rfl⟩ (.cons ⟨_, X 81 _ rfl, rfl, _, rfl⟩ .nil)), rfl⟩
  | 7, _ => cases hx; exact ⟨84, [.ref 83], _, rfl, ⟨_, X 84 _ rfl, rfl, _, rfl⟩, .cons ⟨_, X 83 _ rfl, rfl, _, rfl⟩ .nil, rfl⟩
  | 8, _ => cases hx; exact ⟨86, [.ref 85], _, rfl, ⟨_, X 86 _ rfl, rfl, _, rfl⟩, .cons ⟨_, X 85 _ rfl, rfl, _, rfl⟩ .nil, rfl⟩
  | 9, _ => cases hx; exact ⟨90, [.ref 87, .ref 88, .ref 89], _, rfl, ⟨_, X 90 _ rfl, rfl, _, rfl⟩, .cons ⟨_, X 87 _ rfl, rfl, _, rfl⟩ (.cons ⟨_, X 88 _ rfl, rfl, _, rfl⟩ (.cons ⟨_, X 89 _ rfl, rfl, _, rfl⟩ .nil)), rfl⟩
end Mine
end SE7
section SE8
open PySem PySem.W PyProof.Rows PySem.Calls PySem.Spec
namespace Mine
section
variable {prog : Program} {w : World} {A : Around} {s : Shared} {env : Env} {h₀ : Heap}
theorem kst_first {E : Value → Shared → Prop} {Q : Flow → Shared → Prop} {target iter : Expr} {pos : Pos} {body orelse : List Stmt} {t : Addr} {refs : List Value} {ps : List (Int × Str)} {m₀ : Str → Option Value} {news : List (Addr × Obj)}
    (x₀ : Str) (stored : List Str) (hit : Int × Str → Bool)
    (hh : A.handled = none) (F : Fr h₀ env.locals s.heap m₀) (N : News h₀ env.locals s.heap news) (ht : IsTup h₀ t refs.toArray) (hp : PairsAre h₀ refs ps)
    (he : wpAny (model prog w) A (eval iter env) (fun v s' => v = .ref t ∧ Keeps s s') E s)
    (turn : ∀ a b c ub uc (u : Str → Option Value) h tk own, (b, c) ∈ ps → (hit (b, c) = true → ps.find? hit = some (b, c)) → IsTup h₀ a #[.int b ub, .str c uc] → (∀ p ∈ own, ∀ q ∈ news, p.1 ≠ q.1) →
      Fr h₀ env.locals h (fun y => if y = x₀ then u y else if stored.contains y then u y else m₀ y) → News h₀ env.locals h (own ++ news) →
      wpAny (model prog w) A (assign target env (.ref a)) (fun _ s₂ => wpAny (model prog w) A (execs body env)
        (FirstStep h₀ env.locals own news (fun m => ∀ z, z ≠ x₀ → stored.contains z = false → m z = m₀ z) { s with heap := h, toks := tk } (hit (b, c)) Q) E s₂) E { s with heap := h, toks := tk })
    (done : ∀ (u : Str → Option Value) h tk, ps.find? hit = none → Fr h₀ env.locals h (fun y => if y = x₀ then u y else if stored.contains y then u y else m₀ y) → News h₀ env.locals h news → wpAny (model prog w) A (execs orelse env) Q E { s with heap := h, toks := tk })
    (hs : ∀ x, foldedSetIterable iter env x = pure x)
    (hE : PassesOwn (model prog w) A env E := by passes_own) :
    wpAny (model prog w) A (exec (.For target iter body orelse pos) env) Q E s := by
  have frU : ∀ {h : Heap} {m : Str → Option Value}, (∀ z, z ≠ x₀ → stored.contains z = false → m z = m₀ z) → Fr h₀ env.locals h m → Fr h₀ env.locals h (fun y => if y = x₀ then m y else if stored.contains y then m y else m₀ y) := by
    intro h m hm F
    have em : (fun y => if y = x₀ then m y else if stored.contains y then m y else m₀ y) = m := by
      funext y
      by_cases h1 : y = x₀
      · rw [if_pos h1]
      · rw [if_neg h1]
        cases h2 : stored.contains y with
        | true => simp
        | false => simp only [Bool.false_eq_true, if_false]; exact (hm y h1 h2).symm
    rw [em]; exact F
  refine for_first (fun m => ∀ z, z ≠ x₀ → stored.contains z = false → m z = m₀ z) (fun i => match ps[i]? with | some p => hit p | none => false) hh F N ht (fun _ _ _ => rfl) he ?_ ?_ hs hE
  · intro i v m₁ h₁ tk₁ own hv hno hM hown F₁ N₁
    obtain ⟨a, b, c, ub, uc, rfl, hT, hpi⟩ := hp.at i v (by simpa using hv)
    have e : (match ps[i]? with | some p => hit p | none => false) = hit (b, c) := by rw [hpi]
    rw [e]
    refine turn a b c ub uc m₁ h₁ tk₁ own (List.mem_of_getElem? hpi) (fun hh => ?_) hT hown (frU hM F₁) N₁
    rw [List.find?_eq_some_iff_getElem]
    have hlt : i < ps.length := (List.getElem?_eq_some_iff.mp hpi).1
    refine ⟨hh, i, hlt, (List.getElem?_eq_some_iff.mp hpi).2, fun j hj => ?_⟩
    have := hno j hj
    rw [List.getElem?_eq_getElem (by omega)] at this
    simpa using this
  · intro h' tk m' hno hM F' N'
    refine done m' h' tk ?_ (frU hM F') N'
    rw [List.find?_eq_none]
    intro p hpm hh
    obtain ⟨j, hj, e⟩ := List.mem_iff_getElem.mp hpm
    have h1 := hno j (by rw [List.size_toArray, hp.len]; exact hj)
    rw [List.getElem?_eq_getElem hj, e] at h1
    have h2 : hit p = false := h1
    rw [hh] at h2
    cases h2
end
end Mine
end SE8
section SF1
open PySem PySem.W PyProof.Rows PySem.Calls PySem.Spec
namespace Mine
noncomputable def hitC (r : Int) (i : Nat) (p : Int × Str) : Bool := if i = 0 then Spec.bitAnd r 61440 == p.1 else Spec.bitAnd r p.1 == p.1
noncomputable def colC (r : Int) (i : Nat) : Str := match (tabs.getD i []).find? (hitC r i) with | some p => p.2 | none => if i = 0 then Str.ofString "?" else Str.ofString "-"
noncomputable def colsC (r : Int) (n : Nat) : List Str := (List.range n).map (colC r)
noncomputable def ModeIs (r : Int) : Prop := r = r
noncomputable def colsOf {r : Int} (_ : ModeIs r) : Nat → List Str := colsC r
noncomputable def hitOf {r : Int} (_ : ModeIs r) {i : Nat} {x : Value} (_ : tabItems[i]? = some x) : Int × Str → Bool := hitC r i
theorem tabs_len : ∀ ps ∈ tabs, ∀ p ∈ ps, p.2.length = 1 := by decide +kernel
theorem colC_len (r : Int) (i : Nat) : (colC r i).length = 1 := by
  unfold colC
  split
  · rename_i p hp
    have h1 := List.mem_of_find?_eq_some hp
    by_cases hi : i < tabs.length
    · rw [List.getD_eq_getElem?_getD, List.getElem?_eq_getElem hi, Option.getD_some] at h1
      exact tabs_len _ (List.getElem_mem hi) _ h1
    · rw [List.getD_eq_getElem?_getD, List.getElem?_eq_none (by omega)] at h1
      cases h1
  · split <;> rfl
theorem colsC_succ (r : Int) (n : Nat) : colsC r (n + 1) = colsC r n ++ [colC r n] := by simp [colsC, List.range_succ]
theorem colsC_sum (r : Int) (n : Nat) : ((colsC r n).map (·.length)).sum = n := by
  induction n with
  | zero => rfl
  | succ n ih => rw [colsC_succ, List.map_append, List.sum_append, ih]; simp [colC_len]
theorem col_hit {r : Int} {i : Nat} {ps : List (Int × Str)} {b : Int} {c : Str} (h : tabs[i]? = some ps) (hf : ps.find? (hitC r i) = some (b, c)) : colC r i = c := by
  unfold colC
  rw [List.getD_eq_getElem?_getD, h, Option.getD_some, hf]
theorem col_miss {r : Int} {i : Nat} {ps : List (Int × Str)} (h : tabs[i]? = some ps) (hf : ps.find? (hitC r i) = none) : colC r i = if i = 0 then Str.ofString "?" else Str.ofString "-" := by
  unfold colC
  rw [List.getD_eq_getElem?_getD, h, Option.getD_some, hf]
noncomputable def colN (r : Int) (i : Nat) : Nat := (colC r i).cps.getD 0 0
theorem colC_eq (r : Int) (i : Nat) : colC r i = ⟨#[colN r i]⟩ := by
  have h := colC_len r i
  unfold colN
  generalize colC r i = c at *
  obtain ⟨⟨l⟩⟩ := c
  match l, h with
  | [a], _ => rfl
noncomputable def rowStr (r : Int) : Str := ⟨#[colN r 0, colN r 1, colN r 2, colN r 3, colN r 4, colN r 5, colN r 6, colN r 7, colN r 8, colN r 9]⟩
theorem row_join (r : Int) : Txt.join (Str.ofString "") (colsC r 10) = rowStr r := by
  show Txt.join (Str.ofString "") [colC r 0, colC r 1, colC r 2, colC r 3, colC r 4, colC r 5, colC r 6, colC r 7, colC r 8, colC r 9] = _
  simp only [colC_eq]
  rfl
end Mine
end SF1
section SF2
open PySem PySem.W PyProof.Rows PySem.Calls PySem.Spec
namespace Mine
theorem strs_append : ∀ {w : List Value} {c : List Str} {x : Str} {t : Tok}, StrsAre w c → StrsAre (w ++ [Value.str x t]) (c ++ [x])
  | _, _, x, t, StrsAre.nil => StrsAre.cons x t StrsAre.nil
  | _, _, _, _, StrsAre.cons y u h => StrsAre.cons y u (strs_append h)
section
variable {prog : Program} {w : World} {A : Around} {E : Value → Shared → Prop} {s : Shared} {h₀ : Heap} {L M : Addr} {m : Str → Option Value} {own' own : List (Addr × Obj)} {ws : List Value} {kk : Nat} {c : List Str} {x : Str} {t : Tok} {Q : Value → Shared → Prop}
theorem append_S (F : Fr h₀ L s.heap m) (N : News h₀ L s.heap (own' ++ (M, W.listOf ws.toArray kk) :: own)) (hown : ∀ p ∈ own', ∀ q ∈ (M, W.listOf ws.toArray kk) :: own, p.1 ≠ q.1) (hoff : OwnOff own [M]) (hw : StrsAre ws c) (hl : c.length ≤ 100)
    (h : ∀ h', Fr h₀ L h' m → News h₀ L h' (own' ++ (M, W.listOf (ws ++ [Value.str x t]).toArray (kk + 1)) :: own) → StrsAre (ws ++ [Value.str x t]) (c ++ [x]) → Q .none { s with heap := h' }) :
    wpAny (model prog w) A (call (.builtin "list.append") [Value.ref M, Value.str x t]) Q E s := by
  have z := N (M, W.listOf ws.toArray kk) (List.mem_append.mpr (.inr (.head _)))
  have hsz : ws.toArray.size ≤ sizeLine := by
    have := hw.length
    simp only [List.size_toArray, sizeLine_eq]; omega
  refine append_at (hsz := hsz) z.1 fun h' hs ho' => h h' (F.change hs z.2.1 z.2.2) ?_ (strs_append hw)
  · have e : ws.toArray.push (Value.str x t) = (ws ++ [Value.str x t]).toArray := by simp
    rw [e] at ho'
    exact news_set N (fun p hp => hown p hp _ (.head _)) (fun p hp => hoff p hp _ (.head _)) hs ho'
theorem append_S0 (F : Fr h₀ L s.heap m) (N : News h₀ L s.heap ((M, W.listOf ws.toArray kk) :: own)) (hoff : OwnOff own [M]) (hw : StrsAre ws c) (hl : c.length ≤ 100)
    (h : ∀ h', Fr h₀ L h' m → News h₀ L h' ((M, W.listOf (ws ++ [Value.str x t]).toArray (kk + 1)) :: own) → StrsAre (ws ++ [Value.str x t]) (c ++ [x]) → Q .none { s with heap := h' }) :
    wpAny (model prog w) A (call (.builtin "list.append") [Value.ref M, Value.str x t]) Q E s :=
  append_S (own' := []) F N (fun _ h => nomatch h) hoff hw hl h
theorem join_S (N : News h₀ L s.heap ((M, W.listOf ws.toArray kk) :: own)) (hw : StrsAre ws c) (hl : (c.map (·.length)).sum ≤ 10000) {sep : Str} (hsep : sep.length = 0)
    (h : ∀ t' k, Q (Value.str (Txt.join sep c) t') { s with toks := k }) :
    wpAny (model prog w) A (call (.builtin "str.join") [Value.str sep t, Value.ref M]) Q E s := by
  refine join_list ⟨_, (N _ (.head _)).1, rfl, _, rfl⟩ hw (by rw [hsep]; omega) h
end
theorem cols_small {r : Int} {hm : ModeIs r} {i : Nat} {x : Value} (hx : tabItems[i]? = some x) : (colsOf hm i).length ≤ 100 := by
  have hi : i < 10 := by
    have := (Array.getElem?_eq_some_iff.mp hx).1
    simpa [tabItems] using this
  show ((List.range i).map (colC r)).length ≤ 100
  simp; omega
theorem cols_sum {r : Int} {hm : ModeIs r} : ((colsOf hm tabItems.size).map (·.length)).sum ≤ 10000 := by
  have := colsC_sum r tabItems.size
  show ((colsC r tabItems.size).map (·.length)).sum ≤ 10000
  rw [this]; decide
theorem row_val {r : Int} {hm : ModeIs r} {t : Tok} : Value.str (Txt.join (Str.ofString "") (colsOf hm tabItems.size)) t = Value.str (rowStr r) t := by
  have : Txt.join (Str.ofString "") (colsOf hm tabItems.size) = rowStr r := row_join r
  rw [this]
section
variable {r : Int} {hm : ModeIs r} {i : Nat} {x : Value} {hx : tabItems[i]? = some x} {b : Int} {c : Str} {ps : List (Int × Str)}
theorem hit0 (hi : (i : Int) = 0) (h : Builtin.bitAnd r 61440 = b) : hitOf hm hx (b, c) = true := by
  have : i = 0 := by omega
  subst this
  show hitC r 0 (b, c) = true
  unfold hitC
  rw [if_pos rfl]; exact beq_iff_eq.mpr h
theorem hit1 (hi : (i : Int) ≠ 0) (h : Builtin.bitAnd r b = b) : hitOf hm hx (b, c) = true := by
  show hitC r i (b, c) = true
  unfold hitC
  rw [if_neg (by omega)]; exact beq_iff_eq.mpr h
theorem miss0 (hi : (i : Int) = 0) (h : Builtin.bitAnd r 61440 ≠ b) : hitOf hm hx (b, c) = false := by
  have : i = 0 := by omega
  subst this
  show hitC r 0 (b, c) = false
  unfold hitC
  rw [if_pos rfl]; exact beq_eq_false_iff_ne.mpr h
theorem miss1 (hi : (i : Int) ≠ 0) (h : Builtin.bitAnd r b ≠ b) : hitOf hm hx (b, c) = false := by
  show hitC r i (b, c) = false
  unfold hitC
  rw [if_neg (by omega)]; exact beq_eq_false_iff_ne.mpr h
theorem cols_hit {ws : List Value} {t : Tok} (h : tabs[i]? = some ps) (hf : hitOf hm hx (b, c) = true → ps.find? (hitOf hm hx) = some (b, c)) (hh : hitOf hm hx (b, c) = true) (hw : StrsAre (ws ++ [Value.str c t]) (colsOf hm i ++ [c])) : StrsAre (ws ++ [Value.str c t]) (colsOf hm (i + 1)) := by
  have : colsOf hm (i + 1) = colsOf hm i ++ [colC r i] := colsC_succ r i
  rw [this, col_hit h (hf hh)]; exact hw
theorem cols_miss0 {ws : List Value} {t : Tok} (h : tabs[i]? = some ps) (hf : ps.find? (hitOf hm hx) = none) (hi : (i : Int) = 0) (hw : StrsAre (ws ++ [.str (Str.ofString "?") t]) (colsOf hm i ++ [Str.ofString "?"])) : StrsAre (ws ++ [.str (Str.ofString "?") t]) (colsOf hm (i + 1)) := by
  have : colsOf hm (i + 1) = colsOf hm i ++ [colC r i] := colsC_succ r i
  rw [this, col_miss h hf, if_pos (by omega)]; exact hw
theorem cols_miss1 {ws : List Value} {t : Tok} (h : tabs[i]? = some ps) (hf : ps.find? (hitOf hm hx) = none) (hi : (i : Int) ≠ 0) (hw : StrsAre (ws ++ [.str (Str.ofString "-") t]) (colsOf hm i ++ [Str.ofString "-"])) : StrsAre (ws ++ [.str (Str.ofString "-") t]) (colsOf hm (i + 1)) := by
  have : colsOf hm (i + 1) = colsOf hm i ++ [colC r i] := colsC_succ r i
  rw [this, col_miss h hf, if_neg (by omega)]; exact hw
end
end Mine
end SF2
section SE9
open PySem PySem.W PyProof.Rows PySem.Calls PySem.Spec
namespace Mine
noncomputable abbrev tup3 (p : Int) (g : Str) (c : Int) (x y z : Tok) : Obj := { cls := .type "tuple", data := .seq #[.int p x, .str g y, .int c z] }
inductive RowsAre (hid : List (Addr × Obj)) : List Value → List (Int × Str × Int) → Prop
  | nil : RowsAre hid [] []
  | cons {a : Addr} {p : Int} {g : Str} {c : Int} {x y z : Tok} {vs rs} : (a, tup3 p g c x y z) ∈ hid → RowsAre hid vs rs → RowsAre hid (.ref a :: vs) ((p, g, c) :: rs)
theorem RowsAre.at {hid : List (Addr × Obj)} : ∀ {vs rs}, RowsAre hid vs rs → ∀ (i : Nat) (v : Value), vs[i]? = some v → ∃ a p g c x y z, v = .ref a ∧ (a, tup3 p g c x y z) ∈ hid ∧ rs[i]? = some (p, g, c)
  | _, _, .nil, j, v, e => by simp at e
  | _, _, .cons t r, 0, v, e => by simp at e; exact ⟨_, _, _, _, _, _, _, e.symm, t, rfl⟩
  | _, _, .cons t r, j + 1, v, e => by simpa using r.at j v (by simpa using e)
noncomputable def CellO (o : Obj) : Prop := ∃ x, o.data = .cell x
section
variable {prog : Program} {w : World} {A : Around} {E : Value → Shared → Prop} {s : Shared} {env : Env} {h₀ : Heap} {body : List Stmt} {Q : Flow → Shared → Prop}
noncomputable def RowsJ (M C3 C2 : Addr) (ps : List Int) (x₀ : Str) (stored : List Str) (m₀ m : Str → Option Value) (nx : List (Addr × Obj)) : Prop :=
  ∃ (w : List Value) (kk : Nat) (o3 o2 : Obj), nx = [(M, W.listOf w.toArray kk), (C3, o3), (C2, o2)] ∧ IntsAre w ps ∧ CellO o3 ∧ CellO o2 ∧ ∀ z, z ≠ x₀ → stored.contains z = false → m z = m₀ z
theorem rows_inv {w' : World} {elts : List Expr} {k₀ : Nat} {pos : Pos} {S M C3 C2 : Addr} {vs : List Value} {nS kk₀ : Nat} {w₀ : List Value} {o3 o2 : Obj} {vis hid news₀ : List (Addr × Obj)} {rws : List (Int × Str × Int)} {x₀ : Str} {m₀ : Str → Option Value}
    (stored : List Str) (pot : Nat → List Int)
    (hh : A.handled = none) (F : Fr h₀ env.locals s.heap m₀) (N : News h₀ env.locals s.heap news₀)
    (hsub : ∀ p ∈ (M, W.listOf w₀.toArray kk₀) :: (C3, o3) :: (C2, o2) :: (vis ++ hid), p ∈ news₀) (hS : (S, W.listOf vs.toArray nS) ∈ hid) (hoff : OwnOff hid [M, C3, C2])
    (hrows : RowsAre hid vs rws) (hw : IntsAre w₀ (pot 0)) (hc3 : CellO o3) (hc2 : CellO o2)
    (turn : ∀ (w : List Value) (kk : Nat) (o3 o2 : Obj) x3 x2 i T p g c x y z (u : Str → Option Value) h tk rest, rws[i]? = some (p, g, c) → IntsAre w (pot i) → o3.data = .cell x3 → o2.data = .cell x2 → OwnOff rest [M, C3, C2] → IsTup h T #[.int p x, .str g y, .int c z] →
      Fr h₀ env.locals h (fun y => if y = x₀ then u y else if stored.contains y then u y else m₀ y) → News h₀ env.locals h ((M, W.listOf w.toArray kk) :: (C3, o3) :: (C2, o2) :: (vis ++ rest)) →
      wpAny (model prog w') A (assign (.Tuple elts k₀ pos) env (.ref T)) (fun _ s₂ => wpAny (model prog w') A (execs body env)
        (InvPostN h₀ env.locals (RowsJ M C3 C2 (pot (i + 1)) x₀ stored m₀) (vis ++ rest) [M, C3, C2] { s with heap := h, toks := tk } Q) E s₂) E { s with heap := h, toks := tk })
    (done : ∀ (w : List Value) (kk : Nat) (o3 o2 : Obj) (u : Str → Option Value) h tk, IntsAre w (pot vs.length) → Fr h₀ env.locals h (fun y => if y = x₀ then u y else if stored.contains y then u y else m₀ y) → News h₀ env.locals h ((M, W.listOf w.toArray kk) :: (C3, o3) :: (C2, o2) :: vis) → Q .next { s with heap := h, toks := tk }) :
    wpAny (model prog w') A (pyIter (.ref S)) (fun it s₂ => TurnsAt prog w' A h₀ env (.Tuple elts k₀ pos) body Q E it s₂) E s := by
  have frU : ∀ {h : Heap} {m : Str → Option Value}, (∀ z, z ≠ x₀ → stored.contains z = false → m z = m₀ z) → Fr h₀ env.locals h m → Fr h₀ env.locals h (fun y => if y = x₀ then m y else if stored.contains y then m y else m₀ y) := by
    intro h m hm F
    have em : (fun y => if y = x₀ then m y else if stored.contains y then m y else m₀ y) = m := by
      funext y
      by_cases h1 : y = x₀
      · rw [if_pos h1]
      · rw [if_neg h1]
        cases h2 : stored.contains y with
        | true => simp
        | false => simp only [Bool.false_eq_true, if_false]; exact (hm y h1 h2).symm
    rw [em]; exact F
  have N0 : News h₀ env.locals s.heap ((M, W.listOf w₀.toArray kk₀) :: (C3, o3) :: (C2, o2) :: (vis ++ hid)) := fun p hp => N p (hsub p hp)
  have hSn : (S, W.listOf vs.toArray nS) ∈ (M, W.listOf w₀.toArray kk₀) :: (C3, o3) :: (C2, o2) :: (vis ++ hid) := by
    simp only [List.mem_cons, List.mem_append]; exact .inr (.inr (.inr (.inr hS)))
  have hax := N0 _ hSn
  have hls : s.heap.IsList S vs.toArray := ⟨_, hax.1, rfl, nS, rfl⟩
  have hlt : S < s.heap.objs.size := Heap.lt_size hax.1
  have hLs : env.locals < s.heap.objs.size := F.ns.lt
  have hlens : ∀ p ∈ (M, W.listOf w₀.toArray kk₀) :: (C3, o3) :: (C2, o2) :: (vis ++ hid), p.1 < s.heap.objs.size := fun p hp => Heap.lt_size (N0 p hp).1
  let J : Nat → (Str → Option Value) → List (Addr × Obj) → Prop := fun i m nx => ∃ (w : List Value) (kk : Nat) (o3 o2 : Obj), nx = (M, W.listOf w.toArray kk) :: (C3, o3) :: (C2, o2) :: (vis ++ hid) ∧ IntsAre w (pot i) ∧ CellO o3 ∧ CellO o2 ∧ ∀ z, z ≠ x₀ → stored.contains z = false → m z = m₀ z
  refine wpAny_pyIter_list hls ?_
  refine ⟨s.heap.objs.size, _, _, _, _, _, _, m₀, _, J, rfl, KTurns.ofWalks (Walks.list hh s.heap.objs.size S (Nat.ne_of_lt hlt) vs.toArray) (fun i v s Q E st q => letGo_listiter st.1 q), ?_, ?_, ?_, ⟨⟨_, Heap.get?_push_size _ rfl, rfl, rfl⟩, hls.at fun o e => Heap.get?_push_of_some _ e⟩, F.push _, (fun p hp => ⟨Heap.get?_push_of_some _ (N0 p hp).1, (N0 p hp).2⟩), ⟨w₀, kk₀, o3, o2, rfl, hw, hc3, hc2, fun _ _ _ => rfl⟩, ?_, ?_⟩
  · intro hI'
    have hb' : env.locals = s.heap.objs.size ∨ env.locals = S := by simpa using hI'
    rcases hb' with e | e
    · exact Nat.ne_of_lt hLs e
    · exact hax.2.1 e.symm
  · intro b hb
    rw [List.mem_singleton.mp hb]
    exact ktu_new F (Nat.le_refl _)
  · intro p hp hI'
    exact absurd (hlens p hp) ((List.mem_singleton.mp hI') ▸ Nat.lt_irrefl _)
  · rintro i v m₁ news₁ h₁ tk₁ own hi' hP ⟨w, kk, o3', o2', rfl, hw', ⟨x3, hx3⟩, ⟨x2, hx2⟩, hm'⟩ hwr hown _ _ _ F₁ N₁
    obtain ⟨T, p, g, c, x, y, z, rfl, hT, hr⟩ := hrows.at i v (by simpa using hP)
    have hoff' : OwnOff (hid ++ own) [M, C3, C2] := by
      intro q hq b hb e
      rcases List.mem_append.mp hq with hq | hq
      · exact hoff q hq b hb e
      · have hb2 : b < s.heap.objs.size := by
          simp only [List.mem_cons, List.not_mem_nil, or_false] at hb
          rcases hb with rfl | rfl | rfl
          · exact hlens _ (.head _)
          · exact hlens _ (.tail _ (.head _))
          · exact hlens _ (.tail _ (.tail _ (.head _)))
        have h1 : q.1 = s.heap.objs.size ∨ q.1 = S := by simpa using hown q hq
        rcases h1 with h1 | h1
        · rw [← e, h1] at hb2; exact Nat.lt_irrefl _ hb2
        · exact hoff _ hS b hb (h1.symm.trans e)
    have N₂ : News h₀ env.locals h₁ ((M, W.listOf w.toArray kk) :: (C3, o3') :: (C2, o2') :: (vis ++ (hid ++ own))) := by
      intro q hq
      refine N₁ q ?_
      simp only [List.mem_cons, List.mem_append] at hq ⊢
      rcases hq with h | h | h | h | h | h <;> simp [h]
    have hTt : IsTup h₁ T #[.int p x, .str g y, .int c z] := ⟨_, (N₂ (T, tup3 p g c x y z) (by simp [hT])).1, rfl, _, rfl⟩
    refine wpAny_mono (turn w kk o3' o2' x3 x2 i T p g c x y z m₁ h₁ tk₁ (hid ++ own) hr hw' hx3 hx2 hoff' hTt (frU hm' F₁) N₂) (fun _ s₂ h₂ => wpAny_mono h₂ (fun f s₃ h₃ => ?_) fun _ _ e => e) fun _ _ e => e
    have fin : InvEndN h₀ env.locals (RowsJ M C3 C2 (pot (i + 1)) x₀ stored m₀) (vis ++ (hid ++ own)) [M, C3, C2] { s with heap := h₁, toks := tk₁ } s₃ →
        LoopStepU h₀ env.locals [s.heap.objs.size] own (J (i + 1)) { s with heap := h₁, toks := tk₁ } .next s₃ := by
      rintro ⟨h', tk, m', news', nx, e, F', N', hn', ho', _, ⟨w2, kk2, o32, o22, rfl, hw2, h32, h22, hm2⟩⟩
      refine ⟨rfl, h', tk, m', (M, W.listOf w2.toArray kk2) :: (C3, o32) :: (C2, o22) :: (vis ++ hid), e, F', ?_, ?_, ⟨w2, kk2, o32, o22, rfl, hw2, h32, h22, hm2⟩⟩
      · intro q hq
        refine N' q ?_
        simp only [List.mem_cons, List.mem_append] at hq
        rcases hq with h | h | h | h | h | h
        · exact ho' q (by simp [h])
        · exact hn' q (by simp [h])
        · exact hn' q (by simp [h])
        · exact hn' q (by simp [h])
        · exact ho' q (by simp [h])
        · exact ho' q (by simp [h])
      · intro q hq hI'
        have e1 := List.mem_singleton.mp hI'
        have : q.1 < s.heap.objs.size := by
          simp only [List.mem_cons] at hq
          rcases hq with rfl | rfl | rfl | hq
          · exact hlens (M, W.listOf w₀.toArray kk₀) (.head _)
          · exact hlens (C3, o3) (.tail _ (.head _))
          · exact hlens (C2, o2) (.tail _ (.tail _ (.head _)))
          · exact hlens q (by simp only [List.mem_cons]; exact .inr (.inr (.inr hq)))
        rw [e1] at this; exact Nat.lt_irrefl _ this
    cases f with
    | ret v => exact h₃
    | brk => exact h₃
    | next => exact fin h₃
    | cont => exact fin h₃
  · rintro h' tk m' news' F' N' _ ⟨w2, kk2, o32, o22, rfl, hw2, _, _, hm2⟩
    have e : vs.toArray.size = vs.length := by simp
    rw [e] at hw2
    exact done w2 kk2 o32 o22 m' h' tk hw2 (frU hm2 F') fun q hq => N' q (by
      simp only [List.mem_cons, List.mem_append] at hq ⊢
      rcases hq with h | h | h | h <;> simp [h])
end
theorem off_one {b a x S : Nat} (h : b < a ∨ S < b) (h1 : a ≤ x) (h2 : x ≤ S) : b ≠ x := by
  rcases h with h | h
  · exact Nat.ne_of_lt (Nat.lt_of_lt_of_le h h1)
  · exact Nat.ne_of_gt (Nat.lt_of_le_of_lt h2 h)
theorem offs_nat (M C3 C2 S a0 a1 a2 a3 a4 a5 a6 a7 a8 a9 a10 a11 b : Nat) (h0 : C3 < a0) (h0' : C2 < a0) (h1 : a0 < a1) (h2 : a1 < a2) (h3 : a2 < a3) (h4 : a3 < a4) (h5 : a4 < a5) (h6 : a5 < a6) (h7 : a6 < a7) (h8 : a7 < a8) (h9 : a8 < a9) (h10 : a9 < a10) (h11 : a10 < a11) (h12 : a11 < S) (hM : S < M) (hb : b = M ∨ b = C3 ∨ b = C2) : b ≠ S ∧ b ≠ a11 ∧ b ≠ a10 ∧ b ≠ a9 ∧ b ≠ a8 ∧ b ≠ a7 ∧ b ≠ a6 ∧ b ≠ a5 ∧ b ≠ a4 ∧ b ≠ a3 ∧ b ≠ a2 ∧ b ≠ a1 ∧ b ≠ a0 := by
  have e0 : a0 ≤ a0 := Nat.le_refl a0
  have e1 : a0 ≤ a1 := Nat.le_trans e0 (Nat.le_of_lt h1)
  have e2 : a0 ≤ a2 := Nat.le_trans e1 (Nat.le_of_lt h2)
  have e3 : a0 ≤ a3 := Nat.le_trans e2 (Nat.le_of_lt h3)
  have e4 : a0 ≤ a4 := Nat.le_trans e3 (Nat.le_of_lt h4)
  have e5 : a0 ≤ a5 := Nat.le_trans e4 (Nat.le_of_lt h5)
  have e6 : a0 ≤ a6 := Nat.le_trans e5 (Nat.le_of_lt h6)
  have e7 : a0 ≤ a7 := Nat.le_trans e6 (Nat.le_of_lt h7)
  have e8 : a0 ≤ a8 := Nat.le_trans e7 (Nat.le_of_lt h8)
  have e9 : a0 ≤ a9 := Nat.le_trans e8 (Nat.le_of_lt h9)
  have e10 : a0 ≤ a10 := Nat.le_trans e9 (Nat.le_of_lt h10)
  have e11 : a0 ≤ a11 := Nat.le_trans e10 (Nat.le_of_lt h11)
  have eS : a0 ≤ S := Nat.le_trans e11 (Nat.le_of_lt h12)
  have f11 : a11 ≤ S := Nat.le_of_lt h12
  have f10 : a10 ≤ S := Nat.le_trans (Nat.le_of_lt h11) f11
  have f9 : a9 ≤ S := Nat.le_trans (Nat.le_of_lt h10) f10
  have f8 : a8 ≤ S := Nat.le_trans (Nat.le_of_lt h9) f9
  have f7 : a7 ≤ S := Nat.le_trans (Nat.le_of_lt h8) f8
  have f6 : a6 ≤ S := Nat.le_trans (Nat.le_of_lt h7) f7
  have f5 : a5 ≤ S := Nat.le_trans (Nat.le_of_lt h6) f6
  have f4 : a4 ≤ S := Nat.le_trans (Nat.le_of_lt h5) f5
  have f3 : a3 ≤ S := Nat.le_trans (Nat.le_of_lt h4) f4
  have f2 : a2 ≤ S := Nat.le_trans (Nat.le_of_lt h3) f3
  have f1 : a1 ≤ S := Nat.le_trans (Nat.le_of_lt h2) f2
  have f0 : a0 ≤ S := Nat.le_trans (Nat.le_of_lt h1) f1
  have g : b < a0 ∨ S < b := by rcases hb with h | h | h <;> subst h; exact .inr hM; exact .inl h0; exact .inl h0'
  exact ⟨off_one g eS (Nat.le_refl S), off_one g e11 f11, off_one g e10 f10, off_one g e9 f9, off_one g e8 f8, off_one g e7 f7, off_one g e6 f6, off_one g e5 f5, off_one g e4 f4, off_one g e3 f3, off_one g e2 f2, off_one g e1 f1, off_one g e0 f0⟩
noncomputable def shownL : List (Int × Str × Int) := [(3, Str.ofString "sS", 144000), (6, Str.ofString "sS", 72000), (9, Str.ofString "tT", 36000), (1, Str.ofString "r", 14400), (2, Str.ofString "w", 7200), (3, Str.ofString "xs", 3600), (4, Str.ofString "r", 2400), (5, Str.ofString "w", 1200), (6, Str.ofString "xs", 600), (7, Str.ofString "r", 240), (8, Str.ofString "w", 120), (9, Str.ofString "xt", 60)]
section
variable {prog : Program} {w : World} {A : Around} {E : Value → Shared → Prop} {s : Shared} {env : Env} {h₀ : Heap} {body : List Stmt} {Q : Flow → Shared → Prop}
theorem kst_rows {w' : World} {elts : List Expr} {k₀ : Nat} {pos : Pos} {S M H tmp C3 C2 C1 rl sl a0 a1 a2 a3 a4 a5 a6 a7 a8 a9 a10 a11 : Addr} {nS kk₀ : Nat} {w₀ : List Value} {o3 o2 o1 oT oH orl osl : Obj} {x0 y0 z0 x1 y1 z1 x2 y2 z2 x3 y3 z3 x4 y4 z4 x5 y5 z5 x6 y6 z6 x7 y7 z7 x8 y8 z8 x9 y9 z9 x10 y10 z10 x11 y11 z11 : Tok} {x₀ : Str} {m₀ : Str → Option Value} {x30 x20 : Option Value} {q0 q1 q2 q3 q4 q5 q6 q7 q8 q9 q10 q11 q12 q13 : Prop}
    (stored : List Str) (pot : Nat → List Int)
    (hh : A.handled = none) (F : Fr h₀ env.locals s.heap m₀)
    (N : News h₀ env.locals s.heap [(M, W.listOf w₀.toArray kk₀), (tmp, oT), (H, oH), (S, W.listOf #[Value.ref a0, Value.ref a1, Value.ref a2, Value.ref a3, Value.ref a4, Value.ref a5, Value.ref a6, Value.ref a7, Value.ref a8, Value.ref a9, Value.ref a10, Value.ref a11] nS), (a11, tup3 9 (Str.ofString "xt") 60 x11 y11 z11), (a10, tup3 8 (Str.ofString "w") 120 x10 y10 z10), (a9, tup3 7 (Str.ofString "r") 240 x9 y9 z9), (a8, tup3 6 (Str.ofString "xs") 600 x8 y8 z8), (a7, tup3 5 (Str.ofString "w") 1200 x7 y7 z7), (a6, tup3 4 (Str.ofString "r") 2400 x6 y6 z6), (a5, tup3 3 (Str.ofString "xs") 3600 x5 y5 z5), (a4, tup3 2 (Str.ofString "w") 7200 x4 y4 z4), (a3, tup3 1 (Str.ofString "r") 14400 x3 y3 z3), (a2, tup3 9 (Str.ofString "tT") 36000 x2 y2 z2), (a1, tup3 6 (Str.ofString "sS") 72000 x1 y1 z1), (a0, tup3 3 (Str.ofString "sS") 144000 x0 y0 z0), (C3, o3), (C2, o2), (C1, o1), (rl, orl), (sl, osl)])
    (hA0 : @LT.lt Nat _ C3 a0 ∧ @LT.lt Nat _ C2 a0 ∧ q0) (hA1 : @LT.lt Nat _ a0 a1 ∧ q1) (hA2 : @LT.lt Nat _ a1 a2 ∧ q2) (hA3 : @LT.lt Nat _ a2 a3 ∧ q3) (hA4 : @LT.lt Nat _ a3 a4 ∧ q4) (hA5 : @LT.lt Nat _ a4 a5 ∧ q5) (hA6 : @LT.lt Nat _ a5 a6 ∧ q6) (hA7 : @LT.lt Nat _ a6 a7 ∧ q7) (hA8 : @LT.lt Nat _ a7 a8 ∧ q8) (hA9 : @LT.lt Nat _ a8 a9 ∧ q9) (hA10 : @LT.lt Nat _ a9 a10 ∧ q10) (hA11 : @LT.lt Nat _ a10 a11 ∧ q11) (hA12 : @LT.lt Nat _ a11 S ∧ q12) (hM : @LT.lt Nat _ tmp M ∧ @LT.lt Nat _ H M ∧ @LT.lt Nat _ S M ∧ q13)
    (hw : IntsAre w₀ (pot 0)) (hc3 : o3.data = .cell x30) (hc2 : o2.data = .cell x20)
    (turn : ∀ (w : List Value) (kk : Nat) (o3 o2 : Obj) x3 x2 i T p g c x y z (u : Str → Option Value) h tk rest, shownL[i]? = some (p, g, c) → IntsAre w (pot i) → o3.data = .cell x3 → o2.data = .cell x2 → OwnOff rest [M, C3, C2] → IsTup h T #[.int p x, .str g y, .int c z] →
      Fr h₀ env.locals h (fun y => if y = x₀ then u y else if stored.contains y then u y else m₀ y) → News h₀ env.locals h ((M, W.listOf w.toArray kk) :: (C3, o3) :: (C2, o2) :: (H, oH) :: (C1, o1) :: (rl, orl) :: (sl, osl) :: rest) →
      wpAny (model prog w') A (assign (.Tuple elts k₀ pos) env (.ref T)) (fun _ s₂ => wpAny (model prog w') A (execs body env)
        (InvPostN h₀ env.locals (RowsJ M C3 C2 (pot (i + 1)) x₀ stored m₀) ((H, oH) :: (C1, o1) :: (rl, orl) :: (sl, osl) :: rest) [M, C3, C2] { s with heap := h, toks := tk } Q) E s₂) E { s with heap := h, toks := tk })
    (done : ∀ (w : List Value) (kk : Nat) (o3 o2 : Obj) (u : Str → Option Value) h tk, IntsAre w (pot 12) → Fr h₀ env.locals h (fun y => if y = x₀ then u y else if stored.contains y then u y else m₀ y) → News h₀ env.locals h [(M, W.listOf w.toArray kk), (C3, o3), (C2, o2), (H, oH), (C1, o1), (rl, orl), (sl, osl)] → Q .next { s with heap := h, toks := tk }) :
    wpAny (model prog w') A (pyIter (.ref S)) (fun it s₂ => TurnsAt prog w' A h₀ env (.Tuple elts k₀ pos) body Q E it s₂) E s := by
  refine rows_inv (S := S) (kk₀ := kk₀) (nS := nS) (M := M) (C3 := C3) (C2 := C2) (vs := [Value.ref a0, Value.ref a1, Value.ref a2, Value.ref a3, Value.ref a4, Value.ref a5, Value.ref a6, Value.ref a7, Value.ref a8, Value.ref a9, Value.ref a10, Value.ref a11]) (vis := [(H, oH), (C1, o1), (rl, orl), (sl, osl)]) (hid := [(S, W.listOf #[Value.ref a0, Value.ref a1, Value.ref a2, Value.ref a3, Value.ref a4, Value.ref a5, Value.ref a6, Value.ref a7, Value.ref a8, Value.ref a9, Value.ref a10, Value.ref a11] nS), (a11, tup3 9 (Str.ofString "xt") 60 x11 y11 z11), (a10, tup3 8 (Str.ofString "w") 120 x10 y10 z10), (a9, tup3 7 (Str.ofString "r") 240 x9 y9 z9), (a8, tup3 6 (Str.ofString "xs") 600 x8 y8 z8), (a7, tup3 5 (Str.ofString "w") 1200 x7 y7 z7), (a6, tup3 4 (Str.ofString "r") 2400 x6 y6 z6), (a5, tup3 3 (Str.ofString "xs") 3600 x5 y5 z5), (a4, tup3 2 (Str.ofString "w") 7200 x4 y4 z4), (a3, tup3 1 (Str.ofString "r") 14400 x3 y3 z3), (a2, tup3 9 (Str.ofString "tT") 36000 x2 y2 z2), (a1, tup3 6 (Str.ofString "sS") 72000 x1 y1 z1), (a0, tup3 3 (Str.ofString "sS") 144000 x0 y0 z0)]) (rws := shownL) stored pot hh F N ?_ (.head _) ?_ ?_ hw ⟨_, hc3⟩ ⟨_, hc2⟩ turn done
  · intro p hp
    simp only [List.cons_append, List.nil_append, List.mem_cons, List.not_mem_nil, or_false] at hp ⊢
    rcases hp with h | h | h | h | h | h | h | h | h | h | h | h | h | h | h | h | h | h | h | h <;> simp only [h, true_or, or_true]
  · intro p hp b hb
    have g2 : b = M ∨ b = C3 ∨ b = C2 := by simpa only [List.mem_cons, List.not_mem_nil, or_false] using hb
    simp only [List.mem_cons, List.not_mem_nil, or_false] at hp
    have g := offs_nat M C3 C2 S a0 a1 a2 a3 a4 a5 a6 a7 a8 a9 a10 a11 b hA0.1 hA0.2.1 hA1.1 hA2.1 hA3.1 hA4.1 hA5.1 hA6.1 hA7.1 hA8.1 hA9.1 hA10.1 hA11.1 hA12.1 hM.2.2.1 g2
    rcases hp with rfl | rfl | rfl | rfl | rfl | rfl | rfl | rfl | rfl | rfl | rfl | rfl | rfl
    · exact fun e => g.1 e.symm
    · exact fun e => g.2.1 e.symm
    · exact fun e => g.2.2.1 e.symm
    · exact fun e => g.2.2.2.1 e.symm
    · exact fun e => g.2.2.2.2.1 e.symm
    · exact fun e => g.2.2.2.2.2.1 e.symm
    · exact fun e => g.2.2.2.2.2.2.1 e.symm
    · exact fun e => g.2.2.2.2.2.2.2.1 e.symm
    · exact fun e => g.2.2.2.2.2.2.2.2.1 e.symm
    · exact fun e => g.2.2.2.2.2.2.2.2.2.1 e.symm
    · exact fun e => g.2.2.2.2.2.2.2.2.2.2.1 e.symm
    · exact fun e => g.2.2.2.2.2.2.2.2.2.2.2.1 e.symm
    · exact fun e => g.2.2.2.2.2.2.2.2.2.2.2.2 e.symm
  · exact (RowsAre.cons (List.Mem.tail _ (List.Mem.tail _ (List.Mem.tail _ (List.Mem.tail _ (List.Mem.tail _ (List.Mem.tail _ (List.Mem.tail _ (List.Mem.tail _ (List.Mem.tail _ (List.Mem.tail _ (List.Mem.tail _ (List.Mem.tail _ (List.Mem.head _))))))))))))) (RowsAre.cons (List.Mem.tail _ (List.Mem.tail _ (List.Mem.tail _ (List.Mem.tail _ (List.Mem.tail _ (List.Mem.tail _ (List.Mem.tail _ (List.Mem.tail _ (List.Mem.tail _ (List.Mem.tail _ (List.Mem.tail _ (List.Mem.head _)))))))))))) (RowsAre.cons (List.Mem.tail _ (List.Mem.tail _ (List.Mem.tail _ (List.Mem.tail _ (List.Mem.tail _ (List.Mem.tail _ (List.Mem.tail _ (List.Mem.tail _ (List.Mem.tail _ (List.Mem.tail _ (List.Mem.head _))))))))))) (RowsAre.cons (List.Mem.tail _ (List.Mem.tail _ (List.Mem.tail _ (List.Mem.tail _ (List.Mem.tail _ (List.Mem.tail _ (List.Mem.tail _ (List.Mem.tail _ (List.Mem.tail _ (List.Mem.head _)))))))))) (RowsAre.cons (List.Mem.tail _ (List.Mem.tail _ (List.Mem.tail _ (List.Mem.tail _ (List.Mem.tail _ (List.Mem.tail _ (List.Mem.tail _ (List.Mem.tail _ (List.Mem.head _))))))))) (RowsAre.cons (List.Mem.tail _ (List.Mem.tail _ (List.Mem.tail _ (List.Mem.tail _ (List.Mem.tail _ (List.Mem.tail _ (List.Mem.tail _ (List.Mem.head _)))))))) (RowsAre.cons (List.Mem.tail _ (List.Mem.tail _ (List.Mem.tail _ (List.Mem.tail _ (List.Mem.tail _ (List.Mem.tail _ (List.Mem.head _))))))) (RowsAre.cons (List.Mem.tail _ (List.Mem.tail _ (List.Mem.tail _ (List.Mem.tail _ (List.Mem.tail _ (List.Mem.head _)))))) (RowsAre.cons (List.Mem.tail _ (List.Mem.tail _ (List.Mem.tail _ (List.Mem.tail _ (List.Mem.head _))))) (RowsAre.cons (List.Mem.tail _ (List.Mem.tail _ (List.Mem.tail _ (List.Mem.head _)))) (RowsAre.cons (List.Mem.tail _ (List.Mem.tail _ (List.Mem.head _))) (RowsAre.cons (List.Mem.tail _ (List.Mem.head _)) RowsAre.nil))))))))))))
end
end Mine
end SE9
section SF3
open PySem PySem.W PyProof.Rows PySem.Calls PySem.Spec
namespace Mine
noncomputable def RowsOf (n0 n1 n2 n3 : Int) : Prop := n0 = n0 ∧ n1 = n1 ∧ n2 = n2 ∧ n3 = n3
noncomputable def rowN (n0 n1 n2 n3 : Int) (k : Nat) : Int := match k with | 0 => n0 | 1 => n1 | 2 => n2 | _ => n3
noncomputable def hitR (n : Int) (p : Int) (g : Str) : Bool := !(Builtin.Str.occurrences g ⟨#[colN n p.toNat]⟩ 0 g.length 1).isEmpty
noncomputable def holdUp (n0 n1 n2 n3 : Int) (p : Int) (g : Str) : Nat → Int
  | 0 => 0
  | k + 1 => holdUp n0 n1 n2 n3 p g k + if hitR (rowN n0 n1 n2 n3 k) p g then 2 ^ k else 0
noncomputable def SumIs (ys : List Value) (n : Int) (l : Nat) : Prop := ∃ zs, IntsAre ys zs ∧ zs.sum = n ∧ zs.length ≤ l
noncomputable def sizesL : List Int := [0,1,1,2,1,2,2,3,1,2,2,3,2,3,3,4]
noncomputable def harmL : List Int := [0, 12, 18, 22, 25]
noncomputable def payR (n0 n1 n2 n3 : Int) (who : Nat) (r : Int × Str × Int) : Int := r.2.2 * harmL.getD (sizesL.getD (Builtin.bitAnd (holdUp n0 n1 n2 n3 r.1 r.2.1 4) who).toNat 0).toNat 0
noncomputable def potR (n0 n1 n2 n3 : Int) (i : Nat) (who : Nat) : Int := ((shownL.take i).map (payR n0 n1 n2 n3 who)).sum
noncomputable def potOf {n0 n1 n2 n3 : Int} (_ : RowsOf n0 n1 n2 n3) (i : Nat) : List Int := (List.range 16).map (potR n0 n1 n2 n3 i)
theorem potz {n0 n1 n2 n3 : Int} {h : RowsOf n0 n1 n2 n3} {t : Tok} : IntsAre (List.replicate (Int.toNat 16) [Value.int 0 t]).flatten (potOf h 0) := by
  have e1 : potOf h 0 = [0,0,0,0,0,0,0,0,0,0,0,0,0,0,0,0] := rfl
  have e2 : (List.replicate (Int.toNat 16) [Value.int 0 t]).flatten = [Value.int 0 t, Value.int 0 t, Value.int 0 t, Value.int 0 t, Value.int 0 t, Value.int 0 t, Value.int 0 t, Value.int 0 t, Value.int 0 t, Value.int 0 t, Value.int 0 t, Value.int 0 t, Value.int 0 t, Value.int 0 t, Value.int 0 t, Value.int 0 t] := rfl
  rw [e1, e2]
  repeat (first | exact IntsAre.nil | refine IntsAre.cons _ _ ?_)
theorem shown_bd {i : Nat} {p : Int} {g : Str} {c : Int} (h : shownL[i]? = some (p, g, c)) : 1 ≤ p ∧ p < 10 ∧ 0 ≤ c ∧ c < 200000 := by
  have h1 : ∀ r ∈ shownL, 1 ≤ r.1 ∧ r.1 < 10 ∧ 0 ≤ r.2.2 ∧ r.2.2 < 200000 := by decide +kernel
  exact h1 _ (List.mem_of_getElem? h)
section
variable {prog : Program} {w : World} {A : Around} {E : Value → Shared → Prop} {s : Shared} {h₀ : Heap} {L : Addr} {m : Str → Option Value} {env : Env}
theorem row_item {value slice : PySem.Expr} {n : Int} {t u : Tok} {p : Int} {Q : Value → Shared → Prop} (h0 : 1 ≤ p) (h1 : p < 10) (h : Q (.str ⟨#[colN n p.toNat]⟩ s.toks) { s with toks := s.toks + 1 })
    (hs : subscripted slice false (.str (rowStr n) t) (.int p u) = operate [.str (rowStr n) t, .int p u] (getItem (.str (rowStr n) t) (.int p u)))
    (ht : ∀ r, letTemporaryGo value (.str (rowStr n) t) r = pure ()) :
    wpAny (model prog w) A (subscriptTail value slice (.str (rowStr n) t) (.int p u)) Q E s := by
  refine KXi.item (n := 10) rfl (by omega) (by omega) (by decide) (fun _ => ?_) hs ht
  have e : Txt.item (rowStr n) p = ⟨#[colN n p.toNat]⟩ := by
    unfold rowStr
    have : p = 1 ∨ p = 2 ∨ p = 3 ∨ p = 4 ∨ p = 5 ∨ p = 6 ∨ p = 7 ∨ p = 8 ∨ p = 9 := by omega
    rcases this with rfl | rfl | rfl | rfl | rfl | rfl | rfl | rfl | rfl <;> rfl
  rw [e]; exact h
theorem row_in {n p : Int} {g : Str} {t u : Tok} {Q : Value → Shared → Prop} (h : Q (.bool (hitR n p g)) s) : wpAny (model prog w) A (compareOp .In (.str ⟨#[colN n p.toNat]⟩ u) (.str g t)) Q E s := in_str h
theorem rest_cut_range {ct elt : PySem.Expr} {x : Str} {scope : Scope} {cl : List (Str × Addr)} {S : List (Addr × Obj) → Prop} {Fin : List Value → List (Addr × Obj) → Prop} {k i : Nat} {a : Int} {ys : List Value} {news : List (Addr × Obj)} (R : Nat → List Value → Prop) (kv : Int) (hkv : a + (i : Int) = kv)
    (hR : R i ys)
    (turn : ∀ t I oI C oC D m₂ h tk (E' : Value → Shared → Prop), R i ys → LCg.NsObj oC m₂ → m₂ x = some (.int kv t) → Fr h₀ L h m → News h₀ L h ((I, oI) :: (C, oC) :: (D, LCg.lst ys) :: news) → LCg.Off3 I C D news → ((@Ne Nat I C) ∧ (@Ne Nat I D) ∧ (@Ne Nat C D)) →
      wpAny (model prog w) A (isTrue ct (compEnvC scope cl C env) (eval ct (compEnvC scope cl C env))) (fun ok s' => if ok = true then
        wpAny (model prog w) A (eval elt (compEnvC scope cl C env)) (LCg.CompEnd h₀ L m { s with heap := h, toks := tk } I oI C oC D (LCg.lst ys) S (fun y news' => news' = news ∧ R (i + 1) (ys ++ [y]))) E' s'
        else LCg.CompEnd h₀ L m { s with heap := h, toks := tk } I oI C oC D (LCg.lst ys) S (fun _ news' => news' = news ∧ R (i + 1) ys) Value.none s') E' { s with heap := h, toks := tk })
    (rest : ∀ ys', R (i + 1) ys' → LCt.CompRestT prog w A h₀ L m env ct elt x scope cl s S (fun i v => ∃ t, v = .int (a + (i : Int)) t) Fin k (i + 1) ys' news) :
    LCt.CompRestT prog w A h₀ L m env ct elt x scope cl s S (fun i v => ∃ t, v = .int (a + (i : Int)) t) Fin (k + 1) i ys news := by
  refine rest_cut (R (i + 1)) ?_ rest
  rintro v I oI C oC D m₂ h tk E' ⟨t, rfl⟩ a b c d e f
  rw [hkv] at b
  exact turn t I oI C oC D m₂ h tk E' hR a b c d e f
end
noncomputable def holdR {n0 n1 n2 n3 : Int} (_ : RowsOf n0 n1 n2 n3) {i : Nat} {p : Int} {g : Str} {c : Int} (_ : shownL[i]? = some (p, g, c)) (k : Nat) (ys : List Value) : Prop := SumIs ys (holdUp n0 n1 n2 n3 p g k) k
theorem holdR0 {n0 n1 n2 n3 : Int} {hrw : RowsOf n0 n1 n2 n3} {i : Nat} {p : Int} {g : Str} {c : Int} {hr : shownL[i]? = some (p, g, c)} : holdR hrw hr 0 [] := ⟨[], .nil, rfl, Nat.le_refl _⟩
theorem ints_append : ∀ {w : List Value} {c : List Int} {x : Int} {t : Tok}, IntsAre w c → IntsAre (w ++ [Value.int x t]) (c ++ [x])
  | _, _, x, t, IntsAre.nil => IntsAre.cons x t IntsAre.nil
  | _, _, _, _, IntsAre.cons y u h => IntsAre.cons y u (ints_append h)
theorem holdR_hit {n0 n1 n2 n3 n : Int} {hrw : RowsOf n0 n1 n2 n3} {i : Nat} {p : Int} {g : Str} {c : Int} {hr : shownL[i]? = some (p, g, c)} {k : Nat} {ys : List Value} {x : Int} {t : Tok} (h : holdR hrw hr k ys) (hn : rowN n0 n1 n2 n3 k = n) (hh : hitR n p g = true) (hx : x = 2 ^ k) : holdR hrw hr (k + 1) (ys ++ [Value.int x t]) := by
  obtain ⟨zs, h1, h2, h3⟩ := h
  refine ⟨zs ++ [x], ints_append h1, ?_, by simp; omega⟩
  show (zs ++ [x]).sum = holdUp n0 n1 n2 n3 p g k + if hitR (rowN n0 n1 n2 n3 k) p g then 2 ^ k else 0
  rw [hn, if_pos hh, ← h2, hx]; simp
theorem holdR_miss {n0 n1 n2 n3 n : Int} {hrw : RowsOf n0 n1 n2 n3} {i : Nat} {p : Int} {g : Str} {c : Int} {hr : shownL[i]? = some (p, g, c)} {k : Nat} {ys : List Value} (h : holdR hrw hr k ys) (hn : rowN n0 n1 n2 n3 k = n) (hh : ¬ hitR n p g = true) : holdR hrw hr (k + 1) ys := by
  obtain ⟨zs, h1, h2, h3⟩ := h
  refine ⟨zs, h1, ?_, by omega⟩
  show zs.sum = holdUp n0 n1 n2 n3 p g k + if hitR (rowN n0 n1 n2 n3 k) p g then 2 ^ k else 0
  rw [hn, if_neg hh, h2]; simp
section
variable {prog : Program} {w : World} {A : Around} {E : Value → Shared → Prop} {s : Shared} {h₀ : Heap} {L : Addr} {m : Str → Option Value} {env : Env}
theorem rest_row {n0 n1 n2 n3 : Int} (hrw : RowsOf n0 n1 n2 n3) {j : Nat} {p : Int} {g : Str} {c : Int} (hr : shownL[j]? = some (p, g, c)) {ct elt : PySem.Expr} {x : Str} {scope : Scope} {cl : List (Str × Addr)} {S : List (Addr × Obj) → Prop} {Fin : List Value → List (Addr × Obj) → Prop} {k i : Nat} {a : Int} {ys : List Value} {news : List (Addr × Obj)} (kv : Int) (hkv : a + (i : Int) = kv)
    (hR : holdR hrw hr i ys)
    (turn : ∀ t I oI C oC D m₂ h tk (E' : Value → Shared → Prop), holdR hrw hr i ys → LCg.NsObj oC m₂ → m₂ x = some (.int kv t) → Fr h₀ L h m → News h₀ L h ((I, oI) :: (C, oC) :: (D, LCg.lst ys) :: news) → LCg.Off3 I C D news → ((@Ne Nat I C) ∧ (@Ne Nat I D) ∧ (@Ne Nat C D)) →
      wpAny (model prog w) A (isTrue ct (compEnvC scope cl C env) (eval ct (compEnvC scope cl C env))) (fun ok s' => if ok = true then
        wpAny (model prog w) A (eval elt (compEnvC scope cl C env)) (LCg.CompEnd h₀ L m { s with heap := h, toks := tk } I oI C oC D (LCg.lst ys) S (fun y news' => news' = news ∧ holdR hrw hr (i + 1) (ys ++ [y]))) E' s'
        else LCg.CompEnd h₀ L m { s with heap := h, toks := tk } I oI C oC D (LCg.lst ys) S (fun _ news' => news' = news ∧ holdR hrw hr (i + 1) ys) Value.none s') E' { s with heap := h, toks := tk })
    (rest : ∀ ys', holdR hrw hr (i + 1) ys' → LCt.CompRestT prog w A h₀ L m env ct elt x scope cl s S (fun i v => ∃ t, v = .int (a + (i : Int)) t) Fin k (i + 1) ys' news) :
    LCt.CompRestT prog w A h₀ L m env ct elt x scope cl s S (fun i v => ∃ t, v = .int (a + (i : Int)) t) Fin (k + 1) i ys news :=
  rest_cut_range (holdR hrw hr) kv hkv hR turn rest
end
end Mine
end SF3
section SF4
open PySem PySem.W PyProof.Rows PySem.Calls PySem.Spec
namespace Mine
theorem holdR_missF {n0 n1 n2 n3 n : Int} {hrw : RowsOf n0 n1 n2 n3} {i : Nat} {p : Int} {g : Str} {c : Int} {hr : shownL[i]? = some (p, g, c)} {k : Nat} {ys : List Value} (h : holdR hrw hr k ys) (hn : rowN n0 n1 n2 n3 k = n) (hh : hitR n p g = false) : holdR hrw hr (k + 1) ys :=
  holdR_miss h hn (by rw [hh]; decide)
section
variable {prog : Program} {w : World} {A : Around} {E : Value → Shared → Prop} {s : Shared} {h₀ : Heap} {L D : Addr} {m : Str → Option Value} {news : List (Addr × Obj)} {env : Env} {body : List Stmt}
theorem row_sum {n0 n1 n2 n3 : Int} {hrw : RowsOf n0 n1 n2 n3} {i : Nat} {p : Int} {g : Str} {c : Int} {hr : shownL[i]? = some (p, g, c)} {ys : List Value} {Q : Value → Shared → Prop} (hR : holdR hrw hr 4 ys) (hh : A.handled = none) (F : Fr h₀ L s.heap m) (N : News h₀ L s.heap news) (hm : (D, LCg.lst ys) ∈ news)
    (h : ∀ h' tk t', Fr h₀ L h' m → News h₀ L h' news → Q (.int (holdUp n0 n1 n2 n3 p g 4) t') { s with heap := h', toks := tk }) : wpAny (model prog w) A (call (.builtin "sum") [.ref D]) Q E s := by
  obtain ⟨zs, h1, h2, _⟩ := hR
  refine LSm.sum_ints F N hh ⟨_, (N _ hm).1, rfl, _, rfl⟩ h1 ?_
  rw [h2]; exact h
theorem holdUp_bd (n0 n1 n2 n3 p : Int) (g : Str) : 0 ≤ holdUp n0 n1 n2 n3 p g 4 ∧ holdUp n0 n1 n2 n3 p g 4 < 16 := by
  have h : ∀ (b : Bool) (x : Int), (x = 1 ∨ x = 2 ∨ x = 4 ∨ x = 8) → 0 ≤ (if b = true then x else 0) ∧ (if b = true then x else 0) ≤ x := by
    intro b x hx; cases b <;> simp <;> omega
  have e : holdUp n0 n1 n2 n3 p g 4 = 0 + (if hitR (rowN n0 n1 n2 n3 0) p g = true then 1 else 0) + (if hitR (rowN n0 n1 n2 n3 1) p g = true then 2 else 0) + (if hitR (rowN n0 n1 n2 n3 2) p g = true then 4 else 0) + (if hitR (rowN n0 n1 n2 n3 3) p g = true then 8 else 0) := rfl
  have h0 := h (hitR (rowN n0 n1 n2 n3 0) p g) 1 (by omega)
  have h1 := h (hitR (rowN n0 n1 n2 n3 1) p g) 2 (by omega)
  have h2 := h (hitR (rowN n0 n1 n2 n3 2) p g) 4 (by omega)
  have h3 := h (hitR (rowN n0 n1 n2 n3 3) p g) 8 (by omega)
  rw [e]; omega
theorem and_bd {a b : Int} (h0 : 0 ≤ a) (h1 : a < 16) (h2 : 0 ≤ b) : 0 ≤ Builtin.bitAnd a b ∧ Builtin.bitAnd a b < 16 := by
  obtain ⟨x, rfl⟩ := Int.eq_ofNat_of_zero_le h0
  obtain ⟨y, rfl⟩ := Int.eq_ofNat_of_zero_le h2
  unfold Builtin.bitAnd
  rw [show decide (0 ≤ (x : Int)) = true from by simp, show decide (0 ≤ (y : Int)) = true from by simp]
  show 0 ≤ ((x &&& y : Nat) : Int) ∧ ((x &&& y : Nat) : Int) < 16
  have : x &&& y ≤ x := Nat.and_le_left
  omega
theorem and_bdH {n0 n1 n2 n3 p : Int} {g : Str} {b : Int} (h2 : 0 ≤ b) : 0 ≤ Builtin.bitAnd (holdUp n0 n1 n2 n3 p g 4) b ∧ Builtin.bitAnd (holdUp n0 n1 n2 n3 p g 4) b < 16 :=
  and_bd (holdUp_bd ..).1 (holdUp_bd ..).2 h2
theorem sz_bd {j : Nat} : 0 ≤ sizesL.getD j 0 ∧ sizesL.getD j 0 < 5 := by
  by_cases h : j < 16
  · have : ∀ j, j < 16 → 0 ≤ sizesL.getD j 0 ∧ sizesL.getD j 0 < 5 := by decide
    exact this j h
  · rw [List.getD_eq_getElem?_getD, List.getElem?_eq_none (by show 16 ≤ j; omega)]; decide
theorem harm_ints {t0 t1 t2 t3 t4 : Tok} : IntsAre [Value.int 0 t0, Value.int 12 t1, Value.int 18 t2, Value.int 22 t3, Value.int 25 t4] harmL := .cons _ _ (.cons _ _ (.cons _ _ (.cons _ _ (.cons _ _ .nil))))
theorem mul_ok {c x : Int} (h : 0 ≤ c) (h2 : c < 200000) : IntMulOk c x := IntMulOk.of_left (intBits_le_64 (by omega) (by omega))
noncomputable def valsR (n0 n1 n2 n3 : Int) (i : Nat) (j : Nat) : List Int := (List.range 16).map fun who => if who < j then potR n0 n1 n2 n3 (i + 1) who else potR n0 n1 n2 n3 i who
theorem vals0 {n0 n1 n2 n3 : Int} {hrw : RowsOf n0 n1 n2 n3} {i : Nat} : valsR n0 n1 n2 n3 i 0 = potOf hrw i := by
  unfold valsR potOf; simp
theorem vals16 {n0 n1 n2 n3 : Int} {hrw : RowsOf n0 n1 n2 n3} {i : Nat} : valsR n0 n1 n2 n3 i 16 = potOf hrw (i + 1) := by
  unfold valsR potOf
  refine List.map_congr_left fun a ha => ?_
  rw [if_pos (List.mem_range.mp ha)]
theorem vals_len {n0 n1 n2 n3 : Int} {i j : Nat} : (valsR n0 n1 n2 n3 i j).length = 16 := by unfold valsR; simp
theorem vals_get {n0 n1 n2 n3 : Int} {i j q : Nat} (h : q < 16) : (valsR n0 n1 n2 n3 i j)[q]? = some (if q < j then potR n0 n1 n2 n3 (i + 1) q else potR n0 n1 n2 n3 i q) := by
  unfold valsR
  rw [List.getElem?_map, List.getElem?_range h]; rfl
theorem potR_succ {n0 n1 n2 n3 : Int} {i : Nat} {r : Int × Str × Int} (hr : shownL[i]? = some r) (who : Nat) : potR n0 n1 n2 n3 (i + 1) who = potR n0 n1 n2 n3 i who + payR n0 n1 n2 n3 who r := by
  unfold potR
  rw [List.take_add_one, hr]
  simp
theorem vals_step {n0 n1 n2 n3 : Int} {i : Nat} {p : Int} {g : Str} {c : Int} (hr : shownL[i]? = some (p, g, c)) {k : Int} (h0 : 0 ≤ k) (h1 : k < 16) :
    (valsR n0 n1 n2 n3 i k.toNat).set k.toNat ((valsR n0 n1 n2 n3 i k.toNat).getD k.toNat 0 + c * harmL.getD (sizesL.getD (Builtin.bitAnd (holdUp n0 n1 n2 n3 p g 4) k).toNat 0).toNat 0) = valsR n0 n1 n2 n3 i (k.toNat + 1) := by
  obtain ⟨j, rfl⟩ := Int.eq_ofNat_of_zero_le h0
  have hj : j < 16 := by omega
  rw [Int.toNat_natCast]
  have e1 : (valsR n0 n1 n2 n3 i j).getD j 0 = potR n0 n1 n2 n3 i j := by
    rw [List.getD_eq_getElem?_getD, vals_get hj, if_neg (Nat.lt_irrefl _)]; rfl
  rw [e1]
  have e2 : potR n0 n1 n2 n3 i j + c * harmL.getD (sizesL.getD (Builtin.bitAnd (holdUp n0 n1 n2 n3 p g 4) (j : Int)).toNat 0).toNat 0 = potR n0 n1 n2 n3 (i + 1) j := by
    rw [potR_succ hr]; rfl
  rw [e2]
  refine List.ext_getElem? fun q => ?_
  by_cases hq : q < 16
  · rw [List.getElem?_set, vals_get hq, vals_get hq, vals_len]
    by_cases e : j = q
    · subst e; rw [if_pos rfl, if_pos hj, if_pos (Nat.lt_succ_self _)]
    · rw [if_neg e]
      by_cases l : q < j
      · rw [if_pos l, if_pos (by omega)]
      · rw [if_neg l, if_neg (by omega)]
  · rw [List.getElem?_eq_none (by rw [List.length_set, vals_len]; omega), List.getElem?_eq_none (by rw [vals_len]; omega)]
theorem vals_stepW {n0 n1 n2 n3 : Int} {i : Nat} {p : Int} {g : Str} {c : Int} {k : Int} {ns : List Int} {w : List Value} (hns : ns = valsR n0 n1 n2 n3 i k.toNat) (hr : shownL[i]? = some (p, g, c)) (h0 : 0 ≤ k) (h1 : k < 16)
    (h : IntsAre w (ns.set k.toNat (ns.getD k.toNat 0 + c * harmL.getD (sizesL.getD (Builtin.bitAnd (holdUp n0 n1 n2 n3 p g 4) k).toNat 0).toNat 0))) : IntsAre w (valsR n0 n1 n2 n3 i (k.toNat + 1)) := by
  subst hns
  rw [vals_step hr h0 h1] at h
  exact h
noncomputable def PayJ (M : Addr) (rest : List (Addr × Obj)) (ns : List Int) (x₀ : Str) (m₀ m : Str → Option Value) (nx : List (Addr × Obj)) : Prop :=
  ∃ c : List Value × Nat, nx = (M, W.listOf c.1.toArray c.2) :: rest ∧ IntsAre c.1 ns ∧ ∀ z, z ≠ x₀ → m z = m₀ z
theorem kst_pay {r M D a1 a2 a3 a4 a5 a6 : Addr} {oD b1 b2 b3 b4 b5 b6 : Obj} {hid : List (Addr × Obj)} {w₀ : List Value} {kk₀ : Nat} {t₀ u₀ v₀ : Tok} {x₀ : Str} {m₀ : Str → Option Value} {Q : Flow → Shared → Prop} {adr : List Addr} (vals : Nat → List Int)
    (hh : A.handled = none) (hr : IsRange s.heap r 0 16 1 t₀ u₀ v₀) (F : Fr h₀ env.locals s.heap m₀) (N : News h₀ env.locals s.heap ((D, oD) :: (M, W.listOf w₀.toArray kk₀) :: (a1, b1) :: (a2, b2) :: (a3, b3) :: (a4, b4) :: (a5, b5) :: (a6, b6) :: hid))
    (hoff : OwnOff hid (M :: adr)) (hw : IntsAre w₀ (vals 0))
    (turn : ∀ (w : List Value) (kk : Nat) (ns : List Int) (k : Int) t (u : Str → Option Value) h tk own, ns = vals k.toNat → 0 ≤ k → k < 16 → OwnOff own [M] → IntsAre w ns →
      Fr h₀ env.locals h (fun y => if y = x₀ then some (.int k t) else m₀ y) → News h₀ env.locals h ((M, W.listOf w.toArray kk) :: (a1, b1) :: (a2, b2) :: (a3, b3) :: (a4, b4) :: (a5, b5) :: (a6, b6) :: own) →
      wpAny (model prog w') A (execs body env) (InvPostN h₀ env.locals (fun m nx => ∃ c : List Value × Nat, nx = [(M, W.listOf c.1.toArray c.2)] ∧ IntsAre c.1 (vals (k.toNat + 1)) ∧ ∀ z, z ≠ x₀ → m z = m₀ z) ((a1, b1) :: (a2, b2) :: (a3, b3) :: (a4, b4) :: (a5, b5) :: (a6, b6) :: own) [M] { s with heap := h, toks := tk } Q) E { s with heap := h, toks := tk })
    (done : ∀ (w : List Value) (kk : Nat) (u : Str → Option Value) h tk, IntsAre w (vals 16) → Fr h₀ env.locals h (fun y => if y = x₀ then u y else m₀ y) → News h₀ env.locals h ((M, W.listOf w.toArray kk) :: (a1, b1) :: (a2, b2) :: (a3, b3) :: (a4, b4) :: (a5, b5) :: (a6, b6) :: hid) → Q .next { s with heap := h, toks := tk }) :
    wpAny (model prog w') A (pyIter (.ref r)) (fun it s₂ => LoopAtV prog w' A h₀ env x₀ body Q E it s₂) E s := by
  have N0 : News h₀ env.locals s.heap ((M, W.listOf w₀.toArray kk₀) :: (a1, b1) :: (a2, b2) :: (a3, b3) :: (a4, b4) :: (a5, b5) :: (a6, b6) :: hid) := fun p hp => N p (.tail _ hp)
  refine kst_range (σ := List Value × Nat) (n := 16) (fun c => (M, W.listOf c.1.toArray c.2) :: (a1, b1) :: (a2, b2) :: (a3, b3) :: (a4, b4) :: (a5, b5) :: (a6, b6) :: hid) (fun _ => []) (fun _ => True) [] (fun pre c => IntsAre c.1 (vals pre.length)) (w₀, kk₀)
    hh hr (by decide) (by decide) F N0 trivial (fun p hp => nomatch hp) hw ?_ ?_
  · intro c pre k t u h tk own hk hlt hown _ hp F₁ N₁
    have hk' : k.toNat = pre.length := by omega
    have hoff' : OwnOff (hid ++ own) [M] := by
      intro p hp b hb
      rw [List.mem_singleton.mp hb]
      rcases List.mem_append.mp hp with h | h
      · exact hoff p h _ (.head _)
      · exact hown p h _ (.head _)
    have N₂ : News h₀ env.locals h ((M, W.listOf c.1.toArray c.2) :: (a1, b1) :: (a2, b2) :: (a3, b3) :: (a4, b4) :: (a5, b5) :: (a6, b6) :: (hid ++ own)) := fun p hp => N₁ p (by simpa using hp)
    have F₂ : Fr h₀ env.locals h (fun y => if y = x₀ then some (.int k t) else m₀ y) := by
      have e : (fun y => if y = x₀ then some (Value.int k t) else kstB (fun z => if ([] : List Str).contains z then u z else m₀ z) [] y) = fun y => if y = x₀ then some (.int k t) else m₀ y := by
        funext y; simp [kstB]
      rw [← e]; exact F₁
    refine wpAny_mono (turn c.1 c.2 _ k t u h tk (hid ++ own) rfl (by omega) (by omega) hoff' (by rw [hk']; exact hp) F₂ N₂) (fun f s₃ h₃ => ?_) fun _ _ e => e
    have fin : InvEndN h₀ env.locals (fun m nx => ∃ c : List Value × Nat, nx = [(M, W.listOf c.1.toArray c.2)] ∧ IntsAre c.1 (vals (k.toNat + 1)) ∧ ∀ z, z ≠ x₀ → m z = m₀ z) ((a1, b1) :: (a2, b2) :: (a3, b3) :: (a4, b4) :: (a5, b5) :: (a6, b6) :: (hid ++ own)) [M] { s with heap := h, toks := tk } s₃ →
        InvEndN h₀ env.locals (KstS (σ := List Value × Nat) (fun c => (M, W.listOf c.1.toArray c.2) :: (a1, b1) :: (a2, b2) :: (a3, b3) :: (a4, b4) :: (a5, b5) :: (a6, b6) :: hid) (fun _ => []) (fun _ => True) x₀ [] m₀ (fun pre c => IntsAre c.1 (vals pre.length)) (pre ++ [k])) own (M :: a1 :: a2 :: a3 :: a4 :: a5 :: a6 :: hid.map (·.1)) { s with heap := h, toks := tk } s₃ := by
      rintro ⟨h', tk', m', news', nx, e, F', N', hn', ho', _, ⟨c', rfl, hi', hm'⟩⟩
      refine ⟨h', tk', m', news', (M, W.listOf c'.1.toArray c'.2) :: (a1, b1) :: (a2, b2) :: (a3, b3) :: (a4, b4) :: (a5, b5) :: (a6, b6) :: hid, e, F', N', ?_, ?_, rfl, ⟨c', rfl, trivial, (fun p hp => nomatch hp), fun z hz _ _ => hm' z hz, ?_⟩⟩
      · intro p hp
        rcases List.mem_cons.mp hp with h | h
        · exact hn' p (by simp [h])
        · refine ho' p ?_
          simp only [List.mem_cons, List.mem_append] at h ⊢
          rcases h with h | h | h | h | h | h | h <;> simp [h]
      · intro p hp
        refine ho' p ?_
        simp only [List.mem_cons, List.mem_append]
        simp [hp]
      · show IntsAre c'.1 (vals (pre ++ [k]).length)
        rw [List.length_append, List.length_singleton, ← hk']; exact hi'
    cases f with
    | ret v => exact h₃
    | brk => exact h₃
    | next => exact fin h₃
    | cont => exact fin h₃
  · intro c u h tk _ hp F' N'
    have F₂ : Fr h₀ env.locals h (fun y => if y = x₀ then u y else m₀ y) := by
      have e : (fun y => if y = x₀ then u y else kstB (fun z => if ([] : List Str).contains z then u z else m₀ z) [] y) = fun y => if y = x₀ then u y else m₀ y := by
        funext y; simp [kstB]
      rw [← e]; exact F'
    exact done c.1 c.2 u h tk (by simpa [rangeKs_length] using hp) F₂ N'
end
end Mine
end SF4
section SR1
open PySem PySem.W PySem.Calls PySem.Spec
namespace Mine
open PySem.Sre (M Wait Op accepts ops)
noncomputable def wt (t : Array Nat) (m : M) : M := { m with text := t }
section
variable (t : Array Nat) (m : M)
theorem wt_if {c c' : Prop} [Decidable c] [Decidable c'] {x y x' y' : M} (hc : c = c') (hx : x' = wt t x) (hy : y' = wt t y) : (if c' then x' else y') = wt t (if c then x else y) := by
  subst hc hx hy
  by_cases h : c
  · rw [if_pos h, if_pos h]
  · rw [if_neg h, if_neg h]
theorem wt_attempt (f : Sre.Frame) (a b : Nat) (o : Bool) : (wt t m).attempt f a b o = wt t (m.attempt f a b o) := by
  unfold M.attempt; exact wt_if t rfl rfl rfl
theorem wt_alternative (a : Nat) (k : Sre.Kept) : (wt t m).alternative a k = wt t (m.alternative a k) := by
  unfold M.alternative; exact wt_if t rfl rfl (wt_attempt t m _ _ _ _)
theorem wt_afterRun (wq : Wait) (c : Int) (k : Sre.Kept) : (wt t m).afterRun wq c k = wt t (m.afterRun wq c k) := wt_attempt t m _ _ _ _
theorem wt_afterLoop (wq : Wait) (i : Nat) (c : Int) (g : Option Nat → Bool) : (wt t m).afterLoop wq i c g = wt t (m.afterLoop wq i c g) := wt_attempt t { m with inner := (m.loopAt i).outer } _ _ _ _
theorem wt_round (wq : Wait) (i : Nat) (c : Int) (g : Bool) (k : Sre.Kept) : (wt t m).round wq i c g k = wt t (m.round wq i c g k) := wt_attempt t (m.setLoop i fun l => { l with count := c, began := if g then some m.pos else l.began }) _ _ _ _
theorem wt_until : (wt t m).until_ true = wt t (m.until_ true) := by
  unfold M.until_
  show (match m.inner with | none => _ | some i => _) = wt t (match m.inner with | none => _ | some i => _)
  cases m.inner with
  | none => rfl
  | some i => exact wt_if t rfl (wt_round t m _ _ _ _ _) (wt_if t rfl (wt_afterLoop t m _ _ _ _) (wt_if t rfl (wt_round t m _ _ _ _ _) (wt_afterLoop t m _ _ _ _)))
theorem wt_attemptAt (s : Nat) (f : Bool) : (wt t m).attemptAt s f = wt t (m.attemptAt s f) := wt_attempt t { m with start := s, pos := s, lastmark := -1, lastindex := -1 } _ _ _ _
theorem wt_attemptFrom (h : m.hasFirstSet = false) (s : Nat) (f : Bool) : (wt t m).attemptFrom s f = wt t (m.attemptFrom s f) := by
  unfold M.attemptFrom
  have h' : (wt t m).hasFirstSet = false := h
  rw [h, h']
  exact wt_attemptAt t m s f
theorem wt_run (code t0 : Array Nat) (i : Nat) (hA : ∀ p sn, accepts code i (t0.getD p 0) sn = accepts code i (t.getD p 0) sn) : ∀ n p found sn, Sre.run code t i n p found sn = Sre.run code t0 i n p found sn
  | 0, _, _, _ => rfl
  | n + 1, p, found, sn => by
    unfold Sre.run
    rw [hA]
    cases accepts code i (t.getD p 0) sn with
    | error e => rfl
    | ok r =>
      obtain ⟨y, sn'⟩ := r
      cases y with
      | true => exact wt_run code t0 i hA n (p + 1) (found + 1) sn'
      | false => rfl
noncomputable def opOk (o : Option Op) : Bool := match o with
  | some .SUCCESS | some .AT | some .IN | some .LITERAL | some .MARK | some .MAX_UNTIL | some .REPEAT | some .REPEAT_ONE | some .INFO | some .JUMP => true
  | _ => false
theorem wt_exec (hop : opOk ops[m.word 0]? = true) (hA : ∀ p sn, accepts m.code m.pc (m.text.getD p 0) sn = accepts m.code m.pc (t.getD p 0) sn) (hR : ops[m.word 0]? = some .REPEAT_ONE → ∀ p sn, accepts m.code (m.pc + 4) (m.text.getD p 0) sn = accepts m.code (m.pc + 4) (t.getD p 0) sn)
    (hI : ops[m.word 0]? = some .AT → (wt t m).isAt (m.word 1) = m.isAt (m.word 1)) : (wt t m).exec = wt t m.exec := by
  have hRun := fun h => wt_run t m.code m.text (m.pc + 4) (hR h)
  unfold M.exec
  have e0 : (wt t m).word 0 = m.word 0 := rfl
  rw [e0]
  cases ho : ops[m.word 0]? with
  | none => rw [ho] at hop; cases hop
  | some op =>
    rw [ho] at hop hI hRun
    cases op with
    | SUCCESS => exact wt_if t rfl rfl rfl
    | AT =>
      have hI' := hI rfl
      dsimp only
      have e1 : M.isAt { wt t m with seen := (wt t m).seen.add (m.word 0) } (M.word { wt t m with seen := (wt t m).seen.add (m.word 0) } 1) = M.isAt { m with seen := m.seen.add (m.word 0) } (M.word { m with seen := m.seen.add (m.word 0) } 1) := hI'
      rw [e1]
      cases M.isAt { m with seen := m.seen.add (m.word 0) } (M.word { m with seen := m.seen.add (m.word 0) } 1) with
      | error e => rfl
      | ok y => exact wt_if t rfl rfl rfl
    | IN =>
      dsimp only
      refine wt_if t rfl rfl ?_
      have e1 := hA m.pos (m.seen.add (m.word 0))
      rw [show accepts (M.code { wt t m with seen := (wt t m).seen.add (m.word 0) }) (M.pc { wt t m with seen := (wt t m).seen.add (m.word 0) }) ((M.text { wt t m with seen := (wt t m).seen.add (m.word 0) }).getD (M.pos { wt t m with seen := (wt t m).seen.add (m.word 0) }) 0) (M.seen { wt t m with seen := (wt t m).seen.add (m.word 0) }) = accepts (M.code { m with seen := m.seen.add (m.word 0) }) (M.pc { m with seen := m.seen.add (m.word 0) }) ((M.text { m with seen := m.seen.add (m.word 0) }).getD (M.pos { m with seen := m.seen.add (m.word 0) }) 0) (M.seen { m with seen := m.seen.add (m.word 0) }) from e1.symm]
      cases accepts (M.code { m with seen := m.seen.add (m.word 0) }) (M.pc { m with seen := m.seen.add (m.word 0) }) ((M.text { m with seen := m.seen.add (m.word 0) }).getD (M.pos { m with seen := m.seen.add (m.word 0) }) 0) (M.seen { m with seen := m.seen.add (m.word 0) }) with
      | error e => rfl
      | ok r =>
        obtain ⟨y, sn⟩ := r
        cases y <;> rfl
    | LITERAL =>
      dsimp only
      refine wt_if t rfl rfl ?_
      have e1 := hA m.pos (m.seen.add (m.word 0))
      rw [show accepts (M.code { wt t m with seen := (wt t m).seen.add (m.word 0) }) (M.pc { wt t m with seen := (wt t m).seen.add (m.word 0) }) ((M.text { wt t m with seen := (wt t m).seen.add (m.word 0) }).getD (M.pos { wt t m with seen := (wt t m).seen.add (m.word 0) }) 0) (M.seen { wt t m with seen := (wt t m).seen.add (m.word 0) }) = accepts (M.code { m with seen := m.seen.add (m.word 0) }) (M.pc { m with seen := m.seen.add (m.word 0) }) ((M.text { m with seen := m.seen.add (m.word 0) }).getD (M.pos { m with seen := m.seen.add (m.word 0) }) 0) (M.seen { m with seen := m.seen.add (m.word 0) }) from e1.symm]
      cases accepts (M.code { m with seen := m.seen.add (m.word 0) }) (M.pc { m with seen := m.seen.add (m.word 0) }) ((M.text { m with seen := m.seen.add (m.word 0) }).getD (M.pos { m with seen := m.seen.add (m.word 0) }) 0) (M.seen { m with seen := m.seen.add (m.word 0) }) with
      | error e => rfl
      | ok r =>
        obtain ⟨y, sn⟩ := r
        cases y <;> rfl
    | MARK => rfl
    | MAX_UNTIL => exact wt_until t { m with seen := m.seen.add (m.word 0), pc := m.pc + 1 }
    | REPEAT => exact wt_attempt t { m with seen := m.seen.add (m.word 0), loops := m.loops.push { pc := m.pc, outer := m.inner }, inner := some m.loops.size } _ _ _ _
    | REPEAT_ONE =>
      have hRun' := hRun rfl
      dsimp only
      refine wt_if t rfl rfl ?_
      simp only [show (wt t m).code = m.code from rfl, show (wt t m).text = t from rfl, show (wt t m).pc = m.pc from rfl]
      rw [hRun']
      show (match Sre.run m.code m.text (m.pc + 4) (min (m.word 3) ((m.lim : Int) - m.pos).toNat) m.pos 0 ((m.seen.add (m.word 0)).add (m.word 4)) with | .error why => _ | .ok (n, seen) => _) = wt t (match Sre.run m.code m.text (m.pc + 4) (min (m.word 3) ((m.lim : Int) - m.pos).toNat) m.pos 0 ((m.seen.add (m.word 0)).add (m.word 4)) with | .error why => _ | .ok (n, seen) => _)
      cases Sre.run m.code m.text (m.pc + 4) (min (m.word 3) ((m.lim : Int) - m.pos).toNat) m.pos 0 ((m.seen.add (m.word 0)).add (m.word 4)) with
      | error e => rfl
      | ok r =>
        obtain ⟨n, sn⟩ := r
        exact wt_if t rfl rfl (wt_afterRun t { m with seen := sn, pos := m.pos + n } _ _ _)
    | INFO => rfl
    | JUMP => rfl
    | _ => cases hop
noncomputable def waitOk (x : Wait) : Bool := match x with
  | .nextStart | .giveBack | .closeLoop | .maxBelow | .maxMore | .maxTail => true
  | _ => false
theorem wt_resume (f : Sre.Frame) (y : Bool) (hf : waitOk f.wait = true) (hF : m.hasFirstSet = false) : (wt t m).resume f y = wt t (m.resume f y) := by
  unfold M.resume
  cases hw : f.wait with
  | nextStart => exact wt_if t rfl rfl (wt_if t rfl (wt_attemptFrom t { m with mustAdvance := false } hF _ _) rfl)
  | giveBack => exact wt_if t rfl rfl (wt_if t rfl rfl (wt_afterRun t { m.putBack f.kept with pos := f.pos - 1 } _ _ _))
  | closeLoop => rfl
  | maxBelow => exact wt_if t rfl rfl rfl
  | maxMore => exact wt_if t rfl rfl (wt_afterLoop t (((m.setLoop f.loop fun l => { l with began := f.began }).putBack f.kept).setLoop f.loop fun l => { l with count := f.count - 1 }) _ _ _ _)
  | maxTail => rfl
  | _ => rw [hw] at hf; cases hf
end
noncomputable def KP (c t0 : Array Nat) (x : M) : Prop := x.code = c ∧ x.text = t0
section
variable {c t0 : Array Nat} {m : M}
theorem kp_if {p : Prop} [Decidable p] {x y : M} (hx : KP c t0 x) (hy : KP c t0 y) : KP c t0 (if p then x else y) := by
  by_cases h : p
  · rw [if_pos h]; exact hx
  · rw [if_neg h]; exact hy
theorem kp_attempt (h : KP c t0 m) (f : Sre.Frame) (a b : Nat) (o : Bool) : KP c t0 (m.attempt f a b o) := by
  unfold M.attempt; exact kp_if h h
theorem kp_afterRun (h : KP c t0 m) (wq : Wait) (n : Int) (k : Sre.Kept) : KP c t0 (m.afterRun wq n k) := kp_attempt h _ _ _ _
theorem kp_afterLoop (h : KP c t0 m) (wq : Wait) (i : Nat) (n : Int) (g : Option Nat → Bool) : KP c t0 (m.afterLoop wq i n g) := kp_attempt (m := { m with inner := (m.loopAt i).outer }) h _ _ _ _
theorem kp_round (h : KP c t0 m) (wq : Wait) (i : Nat) (n : Int) (g : Bool) (k : Sre.Kept) : KP c t0 (m.round wq i n g k) := kp_attempt (m := m.setLoop i fun l => { l with count := n, began := if g then some m.pos else l.began }) h _ _ _ _
theorem kp_until (h : KP c t0 m) : KP c t0 (m.until_ true) := by
  unfold M.until_
  cases m.inner with
  | none => exact h
  | some i => exact kp_if (kp_round h _ _ _ _ _) (kp_if (kp_afterLoop h _ _ _ _) (kp_if (kp_round h _ _ _ _ _) (kp_afterLoop h _ _ _ _)))
theorem kp_attemptFrom (h : KP c t0 m) (hF : m.hasFirstSet = false) (s : Nat) (f : Bool) : KP c t0 (m.attemptFrom s f) := by
  unfold M.attemptFrom
  rw [hF]
  exact kp_attempt (m := { m with start := s, pos := s, lastmark := -1, lastindex := -1 }) h _ _ _ _
theorem kp_exec (h : KP c t0 m) (hop : opOk ops[m.word 0]? = true) : KP c t0 m.exec := by
  unfold M.exec
  cases ho : ops[m.word 0]? with
  | none => rw [ho] at hop; cases hop
  | some op =>
    rw [ho] at hop
    cases op with
    | SUCCESS => exact kp_if h h
    | AT =>
      dsimp only
      cases M.isAt { m with seen := m.seen.add (m.word 0) } (M.word { m with seen := m.seen.add (m.word 0) } 1) with
      | error e => exact h
      | ok y => exact kp_if h h
    | IN =>
      dsimp only
      refine kp_if h ?_
      cases accepts (M.code { m with seen := m.seen.add (m.word 0) }) (M.pc { m with seen := m.seen.add (m.word 0) }) ((M.text { m with seen := m.seen.add (m.word 0) }).getD (M.pos { m with seen := m.seen.add (m.word 0) }) 0) (M.seen { m with seen := m.seen.add (m.word 0) }) with
      | error e => exact h
      | ok r =>
        obtain ⟨y, sn⟩ := r
        cases y <;> exact h
    | LITERAL =>
      dsimp only
      refine kp_if h ?_
      cases accepts (M.code { m with seen := m.seen.add (m.word 0) }) (M.pc { m with seen := m.seen.add (m.word 0) }) ((M.text { m with seen := m.seen.add (m.word 0) }).getD (M.pos { m with seen := m.seen.add (m.word 0) }) 0) (M.seen { m with seen := m.seen.add (m.word 0) }) with
      | error e => exact h
      | ok r =>
        obtain ⟨y, sn⟩ := r
        cases y <;> exact h
    | MARK => exact h
    | MAX_UNTIL => exact kp_until (m := { m with seen := m.seen.add (m.word 0), pc := m.pc + 1 }) h
    | REPEAT => exact kp_attempt (m := { m with seen := m.seen.add (m.word 0), loops := m.loops.push { pc := m.pc, outer := m.inner }, inner := some m.loops.size }) h _ _ _ _
    | REPEAT_ONE =>
      dsimp only
      refine kp_if h ?_
      show KP c t0 (match Sre.run m.code m.text (m.pc + 4) (min (m.word 3) ((m.lim : Int) - m.pos).toNat) m.pos 0 ((m.seen.add (m.word 0)).add (m.word 4)) with | .error why => _ | .ok (n, seen) => _)
      cases Sre.run m.code m.text (m.pc + 4) (min (m.word 3) ((m.lim : Int) - m.pos).toNat) m.pos 0 ((m.seen.add (m.word 0)).add (m.word 4)) with
      | error e => exact h
      | ok r =>
        obtain ⟨n, sn⟩ := r
        exact kp_if h (kp_afterRun (m := { m with seen := sn, pos := m.pos + n }) h _ _ _)
    | INFO => exact h
    | JUMP => exact h
    | _ => cases hop
theorem kp_resume (h : KP c t0 m) (f : Sre.Frame) (y : Bool) (hf : waitOk f.wait = true) (hF : m.hasFirstSet = false) : KP c t0 (m.resume f y) := by
  unfold M.resume
  cases hw : f.wait with
  | nextStart => exact kp_if h (kp_if (kp_attemptFrom (m := { m with mustAdvance := false }) h hF _ _) h)
  | giveBack => exact kp_if h (kp_if h (kp_afterRun (m := { m.putBack f.kept with pos := f.pos - 1 }) h _ _ _))
  | closeLoop => exact h
  | maxBelow => exact kp_if h h
  | maxMore => exact kp_if h (kp_afterLoop (m := ((m.setLoop f.loop fun l => { l with began := f.began }).putBack f.kept).setLoop f.loop fun l => { l with count := f.count - 1 }) h _ _ _ _)
  | maxTail => exact h
  | _ => rw [hw] at hf; cases hf
end
noncomputable def isRep (o : Option Op) : Bool := match o with | some .REPEAT_ONE => true | _ => false
noncomputable def isAT (o : Option Op) : Bool := match o with | some .AT => true | _ => false
noncomputable def okAt (A : List Nat) (m : M) : Bool :=
  match m.answer, m.frames with
    | some _, f :: _ => waitOk f.wait
    | some _, [] => true
    | none, _ => opOk ops[m.word 0]? && A.contains m.pc && (!isRep ops[m.word 0]? || A.contains (m.pc + 4)) && (!isAT ops[m.word 0]? || m.word 1 == 0 || m.word 1 == 5)
noncomputable def chk (A : List Nat) : Nat → M → Bool
  | 0, _ => true
  | n + 1, m => m.outcome.isSome || (okAt A m && chk A n m.step)
section
variable {A : List Nat} {c0 t0 t : Array Nat}
theorem wt_isAt {m : M} (h10 : ∀ p, (t.getD p 0 == 10) = (m.text.getD p 0 == 10)) (h : m.word 1 = 0 ∨ m.word 1 = 5) : (wt t m).isAt (m.word 1) = m.isAt (m.word 1) := by
  unfold M.isAt
  rcases h with h | h
  · rw [h]; rfl
  · rw [h]
    show Except.ok (m.pos == m.lim || (m.pos + 1 == m.lim && (t.getD m.pos 0 == 10))) = Except.ok (m.pos == m.lim || (m.pos + 1 == m.lim && (m.text.getD m.pos 0 == 10)))
    rw [h10]
theorem wt_step (hA : ∀ i ∈ A, ∀ p sn, accepts c0 i (t0.getD p 0) sn = accepts c0 i (t.getD p 0) sn) (h10 : ∀ p, (t.getD p 0 == 10) = (t0.getD p 0 == 10)) {m : M} (hc : m.code = c0) (ht : m.text = t0) (hF : m.hasFirstSet = false) (ho : m.outcome.isSome = false) (hk : okAt A m = true) :
    (wt t m).step = wt t m.step := by
  unfold okAt at hk
  unfold M.step
  have e0 : (wt t m).outcome.isSome = false := ho
  rw [ho, e0]
  show (match m.answer, m.frames with | some yes, [] => _ | some yes, f :: rest => _ | none, _ => _) = wt t (match m.answer, m.frames with | some yes, [] => _ | some yes, f :: rest => _ | none, _ => _)
  cases ha : m.answer with
  | none =>
    rw [ha] at hk
    simp only [Bool.and_eq_true, Bool.or_eq_true, Bool.not_eq_true', beq_iff_eq, List.contains_iff_mem] at hk
    obtain ⟨⟨⟨h1, h2⟩, h3⟩, h4⟩ := hk
    refine wt_if t rfl (wt_exec t m h1 (fun p sn => ?_) (fun hr p sn => ?_) (fun hr => ?_)) rfl
    · rw [hc, ht]; exact hA _ h2 p sn
    · rw [hc, ht]
      refine hA _ ?_ p sn
      rcases h3 with h3 | h3
      · rw [hr] at h3; cases h3
      · exact h3
    · refine wt_isAt (fun p => by rw [ht]; exact h10 p) ?_
      rcases h4 with (h4 | h4) | h4
      · rw [hr] at h4; cases h4
      · exact .inl h4
      · exact .inr h4
  | some y =>
    rw [ha] at hk
    have ew : (wt t m).answer = some y := ha
    cases hf : m.frames with
    | nil =>
      have ef : (wt t m).frames = [] := hf
      simp only [wt, ha, hf]
    | cons f r =>
      rw [hf] at hk
      exact wt_resume t { m with answer := none, frames := r, weight := m.weight - (1 + f.kept.marks.size), pc := f.pc, pos := f.pos, outermost := f.outermost } f y hk hF
theorem kp_step {m : M} (h : KP c0 t0 m) (hF : m.hasFirstSet = false) (ho : m.outcome.isSome = false) (hk : okAt A m = true) : KP c0 t0 m.step := by
  unfold okAt at hk
  unfold M.step
  rw [ho]
  show KP c0 t0 (match m.answer, m.frames with | some yes, [] => _ | some yes, f :: rest => _ | none, _ => _)
  cases ha : m.answer with
  | none =>
    rw [ha] at hk
    simp only [Bool.and_eq_true] at hk
    exact kp_if (kp_exec h hk.1.1.1) h
  | some y =>
    rw [ha] at hk
    cases hf : m.frames with
    | nil => exact h
    | cons f r =>
      rw [hf] at hk
      exact kp_resume (m := { m with answer := none, frames := r, weight := m.weight - (1 + f.kept.marks.size), pc := f.pc, pos := f.pos, outermost := f.outermost }) h f y hk hF
theorem wt_runFor (hFs : ∀ m : M, m.code = c0 → m.hasFirstSet = false) (hA : ∀ i ∈ A, ∀ p sn, accepts c0 i (t0.getD p 0) sn = accepts c0 i (t.getD p 0) sn) (h10 : ∀ p, (t.getD p 0 == 10) = (t0.getD p 0 == 10)) : ∀ (n : Nat) (m : M), KP c0 t0 m → chk A n m = true → (wt t m).runFor n = wt t (m.runFor n)
  | 0, _, _, _ => rfl
  | n + 1, m, hm, h => by
    unfold M.runFor
    have e0 : (wt t m).outcome = m.outcome := rfl
    rw [e0]
    cases ho : m.outcome.isSome with
    | true => rfl
    | false =>
      unfold chk at h
      rw [ho] at h
      simp only [Bool.false_or, Bool.and_eq_true] at h
      show M.runFor n (wt t m).step = wt t (M.runFor n m.step)
      rw [wt_step hA h10 hm.1 hm.2 (hFs m hm.1) ho h.1]
      exact wt_runFor hFs hA h10 n m.step (kp_step hm (hFs m hm.1) ho h.1) h.2
end
end Mine
end SR1
section SR3
open PySem PySem.W PySem.Calls PySem.Spec
namespace Mine
theorem plainAttrs_pat : PlainAttrs "re.Pattern" :=
  ⟨⟨"object.__getattribute__", by rw [typeLookup_type, builtinLookup_eq_fast]; kernel_rfl, by decide +kernel⟩, by rw [typeLookup_type, builtinLookup_eq_fast]; kernel_rfl⟩
theorem plainAttrs_mat : PlainAttrs "re.Match" :=
  ⟨⟨"object.__getattribute__", by rw [typeLookup_type, builtinLookup_eq_fast]; kernel_rfl, by decide +kernel⟩, by rw [typeLookup_type, builtinLookup_eq_fast]; kernel_rfl⟩
theorem slot_pat_search : Slot "re.Pattern" "search" "re.Pattern.search" :=
  .of (owner := "re.Pattern") (n := "search") (by rw [typeLookup_type, builtinLookup_eq_fast]; kernel_rfl) (by decide +kernel) (by decide +kernel) (by decide +kernel)
    (by first | exact .inl (by decide +kernel) | exact .inr (by decide +kernel)) (by rw [isSubtype_type]; kernel_rfl)
theorem slot_mat_group : Slot "re.Match" "group" "re.Match.group" :=
  .of (owner := "re.Match") (n := "group") (by rw [typeLookup_type, builtinLookup_eq_fast]; kernel_rfl) (by decide +kernel) (by decide +kernel) (by decide +kernel)
    (by first | exact .inl (by decide +kernel) | exact .inr (by decide +kernel)) (by rw [isSubtype_type]; kernel_rfl)
theorem type_pat_search : typeOf (.builtin "re.Pattern.search") = pure (.type "method_descriptor") := by show builtinType _ = _; rw [builtinType_eq_fast]; kernel_rfl
theorem type_mat_group : typeOf (.builtin "re.Match.group") = pure (.type "method_descriptor") := by show builtinType _ = _; rw [builtinType_eq_fast]; kernel_rfl
theorem entry_pat_search : entryFor table "re.Pattern.search" = some Builtin.«re.Pattern.search» := entryFor_of_tree (by kernel_rfl)
theorem entry_mat_group : entryFor table "re.Match.group" = some Builtin.«re.Match.group» := entryFor_of_tree (by kernel_rfl)
theorem args_pat_search (a b : Value) : argsOk "re.Pattern.search" ⟨[a, b], []⟩ := by unfold argsOk; kernel_rfl
theorem args_mat_group (a b : Value) : argsOk "re.Match.group" ⟨[a, b], []⟩ := by unfold argsOk; kernel_rfl
end Mine
end SR3
section SR4
open PySem PySem.W PySem.Calls PySem.Spec
namespace Mine
open PySem.Builtin.Re
open PySem.Sre (M Wait Op accepts ops)
noncomputable def c0 : Array Nat := #[14, 4, 0, 1, 6, 6, 0, 23, 14, 0, 1, 17, 0, 13, 6, 16, 45, 16, 43, 0, 17, 1, 18, 17, 2, 13, 4, 8, 0, 0, 24, 9, 0, 1, 13, 4, 8, 0, 0, 1, 17, 3, 24, 6, 0, 1, 16, 58, 1, 23, 17, 0, 1, 17, 4, 13, 4, 8, 0, 0, 13, 4, 8, 0, 0, 17, 5, 18, 6, 5, 1]
noncomputable def codeO : Obj := { cls := .type "tuple", data := .seq (c0.map fun n => .int (n : Nat) 0) }
noncomputable def patO : Obj := { cls := .type "re.Pattern", data := .fields #[.str (Str.ofString "^([-+])?(\\d\\d?):?(\\d\\d)?$") 294, .int 256 368, .int 3 0, .none, .none, .ref 36, .int 0 0] }
noncomputable def clipI (i : Int) (n : Nat) : Nat := min i.toNat n
theorem target_wp {Mo : Model} {A : Around} {E : Value → Shared → Prop} {h : Heap} {g : Array GenState} {d : Drawn} {t : Nat} {os : OsState} {x : Str} {tk : Tok} {Q : ReTarget → Shared → Prop}
    (hp : h.get? 37 = some patO) (hc : h.get? 36 = some codeO)
    (hQ : Q { pattern := .ref 37, string := .str x tk, code := c0, text := x.cps, kind := 0, groups := 3, pos := clipI 0 x.cps.size, lim := clipI (2 ^ 63 - 1) x.cps.size } ⟨h, g, d, t, os⟩) :
    wpAny Mo A (reTarget "re.Pattern.search" "search" ⟨[.ref 37, .str x tk], []⟩) Q E ⟨h, g, d, t, os⟩ := by
  unfold reTarget
  have e1 : reNamed "re.Pattern.search" "search" ["string", "pos", "endpos"] 1 [.str x tk] [] = pure [some (.str x tk), none, none] := by kernel_rfl
  wp_walk using wpAny_of_eq e1
  rw [show (Array.map (fun x : Int => x.toNat) (Array.map reRawOf ((some (Array.map (fun (n : Nat) => Value.int (n : Int) 0) c0)).getD #[]))) = c0 from by kernel_rfl]
  exact hQ
theorem forRule_wp {Mo : Model} {A : Around} {E : Value → Shared → Prop} {s : Shared} {Q : PUnit → Shared → Prop} (c : Nat → Bool) (tag : Nat → String) (hQ : Q PUnit.unit s) : ∀ l : List Nat, wpAny Mo A (forIn l PUnit.unit fun i __s =>
      if c i = true then do
        rule (tag i)
        pure (ForInStep.yield PUnit.unit)
      else pure (ForInStep.yield PUnit.unit)) Q E s
  | [] => by rw [List.forIn_nil]; exact wpAny_pure hQ
  | i :: l => by
    rw [List.forIn_cons]
    refine wpAny_bind ?_
    by_cases h : c i = true
    · rw [if_pos h]
      exact wpAny_bind (wpAny_rule (wpAny_pure (forRule_wp c tag hQ l)))
    · rw [if_neg h]
      exact wpAny_pure (forRule_wp c tag hQ l)
theorem step_out {m : M} (h : m.outcome.isSome = true) : ∀ n, m.runFor n = m
  | 0 => rfl
  | n + 1 => by unfold M.runFor; rw [h]; rfl
theorem runFor_add (b : Nat) : ∀ (a : Nat) (m : M), m.runFor (a + b) = (m.runFor a).runFor b
  | 0, m => by rw [Nat.zero_add]; rfl
  | a + 1, m => by
    have e : a + 1 + b = (a + b) + 1 := by omega
    rw [e]
    cases ho : m.outcome.isSome with
    | true => rw [step_out ho, step_out ho, step_out ho]
    | false =>
      show (if m.outcome.isSome = true then m else M.runFor (a + b) m.step) = M.runFor b (if m.outcome.isSome = true then m else M.runFor a m.step)
      rw [ho]
      exact runFor_add b a m.step
theorem drive_wp {Mo : Model} {A : Around} {E : Value → Shared → Prop} {s : Shared} {Q : M → Shared → Prop} : ∀ (k turns : Nat) (m : M), k < turns → (m.runFor (4 * k)).outcome.isSome = true → Q (m.runFor (4 * k)) s → wpAny Mo A (reDrive turns m) Q E s
  | _, 0, _, hk, _, _ => absurd hk (Nat.not_lt_zero _)
  | k, turns + 1, m, hk, ho, hQ => by
    unfold reDrive
    show wpAny Mo A (if (m.runFor 4).outcome.isSome = true then pure (m.runFor 4) else _) Q E s
    cases k with
    | zero =>
      have hm : m.outcome.isSome = true := ho
      rw [step_out hm, if_pos hm]
      exact wpAny_pure hQ
    | succ k =>
      have e : 4 * (k + 1) = 4 + 4 * k := by omega
      rw [e, runFor_add] at ho hQ
      by_cases h4 : (m.runFor 4).outcome.isSome = true
      · rw [if_pos h4]
        rw [step_out h4] at hQ
        exact wpAny_pure hQ
      · rw [if_neg h4]
        exact wpAny_bind (wpAny_rule (drive_wp k turns (m.runFor 4) (by omega) ho hQ))
theorem run_wp {Mo : Model} {A : Around} {E : Value → Shared → Prop} {s : Shared} {Q : Option M → Shared → Prop} {m0 mf : M} (hm : m0.runFor (4 * 12) = mf) (ho : mf.outcome = some .matched) (hQ : Q (some mf) s) : wpAny Mo A (reRunToEnd m0) Q E s := by
  unfold reRunToEnd
  refine wpAny_bind (drive_wp 12 (2 ^ 64) m0 (by decide) (by rw [hm, ho]; rfl) ?_)
  rw [hm]
  refine wpAny_bind (forRule_wp _ _ ?_ _)
  rw [ho]
  exact wpAny_pure hQ
noncomputable def spansOf (m : M) : List Value := (List.range 3).flatMap fun g =>
    match if ((2 * g + 1 : Nat) : Int) ≤ m.lastmark then (m.marks.getD (2 * g) none, m.marks.getD (2 * g + 1) none) else (none, none) with
    | (some b, some e) => [rawInt b, rawInt e]
    | _ => [rawInt (-1), rawInt (-1)]
noncomputable def badSpan (m : M) : Bool := (List.range 3).any (fun g => match m.marks.getD (2 * g) none, m.marks.getD (2 * g + 1) none with | some b, some e => ((2 * g + 1 : Nat) : Int) ≤ m.lastmark && e < b | _, _ => false)
theorem spans_len (m : M) : (spansOf m).length = 6 := by
  have h : ∀ (l : List Nat) (f : Nat → List Value), (∀ g, (f g).length = 2) → (l.flatMap f).length = 2 * l.length := by
    intro l f hf
    induction l with
    | nil => rfl
    | cons a r ih => rw [List.flatMap_cons, List.length_append, ih, hf, List.length_cons]; omega
  refine h (List.range 3) _ fun g => ?_
  split <;> rfl
noncomputable def tupO (sp : List Int) : Obj := { cls := .type "tuple", data := .seq (sp.map rawInt).toArray }
noncomputable def matO (x : Str) (tk : Tok) (li : Int) (T : Addr) : Obj := { cls := .type "re.Match", data := .fields #[.str x tk, .ref 37, rawInt (clipI 0 x.cps.size : Nat), rawInt (clipI (2 ^ 63 - 1) x.cps.size : Nat), rawInt li, .ref T] }
theorem search_wp {prog : Program} {w : World} {A : Around} {E : Value → Shared → Prop} {s : Shared} {x : Str} {tk : Tok} {Q : Value → Shared → Prop}
    (hp : s.heap.get? 37 = some patO) (hc : s.heap.get? 36 = some codeO) {mf : M} (hm : (Sre.forSearch c0 x.cps 3 (clipI 0 x.cps.size) (clipI (2 ^ 63 - 1) x.cps.size) false).runFor (4 * 12) = mf) (ho : mf.outcome = some .matched) (hb : badSpan mf = false) {sp : List Int} (hs : rawInt mf.start :: rawInt mf.handed :: spansOf mf = sp.map rawInt) (hl : sp.length ≤ 100)
    (hQ : Q (.ref (s.heap.push (tupO sp)).objs.size) { s with heap := (s.heap.push (tupO sp)).push (matO x tk mf.lastindex s.heap.objs.size) }) :
    wpAny (model prog w) A (call (.builtin "re.Pattern.search") [.ref 37, .str x tk]) Q E s := by
  refine call_meets (S := fun _ R s => s.heap.get? 37 = some patO ∧ s.heap.get? 36 = some codeO ∧ R (.ok (.ret (.ref (s.heap.push (tupO sp)).objs.size))) { s with heap := (s.heap.push (tupO sp)).push (matO x tk mf.lastindex s.heap.objs.size) }) slot_pat_search ⟨patO, hp, rfl⟩ entry_pat_search (args_pat_search _ _) (.of_wp ?_) ⟨hp, hc, hQ⟩
  clear hp hc hQ s Q E A w prog
  intro prog w A R s hh
  obtain ⟨hp', g, d, t, os⟩ := s
  obtain ⟨hp, hc, hQ⟩ := hh
  unfold Builtin.«re.Pattern.search»
  refine wpAny_bind (target_wp hp hc ?_)
  refine wpAny_bind (run_wp hm ho ?_)
  refine wpAny_bind ?_
  unfold reNewMatch
  show wpAny _ _ (if badSpan mf = true then _ else _) _ _ _
  rw [hb, if_neg Bool.false_ne_true]
  refine wpAny_bind ?_
  show wpAny _ _ (newTuple (rawInt mf.start :: rawInt mf.handed :: spansOf mf)) _ _ _
  rw [hs]
  refine wpAny_newObj_type ?_ ?_
  · show wpAny _ _ (newFields _ _) _ _ _
    refine wpAny_newObj_type ?_ ?_
    · exact wpAny_pure ⟨_, rfl, hQ⟩
    · exact (by decide : 6 ≤ sizeLine + 2)
  · show (sp.map rawInt).toArray.size ≤ sizeLine
    rw [List.size_toArray, List.length_map]
    exact Nat.le_trans hl (by decide)
theorem patTypeIs {s : Shared} (hp : s.heap.get? 37 = some patO) : s.TypeIs (.ref 37) "re.Pattern" := ⟨patO, hp, rfl⟩
theorem getSearch_wp {Mo : Model} {A : Around} {E : Value → Shared → Prop} {s : Shared} {pl : Sem Bool} {Q : Value × List Value → Shared → Prop} (hp : s.heap.get? 37 = some patO) (h : Q (.builtin "re.Pattern.search", [.ref 37]) s) :
    wpAny Mo A (getMethod (.ref 37) "search" pl) Q E s :=
  getMethod_builtin ⟨patO, hp, rfl⟩ plainAttrs_pat slot_pat_search type_pat_search (fun a e => by cases e; exact ⟨_, hp, rfl⟩) h
theorem getGroup_wp {Mo : Model} {A : Around} {E : Value → Shared → Prop} {s : Shared} {pl : Sem Bool} {Q : Value × List Value → Shared → Prop} {a T : Addr} {x : Str} {tk : Tok} {li : Int} (hp : s.heap.get? a = some (matO x tk li T)) (h : Q (.builtin "re.Match.group", [.ref a]) s) :
    wpAny Mo A (getMethod (.ref a) "group" pl) Q E s :=
  getMethod_builtin ⟨_, hp, rfl⟩ plainAttrs_mat slot_mat_group type_mat_group (fun a e => by cases e; exact ⟨_, hp, rfl⟩) h
theorem sp_get {sp : List Int} {k : Nat} : (Array.map reRawOf (sp.map rawInt).toArray).getD k (-1) = sp.getD k (-1) := by
  have e : (Array.map reRawOf (sp.map rawInt).toArray) = sp.toArray := by
    rw [List.map_toArray, List.map_map]
    congr 1
    exact List.map_id' sp
  rw [e]
  simp
theorem group_wp {prog : Program} {w : World} {A : Around} {E : Value → Shared → Prop} {s : Shared} {x : Str} {tk tk' : Tok} {a T : Addr} {li : Int} {sp : List Int} {k : Nat} {b e : Nat} {Q : Value → Shared → Prop}
    (ha : s.heap.get? a = some (matO x tk li T)) (hT : s.heap.get? T = some (tupO sp)) (hl : sp.length = 8) (hk : k < 4) (hb : sp.getD (2 * k) (-1) = (b : Int)) (he : sp.getD (2 * k + 1) (-1) = (e : Int))
    (hx : x.length ≤ sizeLine) (hQ : Q (.str ⟨x.cps.extract b e⟩ s.toks) { s with toks := s.toks + 1 }) :
    wpAny (model prog w) A (call (.builtin "re.Match.group") [.ref a, .int k tk']) Q E s := by
  refine call_meets (S := fun _ R s => s.heap.get? a = some (matO x tk li T) ∧ s.heap.get? T = some (tupO sp) ∧ R (.ok (.ret (.str ⟨x.cps.extract b e⟩ s.toks))) { s with toks := s.toks + 1 }) slot_mat_group ⟨_, ha, rfl⟩ entry_mat_group (args_mat_group _ _) (.of_wp ?_) ⟨ha, hT, hQ⟩
  clear ha hT hQ s Q E A w prog
  intro prog w A R s hh
  obtain ⟨hp', g, d, t, os⟩ := s
  obtain ⟨ha, hT, hQ⟩ := hh
  unfold Builtin.«re.Match.group»
  wp_walk
  show wpAny _ _ (if (decide ((k : Int) < 0) || decide (2 * (k : Int) ≥ ((Array.map reRawOf (sp.map rawInt).toArray).size : Int))) = true then _ else _) _ _ _
  rw [if_neg (by rw [Array.size_map, List.size_toArray, List.length_map, hl]; simp; omega)]
  refine wpAny_pure (wpAny_bind ?_)
  unfold reGroupText
  show wpAny _ _ (if (decide ((Array.map reRawOf (sp.map rawInt).toArray).getD (2 * ((k : Int)).toNat) (-1) < 0) || decide ((Array.map reRawOf (sp.map rawInt).toArray).getD (2 * ((k : Int)).toNat + 1) (-1) < 0)) = true then _ else _) _ _ _
  rw [show ((k : Int)).toNat = k from by omega, sp_get, sp_get, hb, he]
  rw [if_neg (by simp)]
  refine wpAny_bind ?_
  wp_walk
  show wpAny _ _ (mkStr ⟨x.cps.extract ((Array.map reRawOf (sp.map rawInt).toArray).getD (2 * k) (-1)).toNat ((Array.map reRawOf (sp.map rawInt).toArray).getD (2 * k + 1) (-1)).toNat⟩) _ _ _
  rw [sp_get, sp_get, hb, he]
  refine wpAny_mkStr (wpAny_pure ⟨_, rfl, hQ⟩) ?_
  show (x.cps.extract b e).size ≤ sizeLine
  rw [Array.size_extract]
  have hx' : x.cps.size ≤ sizeLine := hx
  omega
theorem groupN_wp {prog : Program} {w : World} {A : Around} {E : Value → Shared → Prop} {s : Shared} {x : Str} {tk tk' : Tok} {a T : Addr} {li : Int} {sp : List Int} {k : Nat} {Q : Value → Shared → Prop}
    (ha : s.heap.get? a = some (matO x tk li T)) (hT : s.heap.get? T = some (tupO sp)) (hl : sp.length = 8) (hk : k < 4) (hb : sp.getD (2 * k) (-1) = -1) (hQ : Q .none s) :
    wpAny (model prog w) A (call (.builtin "re.Match.group") [.ref a, .int k tk']) Q E s := by
  refine call_meets (S := fun _ R s => s.heap.get? a = some (matO x tk li T) ∧ s.heap.get? T = some (tupO sp) ∧ R (.ok (.ret .none)) s) slot_mat_group ⟨_, ha, rfl⟩ entry_mat_group (args_mat_group _ _) (.of_wp ?_) ⟨ha, hT, hQ⟩
  clear ha hT hQ s Q E A w prog
  intro prog w A R s hh
  obtain ⟨hp', g, d, t, os⟩ := s
  obtain ⟨ha, hT, hQ⟩ := hh
  unfold Builtin.«re.Match.group»
  wp_walk
  show wpAny _ _ (if (decide ((k : Int) < 0) || decide (2 * (k : Int) ≥ ((Array.map reRawOf (sp.map rawInt).toArray).size : Int))) = true then _ else _) _ _ _
  rw [if_neg (by rw [Array.size_map, List.size_toArray, List.length_map, hl]; simp; omega)]
  refine wpAny_pure (wpAny_bind ?_)
  unfold reGroupText
  show wpAny _ _ (if (decide ((Array.map reRawOf (sp.map rawInt).toArray).getD (2 * ((k : Int)).toNat) (-1) < 0) || decide ((Array.map reRawOf (sp.map rawInt).toArray).getD (2 * ((k : Int)).toNat + 1) (-1) < 0)) = true then _ else _) _ _ _
  rw [show ((k : Int)).toNat = k from by omega, sp_get, hb]
  rw [if_pos (by simp)]
  exact wpAny_pure (wpAny_pure ⟨_, rfl, hQ⟩)
end Mine
end SR4
section SR5
open PySem PySem.W PySem.Calls PySem.Spec
namespace Mine
open PySem.Builtin.Re
open PySem.Sre (M Wait Op accepts ops)
noncomputable def AL : List Nat := [5, 7, 11, 13, 20, 22, 23, 25, 30, 34, 40, 42, 46, 49, 53, 55, 60, 65, 67, 68, 70]
theorem acc_digit : ∀ i ∈ AL, ∀ c, 48 ≤ c → c ≤ 57 → ∀ sn, accepts c0 i 48 sn = accepts c0 i c sn := by
  intro i hi c h1 h2 sn
  obtain ⟨j, rfl⟩ : ∃ j, c = 48 + j := ⟨c - 48, by omega⟩
  have hj : j < 10 := by omega
  simp only [AL, List.mem_cons, List.not_mem_nil, or_false] at hi
  match j, hj with
  | 0, _ | 1, _ | 2, _ | 3, _ | 4, _ | 5, _ | 6, _ | 7, _ | 8, _ | 9, _ => rcases hi with rfl | rfl | rfl | rfl | rfl | rfl | rfl | rfl | rfl | rfl | rfl | rfl | rfl | rfl | rfl | rfl | rfl | rfl | rfl | rfl | rfl <;> rfl
noncomputable def good (t0 : List Nat) (sp : List Int) : Bool :=
  let m0 := Sre.forSearch c0 t0.toArray 3 0 t0.length false
  let mf := m0.runFor (4 * 12)
  chk AL (4 * 12) m0 && (match mf.outcome with | some .matched => true | _ => false) && !badSpan mf && decide (rawInt mf.start :: rawInt mf.handed :: spansOf mf = sp.map rawInt) && decide (sp.length = 8)
noncomputable def Like : List Nat → List Nat → Prop
  | [], [] => True
  | c :: t, c' :: t' => (c = c' ∨ (c' = 48 ∧ 48 ≤ c ∧ c ≤ 57)) ∧ Like t t'
  | _, _ => False
theorem like_get : ∀ {t t0 : List Nat}, Like t t0 → ∀ p, t.getD p 0 = t0.getD p 0 ∨ (t0.getD p 0 = 48 ∧ 48 ≤ t.getD p 0 ∧ t.getD p 0 ≤ 57)
  | [], [], _, _ => .inl rfl
  | [], _ :: _, h, _ => h.elim
  | _ :: _, [], h, _ => h.elim
  | c :: t, c' :: t', h, 0 => h.1
  | c :: t, c' :: t', h, p + 1 => like_get h.2 p
theorem like_len : ∀ {t t0 : List Nat}, Like t t0 → t.length = t0.length
  | [], [], _ => rfl
  | [], _ :: _, h => h.elim
  | _ :: _, [], h => h.elim
  | _ :: t, _ :: t', h => congrArg (· + 1) (like_len h.2)
theorem forSearch_wt (t t0 : Array Nat) (n : Nat) : Sre.forSearch c0 t 3 0 n false = wt t (Sre.forSearch c0 t0 3 0 n false) := by
  unfold Sre.forSearch
  refine wt_if t rfl rfl ?_
  have key : ∀ Y : M, Y.hasFirstSet = false → ∀ X, X = wt t Y → X.attemptFrom 0 true = wt t (Y.attemptFrom 0 true) := fun Y h X e => e ▸ wt_attemptFrom t Y h 0 true
  exact key _ rfl _ rfl
theorem first_c0 (m : M) (h : m.code = c0) : m.hasFirstSet = false := by
  unfold M.hasFirstSet
  rw [h]; rfl
theorem start_kp (t0 : Array Nat) (n : Nat) : KP c0 t0 (Sre.forSearch c0 t0 3 0 n false) := by
  unfold Sre.forSearch
  exact kp_if ⟨rfl, rfl⟩ (kp_attemptFrom ⟨rfl, rfl⟩ rfl _ _)
theorem like_search {t t0 : List Nat} {sp : List Int} (hL : Like t t0) (hg : good t0 sp = true) :
    ∃ mf : M, (Sre.forSearch c0 t.toArray 3 0 t.length false).runFor (4 * 12) = mf ∧ mf.outcome = some .matched ∧ badSpan mf = false ∧ rawInt mf.start :: rawInt mf.handed :: spansOf mf = sp.map rawInt ∧ sp.length = 8 := by
  unfold good at hg
  simp only [Bool.and_eq_true, Bool.not_eq_true', decide_eq_true_eq] at hg
  obtain ⟨⟨⟨⟨h1, h2⟩, h3⟩, h4⟩, h5⟩ := hg
  have e := forSearch_wt t.toArray t0.toArray t.length
  rw [like_len hL] at e ⊢
  have hA : ∀ i ∈ AL, ∀ p sn, accepts c0 i (t0.toArray.getD p 0) sn = accepts c0 i (t.toArray.getD p 0) sn := by
    intro i hi p sn
    have e1 : t0.toArray.getD p 0 = t0.getD p 0 := by simp
    have e2 : t.toArray.getD p 0 = t.getD p 0 := by simp
    rw [e1, e2]
    rcases like_get hL p with h | ⟨h6, h7, h8⟩
    · rw [h]
    · rw [h6]; exact acc_digit i hi _ h7 h8 sn
  have h10 : ∀ p, (t.toArray.getD p 0 == 10) = (t0.toArray.getD p 0 == 10) := by
    intro p
    have e1 : t0.toArray.getD p 0 = t0.getD p 0 := by simp
    have e2 : t.toArray.getD p 0 = t.getD p 0 := by simp
    rw [e1, e2]
    rcases like_get hL p with h | ⟨h6, h7, h8⟩
    · rw [h]
    · rw [h6, show (t.getD p 0 == 10) = false from beq_eq_false_iff_ne.mpr (by omega)]; rfl
  refine ⟨_, rfl, ?_⟩
  rw [e, wt_runFor first_c0 hA h10 _ _ (start_kp _ _) h1]
  refine ⟨?_, h3, h4, h5⟩
  show (M.runFor (4 * 12) (Sre.forSearch c0 t0.toArray 3 0 t0.length false)).outcome = _
  revert h2
  cases (M.runFor (4 * 12) (Sre.forSearch c0 t0.toArray 3 0 t0.length false)).outcome with
  | none => intro h; cases h
  | some o => cases o with
    | matched => intro _; rfl
    | failed => intro h; cases h
    | stuck w => intro h; cases h
noncomputable def spans3 (sg hr mn : List Nat) : List Int := [0, ((sg ++ hr ++ mn).length : Int)] ++ (if sg.isEmpty then [-1, -1] else [0, 1]) ++ [(sg.length : Int), ((sg ++ hr).length : Int)] ++ (if mn.isEmpty then [-1, -1] else [((sg ++ hr ++ mn).length : Int) - 2, ((sg ++ hr ++ mn).length : Int)])
noncomputable def goodB (hr mn : List Nat) : Bool := ([[], [43], [45]] : List (List Nat)).all fun sg => good (sg ++ hr ++ mn) (spans3 sg hr mn)
theorem good_1 : goodB [48, 48] [] = true := by decide +kernel
theorem good_2 : goodB [48, 48] [48, 48] = true := by decide +kernel
theorem good_3 : goodB [48, 48] [58, 48, 48] = true := by decide +kernel
theorem good_4 : goodB [48] [] = true := by decide +kernel
theorem good_5 : goodB [48] [48, 48] = true := by decide +kernel
theorem good_6 : goodB [48] [58, 48, 48] = true := by decide +kernel
theorem good_all {sg hr mn : List Nat} (h1 : sg ∈ ([[], [43], [45]] : List (List Nat))) (h2 : hr ∈ ([[48, 48], [48]] : List (List Nat))) (h3 : mn ∈ ([[], [48, 48], [58, 48, 48]] : List (List Nat))) : good (sg ++ hr ++ mn) (spans3 sg hr mn) = true := by
  have h : goodB hr mn = true := by
    simp only [List.mem_cons, List.not_mem_nil, or_false] at h2 h3
    rcases h2 with rfl | rfl <;> rcases h3 with rfl | rfl | rfl
    · exact good_1
    · exact good_2
    · exact good_3
    · exact good_4
    · exact good_5
    · exact good_6
  exact List.all_eq_true.mp h sg h1
theorem clock_search {prog : Program} {w : World} {A : Around} {E : Value → Shared → Prop} {s : Shared} {tk : Tok} {Q : Value → Shared → Prop} {sg hr mn hr0 mn0 : List Nat}
    (hp : s.heap.get? 37 = some patO) (hc : s.heap.get? 36 = some codeO)
    (h1 : sg ∈ ([[], [43], [45]] : List (List Nat))) (h2 : hr0 ∈ ([[48, 48], [48]] : List (List Nat))) (h3 : mn0 ∈ ([[], [48, 48], [58, 48, 48]] : List (List Nat))) (hL : Like (sg ++ hr ++ mn) (sg ++ hr0 ++ mn0))
    (hQ : ∀ li, Q (.ref (s.heap.push (tupO (spans3 sg hr0 mn0))).objs.size) { s with heap := (s.heap.push (tupO (spans3 sg hr0 mn0))).push (matO ⟨(sg ++ hr ++ mn).toArray⟩ tk li s.heap.objs.size) }) :
    wpAny (model prog w) A (call (.builtin "re.Pattern.search") [.ref 37, .str ⟨(sg ++ hr ++ mn).toArray⟩ tk]) Q E s := by
  obtain ⟨mf, e, ho, hb, hs, hl⟩ := like_search hL (good_all h1 h2 h3)
  have hlen : (sg ++ hr ++ mn).length ≤ 100 := by
    rw [like_len hL]
    simp only [List.mem_cons, List.not_mem_nil, or_false] at h1 h2 h3
    rcases h1 with rfl | rfl | rfl <;> rcases h2 with rfl | rfl <;> rcases h3 with rfl | rfl | rfl <;> decide
  refine search_wp hp hc (mf := mf) ?_ ho hb hs (by rw [hl]; decide) (hQ _)
  have e1 : clipI 0 (sg ++ hr ++ mn).toArray.size = 0 := by simp [clipI]
  have e2 : clipI (2 ^ 63 - 1) (sg ++ hr ++ mn).toArray.size = (sg ++ hr ++ mn).length := by
    rw [clipI, List.size_toArray]
    omega
  show (Sre.forSearch c0 (sg ++ hr ++ mn).toArray 3 (clipI 0 (sg ++ hr ++ mn).toArray.size) (clipI (2 ^ 63 - 1) (sg ++ hr ++ mn).toArray.size) false).runFor (4 * 12) = mf
  rw [e1, e2]
  exact e
end Mine
end SR5
section SR6
open PySem PySem.W PyProof.Rows PySem.Calls PySem.Spec
namespace Mine
theorem zones_at (P : Params) : (hd.heap_39 P).lookup 32 = some ⟨.type "dict", none, .dict #[⟨PyData.keyHash P (Str.ofString "GMT"), .str (Str.ofString "GMT") 284, .none⟩, ⟨PyData.keyHash P (Str.ofString "UTC"), .str (Str.ofString "UTC") 285, .none⟩, ⟨PyData.keyHash P (Str.ofString "UT"), .str (Str.ofString "UT") 286, .none⟩, ⟨PyData.keyHash P (Str.ofString "Z"), .str (Str.ofString "Z") 287, .none⟩] 4, #[]⟩ := rfl
theorem pat_at (P : Params) : (hd.heap_39 P).lookup 37 = some patO := rfl
theorem code_at (P : Params) : (hd.heap_39 P).lookup 36 = some codeO := by kernel_rfl
theorem zones_none {P : Params} {x : Str} (hz : ∀ z ∈ (["GMT", "UTC", "UT", "Z"] : List Str), (z == x) = false) : nsIn (hd.heap_39 P) 32 x = some none := by
  unfold nsIn
  rw [zones_at]
  have h1 : (Str.ofString "GMT" == x) = false := hz _ (by simp)
  have h2 : (Str.ofString "UTC" == x) = false := hz _ (by simp)
  have h3 : (Str.ofString "UT" == x) = false := hz _ (by simp)
  have h4 : (Str.ofString "Z" == x) = false := hz _ (by simp)
  simp [Value.isStr, h1, h2, h3, h4]
  exact ⟨rfl, rfl, rfl, rfl⟩
section
variable {prog : Program} {w : World} {A : Around} {E : Value → Shared → Prop} {s : Shared} {h₀ : Heap} {L : Addr} {m : Str → Option Value} {news : List (Addr × Obj)} {Q : Value → Shared → Prop}
theorem zones_in {x : Str} {t : Tok} (F : Fr h₀ L s.heap m) (X : (hd.heap_39 w.params).In h₀) (hz : ∀ z ∈ (["GMT", "UTC", "UT", "Z"] : List Str), (z == x) = false) (h : Q (.bool false) { s with toks := s.toks + 1 }) :
    wpAny (model prog w) A (compareOp .In (.str x t) (.ref 32)) Q E s :=
  topIn_K F X (zones_at _) ⟨⟨_, _, rfl, rfl⟩, ⟨_, _, rfl, rfl⟩, ⟨_, _, rfl, rfl⟩, ⟨_, _, rfl, rfl⟩, trivial⟩ (zones_none hz) (by decide) h
theorem mat_bool : typeLookup (.type "re.Match") "__bool__" = pure none := by rw [typeLookup_type, builtinLookup_eq_fast]; kernel_rfl
theorem mat_len : typeLookup (.type "re.Match") "__len__" = pure none := by rw [typeLookup_type, builtinLookup_eq_fast]; kernel_rfl
theorem mat_truthy {M : Model} {Q : Bool → Shared → Prop} {a T : Addr} {x : Str} {tk : Tok} {li : Int} (N : News h₀ L s.heap news) (hm : (a, matO x tk li T) ∈ news) (h : Q true s) : wpAny M A (truthy (.ref a)) Q E s := by
  have hT : s.TypeIs (.ref a) "re.Match" := ⟨_, N.get hm, rfl⟩
  have f1 := mat_bool
  have f2 := mat_len
  unfold truthy
  wp_walk
  exact h
theorem patGet (F : Fr h₀ L s.heap m) (X : (hd.heap_39 w.params).In h₀) : s.heap.get? 37 = some patO := (X.keeps F.keep) _ _ (pat_at _)
theorem codeGet (F : Fr h₀ L s.heap m) (X : (hd.heap_39 w.params).In h₀) : s.heap.get? 36 = some codeO := (X.keeps F.keep) _ _ (code_at _)
theorem getSearch_K {pl : Sem Bool} {Q : Value × List Value → Shared → Prop} (F : Fr h₀ L s.heap m) (X : (hd.heap_39 w.params).In h₀) (h : Q (.builtin "re.Pattern.search", [.ref 37]) s) :
    wpAny (model prog w) A (getMethod (.ref 37) "search" pl) Q E s := getSearch_wp (patGet F X) h
theorem getGroup_K {pl : Sem Bool} {Q : Value × List Value → Shared → Prop} {a T : Addr} {x : Str} {tk : Tok} {li : Int} (N : News h₀ L s.heap news) (hm : (a, matO x tk li T) ∈ news) (h : Q (.builtin "re.Match.group", [.ref a]) s) :
    wpAny (model prog w) A (getMethod (.ref a) "group" pl) Q E s := getGroup_wp (N.get hm) h
theorem search_K {tk : Tok} {sg hr mn hr0 mn0 : List Nat} (F : Fr h₀ L s.heap m) (X : (hd.heap_39 w.params).In h₀) (N : News h₀ L s.heap news)
    (h1 : sg ∈ ([[], [43], [45]] : List (List Nat))) (h2 : hr0 ∈ ([[48, 48], [48]] : List (List Nat))) (h3 : mn0 ∈ ([[], [48, 48], [58, 48, 48]] : List (List Nat))) (hL : Like (sg ++ hr ++ mn) (sg ++ hr0 ++ mn0))
    (h : ∀ a T h' li, (∀ p ∈ news, p.1 < T) → T < a → Fr h₀ L h' m → News h₀ L h' ((a, matO ⟨(sg ++ hr ++ mn).toArray⟩ tk li T) :: (T, tupO (spans3 sg hr0 mn0)) :: news) → Q (.ref a) { s with heap := h' }) :
    wpAny (model prog w) A (call (.builtin "re.Pattern.search") [.ref 37, .str ⟨(sg ++ hr ++ mn).toArray⟩ tk]) Q E s := by
  refine clock_search (patGet F X) (codeGet F X) h1 h2 h3 hL fun li => ?_
  refine h _ s.heap.objs.size _ li (fun p hp => Heap.lt_size (N p hp).1) ?_ ((F.push _).push _) (News.push (F.push _) (N.push F _) _)
  exact Heap.lt_size (Heap.get?_push_size s.heap (o := tupO (spans3 sg hr0 mn0)) rfl)
theorem spans_len3 {sg hr0 mn0 : List Nat} : (spans3 sg hr0 mn0).length = 8 := by
  unfold spans3
  split <;> split <;> rfl
theorem group2_K {tk tk' : Tok} {a T : Addr} {li : Int} {sg hr mn hr0 mn0 : List Nat} (N : News h₀ L s.heap news) (hm : (a, matO ⟨(sg ++ hr ++ mn).toArray⟩ tk li T) ∈ news) (ht : (T, tupO (spans3 sg hr0 mn0)) ∈ news)
    (hlen : (sg ++ hr ++ mn).length ≤ 100) (hh : hr.length = hr0.length) (hQ : ∀ t, Q (.str ⟨hr.toArray⟩ t) { s with toks := s.toks + 1 }) :
    wpAny (model prog w) A (call (.builtin "re.Match.group") [.ref a, .int 2 tk']) Q E s := by
  have e : (⟨(sg ++ hr ++ mn).toArray.extract sg.length (sg ++ hr0).length⟩ : Str) = ⟨hr.toArray⟩ := by
    congr 1
    rw [List.append_assoc, List.extract_toArray, List.length_append, ← hh]
    congr 1
    simp [List.extract]
  refine group_wp (k := 2) (b := sg.length) (e := (sg ++ hr0).length) (N.get hm) (N.get ht) spans_len3 (by decide) ?_ ?_ (Nat.le_trans (Nat.le_of_eq List.size_toArray) (Nat.le_trans hlen (by decide))) (e ▸ hQ _)
  · unfold spans3; split <;> split <;> rfl
  · unfold spans3; split <;> split <;> rfl
theorem group1_K {tk tk' : Tok} {a T : Addr} {li : Int} {g : Nat} {hr mn hr0 mn0 : List Nat} (N : News h₀ L s.heap news) (hm : (a, matO ⟨([g] ++ hr ++ mn).toArray⟩ tk li T) ∈ news) (ht : (T, tupO (spans3 [g] hr0 mn0)) ∈ news)
    (hlen : ([g] ++ hr ++ mn).length ≤ 100) (hQ : ∀ t, Q (.str ⟨#[g]⟩ t) { s with toks := s.toks + 1 }) :
    wpAny (model prog w) A (call (.builtin "re.Match.group") [.ref a, .int 1 tk']) Q E s := by
  have e : (⟨([g] ++ hr ++ mn).toArray.extract 0 1⟩ : Str) = ⟨#[g]⟩ := by
    congr 1
    simp [List.extract]
  refine group_wp (k := 1) (b := 0) (e := 1) (N.get hm) (N.get ht) spans_len3 (by decide) ?_ ?_ (Nat.le_trans (Nat.le_of_eq List.size_toArray) (Nat.le_trans hlen (by decide))) (e ▸ hQ _)
  · unfold spans3; split <;> first | rfl | (rename_i h; exact absurd h (by simp))
  · unfold spans3; split <;> first | rfl | (rename_i h; exact absurd h (by simp))
theorem group1N_K {tk tk' : Tok} {a T : Addr} {li : Int} {x : Str} {hr0 mn0 : List Nat} (N : News h₀ L s.heap news) (hm : (a, matO x tk li T) ∈ news) (ht : (T, tupO (spans3 [] hr0 mn0)) ∈ news) (hQ : Q .none s) :
    wpAny (model prog w) A (call (.builtin "re.Match.group") [.ref a, .int 1 tk']) Q E s := by
  refine groupN_wp (k := 1) (N.get hm) (N.get ht) spans_len3 (by decide) ?_ hQ
  unfold spans3; split <;> first | rfl | (rename_i h; exact absurd h (by simp))
theorem group3N_K {tk tk' : Tok} {a T : Addr} {li : Int} {x : Str} {sg hr0 : List Nat} (N : News h₀ L s.heap news) (hm : (a, matO x tk li T) ∈ news) (ht : (T, tupO (spans3 sg hr0 [])) ∈ news) (hQ : Q .none s) :
    wpAny (model prog w) A (call (.builtin "re.Match.group") [.ref a, .int 3 tk']) Q E s := by
  refine groupN_wp (k := 3) (N.get hm) (N.get ht) spans_len3 (by decide) ?_ hQ
  unfold spans3; split <;> first | rfl | (rename_i h; exact absurd h (by simp))
theorem group3_K {tk tk' : Tok} {a T : Addr} {li : Int} {p : List Nat} {c d : Nat} {sg hr hr0 mn0 : List Nat} (N : News h₀ L s.heap news) (hm : (a, matO ⟨(sg ++ hr ++ (p ++ [c, d])).toArray⟩ tk li T) ∈ news) (ht : (T, tupO (spans3 sg hr0 mn0)) ∈ news)
    (hL : Like (sg ++ hr ++ (p ++ [c, d])) (sg ++ hr0 ++ mn0)) (hlen : (sg ++ hr ++ (p ++ [c, d])).length ≤ 100) (hn : mn0.isEmpty = false) (hQ : ∀ t, Q (.str ⟨#[c, d]⟩ t) { s with toks := s.toks + 1 }) :
    wpAny (model prog w) A (call (.builtin "re.Match.group") [.ref a, .int 3 tk']) Q E s := by
  have hl := (like_len hL).symm
  rw [← List.append_assoc (sg ++ hr) p [c, d]] at hm hlen hl
  generalize sg ++ hr ++ p = pre at hm hlen hl
  have e : (⟨(pre ++ [c, d]).toArray.extract pre.length (pre.length + 2)⟩ : Str) = ⟨#[c, d]⟩ := by
    congr 1
    simp [List.extract]
  have hl2 : (pre ++ [c, d]).length = pre.length + 2 := by simp
  refine group_wp (k := 3) (b := pre.length) (e := pre.length + 2) (N.get hm) (N.get ht) spans_len3 (by decide) ?_ ?_ (Nat.le_trans (Nat.le_of_eq List.size_toArray) (Nat.le_trans hlen (by decide))) (e ▸ hQ _)
  · unfold spans3; rw [hl, hl2, hn]; split <;> (show ((pre.length + 2 : Nat) : Int) - 2 = _; omega)
  · unfold spans3; rw [hl, hl2, hn]; split <;> rfl
theorem truthy2 {Q : Bool → Shared → Prop} {c d : Nat} {t : Tok} (h : Q true { s with toks := s.toks + 1 + 1 }) : wpAny (model prog w) A (truthy (.str ⟨#[c, d]⟩ t)) Q E s :=
  PySem.P.truthy_str (by show ¬ ((2 : Nat) : Int) ≥ 2 ^ 63; decide) h
end
end Mine
namespace Mine
theorem zones_yes {P : Params} {x : Str} (hz : x ∈ (["GMT", "UTC", "UT", "Z"] : List Str)) : nsIn (hd.heap_39 P) 32 x = some (some .none) := by
  unfold nsIn
  rw [zones_at]
  simp only [List.mem_cons, List.not_mem_nil, or_false] at hz
  rcases hz with rfl | rfl | rfl | rfl <;> rfl
theorem zones_in' {prog : Program} {w : World} {A : Around} {E : Value → Shared → Prop} {s : Shared} {h₀ : Heap} {L : Addr} {m : Str → Option Value} {Q : Value → Shared → Prop} {x : Str} {t : Tok} (F : Fr h₀ L s.heap m) (X : (hd.heap_39 w.params).In h₀) (hz : x ∈ (["GMT", "UTC", "UT", "Z"] : List Str)) (h : Q (.bool true) { s with toks := s.toks + 1 }) :
    wpAny (model prog w) A (compareOp .In (.str x t) (.ref 32)) Q E s :=
  topIn_K F X (zones_at _) ⟨⟨_, _, rfl, rfl⟩, ⟨_, _, rfl, rfl⟩, ⟨_, _, rfl, rfl⟩, ⟨_, _, rfl, rfl⟩, trivial⟩ (zones_yes hz) (by decide) h
end Mine
end SR6
section SM4
open PySem PySem.W PyProof.Rows PySem.Calls PySem.Spec
namespace Mine
noncomputable def sgn (sg : List Nat) (x : Int) : Int := if sg = [45] then -x else x
noncomputable def FR (r : Int) : Int := 3600 * (10 * (r.fdiv 512).fmod 8 + (r.fdiv 64).fmod 8) + 60 * (10 * (r.fdiv 8).fmod 8 + (r.fdiv 1).fmod 8)
noncomputable def HourT (r : Int) (HH : Str) : Prop := ∃ (hr hr0 : List Nat) (H : Int), HH = ⟨hr.toArray⟩ ∧ hr0 ∈ ([[48, 48], [48]] : List (List Nat)) ∧ Like hr hr0 ∧ PySem.intText? ⟨hr.toArray⟩ = some H ∧ H = 10 * (r.fdiv 512).fmod 8 + (r.fdiv 64).fmod 8 ∧ ∃ c t, hr = c :: t ∧ c < 60
noncomputable def MinT (r : Int) (MM : Str) : Prop := ∃ (mn mn0 : List Nat) (W : Int), MM = ⟨mn.toArray⟩ ∧ mn0 ∈ ([[], [48, 48], [58, 48, 48]] : List (List Nat)) ∧ Like mn mn0 ∧ W = 60 * (10 * (r.fdiv 8).fmod 8 + (r.fdiv 1).fmod 8) ∧
  ((mn = [] ∧ mn0 = [] ∧ W = 0) ∨ (mn0.isEmpty = false ∧ ∃ p c d Mv, mn = p ++ [c, d] ∧ PySem.intText? ⟨#[c, d]⟩ = some Mv ∧ W = 60 * Mv))
noncomputable def SignT (d : Int) (S : Str) : Prop := ∃ sg : List Nat, S = ⟨sg.toArray⟩ ∧ sg ∈ ([[], [43], [45]] : List (List Nat)) ∧ (d.fmod 3 = 2 ↔ sg = [45])
noncomputable def ClockOf (r d : Int) (x : Str) : Prop := (r = 0 ∧ x ∈ (["GMT", "UTC", "UT", "Z"] : List Str)) ∨ ∃ (sg hr mn hr0 mn0 : List Nat) (H W : Int), x = ⟨(sg ++ hr ++ mn).toArray⟩ ∧ sg ∈ ([[], [43], [45]] : List (List Nat)) ∧ hr0 ∈ ([[48, 48], [48]] : List (List Nat)) ∧ mn0 ∈ ([[], [48, 48], [58, 48, 48]] : List (List Nat)) ∧ Like (sg ++ hr ++ mn) (sg ++ hr0 ++ mn0) ∧
  (∀ z ∈ (["GMT", "UTC", "UT", "Z"] : List Str), (z == (⟨(sg ++ hr ++ mn).toArray⟩ : Str)) = false) ∧ (sg ++ hr ++ mn).length ≤ 100 ∧ hr.length = hr0.length ∧ PySem.intText? ⟨hr.toArray⟩ = some H ∧ (⟨hr.toArray⟩ : Str).length ≤ 640 ∧
  ((mn = [] ∧ mn0 = [] ∧ W = 0) ∨ (mn0.isEmpty = false ∧ ∃ p c d Mv, mn = p ++ [c, d] ∧ PySem.intText? ⟨#[c, d]⟩ = some Mv ∧ W = 60 * Mv)) ∧ sgn sg (3600 * H + W) = if d.fmod 3 = 2 then -FR r else FR r
theorem like_refl : ∀ l : List Nat, Like l l
  | [] => trivial
  | _ :: l => ⟨.inl rfl, like_refl l⟩
theorem like_app : ∀ {a a' b b' : List Nat}, Like a a' → Like b b' → Like (a ++ b) (a' ++ b')
  | [], [], _, _, _, h => h
  | [], _ :: _, _, _, h, _ => h.elim
  | _ :: _, [], _, _, h, _ => h.elim
  | _ :: _, _ :: _, _, _, h, h' => ⟨h.1, like_app h.2 h'⟩
theorem str_app (a b : List Nat) : (⟨a.toArray⟩ : Str) ++ (⟨b.toArray⟩ : Str) = ⟨(a ++ b).toArray⟩ := by
  show (⟨a.toArray ++ b.toArray⟩ : Str) = _
  simp
theorem dig_txt {v : Int} (h0 : 0 ≤ v) (h1 : v < 8) : Str.ofString (toString v) = ⟨[48 + v.toNat].toArray⟩ := by
  obtain ⟨n, rfl⟩ := Int.eq_ofNat_of_zero_le h0
  have hn : n < 8 := by omega
  match n, hn with
  | 0, _ | 1, _ | 2, _ | 3, _ | 4, _ | 5, _ | 6, _ | 7, _ => decide +kernel
theorem dig_one : ∀ a, a < 8 → PySem.intText? ⟨#[48 + a]⟩ = some (a : Int) := by decide +kernel
theorem dig_two : ∀ a, a < 8 → ∀ b, b < 8 → PySem.intText? ⟨#[48 + a, 48 + b]⟩ = some (10 * (a : Int) + b) := by decide +kernel
theorem f8 (x : Int) : 0 ≤ x.fmod 8 ∧ x.fmod 8 < 8 := ⟨Int.fmod_nonneg_of_pos _ (by decide), Int.fmod_lt_of_pos _ (by decide)⟩
theorem zero_txt {v : Int} (h0 : 0 ≤ v) (h1 : v < 8) (h : (Str.ofString (toString v) == Str.ofString "0") = true) : v = 0 := by
  obtain ⟨n, rfl⟩ := Int.eq_ofNat_of_zero_le h0
  have hn : n < 8 := by omega
  match n, hn with
  | 0, _ => rfl
  | 1, _ | 2, _ | 3, _ | 4, _ | 5, _ | 6, _ | 7, _ => exact absurd h (by decide +kernel)
theorem hour_long (r : Int) : HourT r (Str.ofString (toString ((r.fdiv 512).fmod 8)) ++ Str.ofString (toString ((r.fdiv 64).fmod 8))) := by
  have ha := f8 (r.fdiv 512)
  have hb := f8 (r.fdiv 64)
  unfold HourT
  generalize (r.fdiv 512).fmod 8 = a at *
  generalize (r.fdiv 64).fmod 8 = b at *
  refine ⟨[48 + a.toNat, 48 + b.toNat], [48, 48], 10 * (a.toNat : Int) + b.toNat, ?_, by simp, ⟨.inr ⟨rfl, by omega, by omega⟩, .inr ⟨rfl, by omega, by omega⟩, trivial⟩, dig_two _ (by omega) _ (by omega), by omega, _, _, rfl, by omega⟩
  rw [dig_txt ha.1 ha.2, dig_txt hb.1 hb.2, str_app]; rfl
theorem hour_short {r : Int} (h : (Str.ofString (toString ((r.fdiv 512).fmod 8)) == Str.ofString "0") = true) : HourT r (Str.ofString (toString ((r.fdiv 64).fmod 8))) := by
  have ha := f8 (r.fdiv 512)
  have hb := f8 (r.fdiv 64)
  have hz := zero_txt ha.1 ha.2 h
  unfold HourT
  rw [hz]
  generalize (r.fdiv 64).fmod 8 = b at *
  refine ⟨[48 + b.toNat], [48], (b.toNat : Int), ?_, by simp, ⟨.inr ⟨rfl, by omega, by omega⟩, trivial⟩, dig_one _ (by omega), by omega, _, _, rfl, by omega⟩
  rw [dig_txt hb.1 hb.2]
theorem min_none {r : Int} (h0 : 0 ≤ r) (h : r.fmod 64 = 0) : MinT r (Str.ofString "") := by
  have e1 : (r.fdiv 8).fmod 8 = 0 := by
    rw [Int.fdiv_eq_ediv_of_nonneg _ (by decide), Int.fmod_eq_emod_of_nonneg _ (by decide)]
    rw [Int.fmod_eq_emod_of_nonneg _ (by decide)] at h
    omega
  have e2 : (r.fdiv 1).fmod 8 = 0 := by
    rw [Int.fdiv_eq_ediv_of_nonneg _ (by decide), Int.fmod_eq_emod_of_nonneg _ (by decide)]
    rw [Int.fmod_eq_emod_of_nonneg _ (by decide)] at h
    omega
  unfold MinT
  rw [e1, e2]
  exact ⟨[], [], 0, rfl, by simp, trivial, rfl, .inl ⟨rfl, rfl, rfl⟩⟩
theorem min_two (r : Int) (C : Str) (hC : C = Str.ofString "" ∨ C = Str.ofString ":") : MinT r (C ++ Str.ofString (toString ((r.fdiv 8).fmod 8)) ++ Str.ofString (toString ((r.fdiv 1).fmod 8))) := by
  have ha := f8 (r.fdiv 8)
  have hb := f8 (r.fdiv 1)
  unfold MinT
  generalize (r.fdiv 8).fmod 8 = a at *
  generalize (r.fdiv 1).fmod 8 = b at *
  have e0 : (Str.ofString "") = ⟨([] : List Nat).toArray⟩ := rfl
  have e1 : (Str.ofString ":") = ⟨([58] : List Nat).toArray⟩ := by decide +kernel
  rcases hC with rfl | rfl
  · refine ⟨[48 + a.toNat, 48 + b.toNat], [48, 48], 60 * (10 * (a.toNat : Int) + b.toNat), ?_, by simp, ⟨.inr ⟨rfl, by omega, by omega⟩, .inr ⟨rfl, by omega, by omega⟩, trivial⟩, by omega, .inr ⟨rfl, [], _, _, _, rfl, dig_two _ (by omega) _ (by omega), rfl⟩⟩
    rw [dig_txt ha.1 ha.2, dig_txt hb.1 hb.2, e0, str_app, str_app]; rfl
  · refine ⟨[58, 48 + a.toNat, 48 + b.toNat], [58, 48, 48], 60 * (10 * (a.toNat : Int) + b.toNat), ?_, by simp, ⟨.inl rfl, .inr ⟨rfl, by omega, by omega⟩, .inr ⟨rfl, by omega, by omega⟩, trivial⟩, by omega, .inr ⟨rfl, [58], _, _, _, rfl, dig_two _ (by omega) _ (by omega), rfl⟩⟩
    rw [dig_txt ha.1 ha.2, dig_txt hb.1 hb.2, e1, str_app, str_app]; rfl
theorem sign_0 {d : Int} (h : d.fmod 3 = 0) : SignT d (Str.ofString "") := ⟨[], rfl, by simp, by rw [h]; decide⟩
theorem sign_1 {d : Int} (h : d.fmod 3 = 1) : SignT d (Str.ofString "+") := ⟨[43], by decide +kernel, by simp, by rw [h]; decide⟩
theorem sign_2 {d : Int} (h : d.fmod 3 = 2) : SignT d (Str.ofString "-") := ⟨[45], by decide +kernel, by simp, by rw [h]; decide⟩
theorem not_zone {c : Nat} {t : List Nat} (hc : c < 60) : ∀ z ∈ (["GMT", "UTC", "UT", "Z"] : List Str), (z == (⟨(c :: t).toArray⟩ : Str)) = false := by
  intro z hz
  have key : ∀ (e : Nat) (l : List Nat), 60 ≤ e → ((⟨(e :: l).toArray⟩ : Str) == (⟨(c :: t).toArray⟩ : Str)) = false := by
    intro e l he
    refine beq_eq_false_iff_ne.mpr fun h => ?_
    have h2 : (e :: l).toArray = (c :: t).toArray := congrArg Str.cps h
    have h3 : e :: l = c :: t := by simpa using h2
    have := (List.cons.inj h3).1
    omega
  have e1 : Str.ofString "GMT" = ⟨(71 :: [77, 84]).toArray⟩ := by decide +kernel
  have e2 : Str.ofString "UTC" = ⟨(85 :: [84, 67]).toArray⟩ := by decide +kernel
  have e3 : Str.ofString "UT" = ⟨(85 :: [84]).toArray⟩ := by decide +kernel
  have e4 : Str.ofString "Z" = ⟨(90 :: []).toArray⟩ := by decide +kernel
  simp only [List.mem_cons, List.not_mem_nil, or_false] at hz
  rcases hz with rfl | rfl | rfl | rfl
  · rw [e1]; exact key _ _ (by decide)
  · rw [e2]; exact key _ _ (by decide)
  · rw [e3]; exact key _ _ (by decide)
  · rw [e4]; exact key _ _ (by decide)
theorem clock_gen {r d : Int} {S HH MM : Str} (hS : SignT d S) (hH : HourT r HH) (hM : MinT r MM) : ClockOf r d (S ++ HH ++ MM) := by
  obtain ⟨sg, rfl, h1, hsg⟩ := hS
  obtain ⟨hr, hr0, H, rfl, h2, hL1, hi, hHv, c, t, hrc, hc⟩ := hH
  obtain ⟨mn, mn0, W, rfl, h3, hL2, hW, hcase⟩ := hM
  refine .inr ⟨sg, hr, mn, hr0, mn0, H, W, by rw [str_app, str_app], h1, h2, h3, like_app (like_app (like_refl sg) hL1) hL2, ?_, ?_, like_len hL1, hi, ?_, hcase, ?_⟩
  · have hh : ∃ c' t', sg ++ hr ++ mn = c' :: t' ∧ c' < 60 := by
      simp only [List.mem_cons, List.not_mem_nil, or_false] at h1
      rcases h1 with rfl | rfl | rfl
      · exact ⟨c, t ++ mn, by rw [hrc]; rfl, hc⟩
      · exact ⟨43, hr ++ mn, rfl, by decide⟩
      · exact ⟨45, hr ++ mn, rfl, by decide⟩
    obtain ⟨c', t', e, hc'⟩ := hh
    rw [e]
    exact not_zone hc'
  · rw [like_len (like_app (like_app (like_refl sg) hL1) hL2)]
    simp only [List.mem_cons, List.not_mem_nil, or_false] at h1 h2 h3
    rcases h1 with rfl | rfl | rfl <;> rcases h2 with rfl | rfl <;> rcases h3 with rfl | rfl | rfl <;> decide
  · show hr.toArray.size ≤ 640
    rw [List.size_toArray, like_len hL1]
    simp only [List.mem_cons, List.not_mem_nil, or_false] at h2
    rcases h2 with rfl | rfl <;> decide
  · have e : 3600 * H + W = FR r := by rw [hHv, hW]; rfl
    rw [e]
    unfold sgn
    by_cases h : d.fmod 3 = 2
    · rw [if_pos (hsg.mp h), if_pos h]
    · rw [if_neg (fun h' => h (hsg.mpr h')), if_neg h]
end Mine
end SM4
section SM5
open PySem PySem.W PyProof.Rows PySem.Calls PySem.Spec
namespace Mine
/-! the plain law: linear in what each of the twelve rights weighs; per set of holders h (of four files) a finite look -/
noncomputable def comb (L : List (Int × Nat)) (f : Nat → Int) : Int := (L.map fun p => p.1 * f p.2).sum
theorem comb_congr {L : List (Int × Nat)} {f g : Nat → Int} (hL : ∀ p ∈ L, p.2 < 16) (h : ∀ k, k < 16 → f k = g k) : comb L f = comb L g := by
  unfold comb
  congr 1
  exact List.map_congr_left fun p hp => by rw [h _ (hL p hp)]
theorem comb_add (L : List (Int × Nat)) (f g : Nat → Int) : comb L (fun h => f h + g h) = comb L f + comb L g := by
  induction L with
  | nil => rfl
  | cons p L ih => simp only [comb, List.map_cons, List.sum_cons] at ih ⊢; rw [ih, Int.mul_add]; omega
theorem comb_mul (L : List (Int × Nat)) (c : Int) (f : Nat → Int) : comb L (fun h => c * f h) = c * comb L f := by
  induction L with
  | nil => simp [comb]
  | cons p L ih => simp only [comb, List.map_cons, List.sum_cons] at ih ⊢; rw [ih, Int.mul_add, Int.mul_left_comm]
theorem comb_zero (L : List (Int × Nat)) : comb L (fun _ => 0) = 0 := by
  induction L with
  | nil => rfl
  | cons p L ih => simp only [comb, List.map_cons, List.sum_cons] at ih ⊢; rw [ih]; simp
theorem comb_sub (L : List (Int × Nat)) (f g : Nat → Int) : comb L (fun h => f h - g h) = comb L f - comb L g := by
  induction L with
  | nil => rfl
  | cons p L ih => simp only [comb, List.map_cons, List.sum_cons] at ih ⊢; rw [ih, Int.mul_sub]; omega
theorem comb_ite (L : List (Int × Nat)) (c : Prop) [Decidable c] (f : Nat → Int) : comb L (fun h => if c then f h else 0) = if c then comb L f else 0 := by
  by_cases h : c
  · simp only [if_pos h]
  · simp only [if_neg h]; exact comb_zero L
theorem inS_comb (L : List (Int × Nat)) (f : Nat → Nat → Int) (who : Nat) : ∀ k, inS (fun g => comb L (fun h => f h g)) who k = comb L (fun h => inS (f h) who k)
  | 0 => (comb_zero L).symm
  | k + 1 => by
    simp only [inS]
    rw [inS_comb L f who k, comb_add, comb_ite]
noncomputable def szs : List Int := [0,1,1,2,1,2,2,3,1,2,2,3,2,3,3,4]
noncomputable def hms : List Int := [0, 12, 18, 22, 25]
noncomputable def uF (h g : Nat) : Int := if h &&& g = 0 then 0 else 1
noncomputable def mF (h g : Nat) : Int := if h &&& g = g then 1 else 0
noncomputable def hF (h g : Nat) : Int := hms.getD (szs.getD (h &&& g) 0).toNat 0
theorem look_joined : ∀ h, h < 16 → ∀ who, who < 16 → 12 * uF h who + inS (hF h) who 4 = hF h who * szs.getD who 0 := by decide +kernel
theorem plain_joined {L : List (Int × Nat)} (hL : ∀ p ∈ L, p.2 < 16) {ws : List Int} (hw : ∀ g, g < 16 → ws.getD g 0 = comb L (fun h => uF h g)) :
    12 * ws.getD 0 0 = comb L (fun h => hF h 0) ∧ ∀ who, 1 ≤ who → who < 16 → 12 * ws.getD who 0 + inS (fun g => comb L (fun h => hF h g)) who 4 = comb L (fun h => hF h who) * szs.getD who 0 := by
  have key : ∀ who, who < 16 → 12 * ws.getD who 0 + inS (fun g => comb L (fun h => hF h g)) who 4 = comb L (fun h => hF h who) * szs.getD who 0 := by
    intro who hwho
    rw [hw who hwho, inS_comb, ← comb_mul, ← comb_add, Int.mul_comm (comb L _), ← comb_mul]
    exact comb_congr hL fun h hh => by rw [look_joined h hh who hwho, Int.mul_comm]
  refine ⟨?_, fun who _ h2 => key who h2⟩
  rw [hw 0 (by decide), ← comb_mul]
  exact comb_congr hL (by decide +kernel)
end Mine
namespace Mine
noncomputable def sumM (h who : Nat) : Nat → Int
  | 0 => 0
  | n + 1 => sumM h who n + if Builtin.bitAnd ((n + 1 : Nat) : Int) (who : Int) = ((n + 1 : Nat) : Int) then scF szs (n + 1) * mF h (n + 1) else 0
theorem sumS_comb {L : List (Int × Nat)} {ws : List Int} (hw : ∀ g, 1 ≤ g → g < 16 → ws.getD g 0 = comb L (fun h => mF h g)) (who : Nat) : ∀ k, k < 16 → sumS ws szs who k = comb L (fun h => sumM h who k)
  | 0, _ => (comb_zero L).symm
  | k + 1, hk => by
    simp only [sumS, sumM]
    rw [sumS_comb hw who k (by omega), comb_add, comb_ite, comb_mul, hw (k + 1) (by omega) hk]
theorem look_shared : ∀ h, h < 16 → ∀ who, who < 16 → sumM h who who = hF h who := by decide +kernel
theorem plain_shared {L : List (Int × Nat)} (hL : ∀ p ∈ L, p.2 < 16) {ws : List Int} (hw : ∀ g, 1 ≤ g → g < 16 → ws.getD g 0 = comb L (fun h => mF h g)) (who : Nat) (h2 : who < 16) :
    sumS ws szs who who = comb L (fun h => hF h who) := by
  rw [sumS_comb hw who who h2]
  exact comb_congr hL fun h hh => look_shared h hh who h2
noncomputable def ordM (h k : Nat) : Nat → Int
  | 0 => 0
  | n + 1 => ordM h k n + if n / 2 ^ k % 2 = 0 then ([6, 2, 2, 6] : List Int).getD (szs.getD n 0).toNat 0 * (uF h (n + 2 ^ k) - uF h n) else 0
theorem ord_in : ∀ n, n < 16 → ∀ k, k < 4 → n / 2 ^ k % 2 = 0 → n + 2 ^ k < 16 := by decide
theorem ordS_comb {L : List (Int × Nat)} {ws : List Int} (hw : ∀ g, g < 16 → ws.getD g 0 = comb L (fun h => uF h g)) {k : Nat} (hk : k < 4) : ∀ n, n ≤ 16 → ordS ws szs k n = comb L (fun h => ordM h k n)
  | 0, _ => (comb_zero L).symm
  | n + 1, hn => by
    simp only [ordS, ordM]
    rw [ordS_comb hw hk n (by omega), comb_add, comb_ite]
    congr 1
    by_cases h : n / 2 ^ k % 2 = 0
    · rw [if_pos h, if_pos h, comb_mul, comb_sub, hw n (by omega), hw (n + 2 ^ k) (ord_in n (by omega) k hk h)]
    · rw [if_neg h, if_neg h]
theorem look_orders : ∀ h, h < 16 → ∀ k, k < 4 → ordM h k 16 = 2 * (hF h 15 - hF h (15 - 2 ^ k)) := by decide +kernel
theorem plain_orders {L : List (Int × Nat)} (hL : ∀ p ∈ L, p.2 < 16) {ws : List Int} (hw : ∀ g, g < 16 → ws.getD g 0 = comb L (fun h => uF h g)) {k : Nat} (hk : k < 4) :
    ordS ws szs k 16 = 2 * (comb L (fun h => hF h 15) - comb L (fun h => hF h (15 - 2 ^ k))) := by
  rw [ordS_comb hw hk 16 (Nat.le_refl _), ← comb_sub, ← comb_mul]
  exact comb_congr hL fun h hh => look_orders h hh k hk
end Mine
end SM5
section SM6
open PySem PySem.W PyProof.Rows PySem.Calls PySem.Spec
namespace Mine
noncomputable def wts : List (Int × Nat) := [(144000, 11), (72000, 10), (36000, 9), (14400, 8), (7200, 7), (3600, 6), (2400, 5), (1200, 4), (600, 3), (240, 2), (120, 1), (60, 0)]
noncomputable def bI (b : Bool) : Int := if b then 1 else 0
theorem bI_bit (n b : Nat) : bI (n.testBit b) = ((n / 2 ^ b % 2 : Nat) : Int) := by
  rw [Nat.testBit_eq_decide_div_mod_eq]
  unfold bI
  by_cases h : n / 2 ^ b % 2 = 1
  · rw [h]; rfl
  · have : n / 2 ^ b % 2 = 0 := by omega
    rw [this]; rfl
theorem oct (m : Nat) : m % 8 = 4 * (m / 4 % 2) + 2 * (m / 2 % 2) + m % 2 := by omega
theorem FR_bits (n : Nat) : FR (n : Int) = (wts.map fun p => p.1 * bI (n.testBit p.2)).sum := by
  have e : ∀ k : Nat, ((n : Int).fdiv (k : Int)).fmod 8 = ((n / k % 8 : Nat) : Int) := by
    intro k
    rw [fdiv_cast]; exact fmod_cast _ 8
  have e1 := e 512
  have e2 := e 64
  have e3 := e 8
  have e4 := e 1
  unfold FR
  rw [show ((512 : Int)) = ((512 : Nat) : Int) from rfl, show ((64 : Int)) = ((64 : Nat) : Int) from rfl]
  rw [e1, e2]
  rw [show (((n : Int).fdiv 8).fmod 8) = ((n / 8 % 8 : Nat) : Int) from e3, show (((n : Int).fdiv 1).fmod 8) = ((n / 1 % 8 : Nat) : Int) from e4]
  rw [oct (n / 512), oct (n / 64), oct (n / 8), oct (n / 1)]
  simp only [wts, List.map_cons, List.map_nil, List.sum_cons, List.sum_nil, bI_bit, Nat.div_div_eq_div_mul]
  simp only [Nat.reducePow, Nat.reduceMul, Nat.div_one]
  omega
noncomputable def growN (f : Nat → Nat) (l : List Nat) : List Nat := l ++ l.map f
noncomputable def joinN (a b c d : Nat) : List Nat := growN (· ||| d) (growN (· ||| c) (growN (· ||| b) (growN (· ||| a) [0])))
noncomputable def meetN (a b c d : Nat) : List Nat := growN (· &&& d) (growN (· &&& c) (growN (· &&& b) (growN (· &&& a) [4095])))
noncomputable def mask (x0 x1 x2 x3 : Bool) : Nat := x0.toNat + 2 * x1.toNat + 4 * x2.toNat + 8 * x3.toNat
theorem mask_lt (x0 x1 x2 x3 : Bool) : mask x0 x1 x2 x3 < 16 := by revert x0 x1 x2 x3; decide
noncomputable def growB (f : Bool → Bool) (l : List Bool) : List Bool := l ++ l.map f
theorem bit_grow (f : Nat → Nat) (g : Bool → Bool) (b : Nat) (h : ∀ m, (f m).testBit b = g (m.testBit b)) (l : List Nat) : (growN f l).map (·.testBit b) = growB g (l.map (·.testBit b)) := by
  simp only [growN, growB, List.map_append, List.map_map]
  congr 1
  exact List.map_congr_left fun m _ => h m
theorem bits_join (n0 n1 n2 n3 b : Nat) : (joinN n0 n1 n2 n3).map (·.testBit b) = growB (· || n3.testBit b) (growB (· || n2.testBit b) (growB (· || n1.testBit b) (growB (· || n0.testBit b) [false]))) := by
  unfold joinN
  rw [bit_grow _ (· || n3.testBit b) b (fun m => Nat.testBit_or ..), bit_grow _ (· || n2.testBit b) b (fun m => Nat.testBit_or ..), bit_grow _ (· || n1.testBit b) b (fun m => Nat.testBit_or ..), bit_grow _ (· || n0.testBit b) b (fun m => Nat.testBit_or ..)]
  simp
theorem bits_meet (n0 n1 n2 n3 b : Nat) : (meetN n0 n1 n2 n3).map (·.testBit b) = growB (· && n3.testBit b) (growB (· && n2.testBit b) (growB (· && n1.testBit b) (growB (· && n0.testBit b) [(4095 : Nat).testBit b]))) := by
  unfold meetN
  rw [bit_grow _ (· && n3.testBit b) b (fun m => Nat.testBit_and ..), bit_grow _ (· && n2.testBit b) b (fun m => Nat.testBit_and ..), bit_grow _ (· && n1.testBit b) b (fun m => Nat.testBit_and ..), bit_grow _ (· && n0.testBit b) b (fun m => Nat.testBit_and ..)]
  simp
theorem look_join : ∀ x0 x1 x2 x3 : Bool, ∀ g, g < 16 → bI ((growB (· || x3) (growB (· || x2) (growB (· || x1) (growB (· || x0) [false])))).getD g false) = uF (mask x0 x1 x2 x3) g := by decide +kernel
theorem look_meet : ∀ x0 x1 x2 x3 : Bool, ∀ g, g < 16 → bI ((growB (· && x3) (growB (· && x2) (growB (· && x1) (growB (· && x0) [true])))).getD g false) = mF (mask x0 x1 x2 x3) g := by decide +kernel
theorem get_bit (l : List Nat) (g b : Nat) (h : g < l.length) : (l.getD g 0).testBit b = (l.map (·.testBit b)).getD g false := by
  simp [List.getD_eq_getElem?_getD, h]
end Mine
end SM6
section SM7
open PySem PySem.W PyProof.Rows PySem.Calls PySem.Spec
namespace Mine
noncomputable def LL4 (f : Int) (n0 n1 n2 n3 : Nat) : List (Int × Nat) := wts.map fun p => (f * p.1, mask (n0.testBit p.2) (n1.testBit p.2) (n2.testBit p.2) (n3.testBit p.2))
theorem LL4_lt {f : Int} {n0 n1 n2 n3 : Nat} : ∀ p ∈ LL4 f n0 n1 n2 n3, p.2 < 16 := by
  intro p hp
  obtain ⟨q, _, rfl⟩ := List.mem_map.mp hp
  exact mask_lt _ _ _ _
theorem sum_scale (f : Int) : ∀ l : List Int, f * l.sum = (l.map fun x => f * x).sum
  | [] => by simp
  | x :: l => by rw [List.sum_cons, Int.mul_add, sum_scale f l, List.map_cons, List.sum_cons]
theorem comb_scale (f : Int) (n0 n1 n2 n3 : Nat) (F : Nat → Int) : comb (LL4 f n0 n1 n2 n3) F = f * comb (LL4 1 n0 n1 n2 n3) F := by
  unfold comb LL4
  rw [sum_scale]
  simp only [List.map_map]
  congr 1
  exact List.map_congr_left fun p _ => by simp only [Function.comp_apply, Int.one_mul, Int.mul_assoc]
theorem val_of {f : Int} {n0 n1 n2 n3 m : Nat} {F : Nat → Int} (h : ∀ p ∈ wts, bI (m.testBit p.2) = F (mask (n0.testBit p.2) (n1.testBit p.2) (n2.testBit p.2) (n3.testBit p.2))) : f * FR (m : Int) = comb (LL4 f n0 n1 n2 n3) F := by
  rw [FR_bits, sum_scale]
  unfold comb LL4
  simp only [List.map_map]
  congr 1
  exact List.map_congr_left fun p hp => by simp only [Function.comp_apply]; rw [h p hp, Int.mul_assoc]
theorem joinN_len (a b c d : Nat) : (joinN a b c d).length = 16 := by simp [joinN, growN]
theorem meetN_len (a b c d : Nat) : (meetN a b c d).length = 16 := by simp [meetN, growN]
theorem join_val (f : Int) (n0 n1 n2 n3 g : Nat) (hg : g < 16) : f * FR (((joinN n0 n1 n2 n3).getD g 0 : Nat) : Int) = comb (LL4 f n0 n1 n2 n3) (fun h => uF h g) :=
  val_of fun p _ => by rw [get_bit _ g p.2 (by rw [joinN_len]; exact hg), bits_join]; exact look_join _ _ _ _ g hg
theorem wts_bit : ∀ p ∈ wts, (4095 : Nat).testBit p.2 = true := by decide +kernel
theorem meet_val (f : Int) (n0 n1 n2 n3 g : Nat) (hg : g < 16) : f * FR (((meetN n0 n1 n2 n3).getD g 0 : Nat) : Int) = comb (LL4 f n0 n1 n2 n3) (fun h => mF h g) :=
  val_of fun p hp => by rw [get_bit _ g p.2 (by rw [meetN_len]; exact hg), bits_meet, wts_bit p hp]; exact look_meet _ _ _ _ g hg
noncomputable def fac (d : Int) : Int := if d.fmod 3 = 2 then -1 else 1
theorem fac_val (d x : Int) : (if d.fmod 3 = 2 then -x else x) = fac d * x := by
  unfold fac
  by_cases h : d.fmod 3 = 2
  · rw [if_pos h, if_pos h]; omega
  · rw [if_neg h, if_neg h]; omega
noncomputable def due (f : Int) (n0 n1 n2 n3 : Nat) (g : Nat) : Int := comb (LL4 f n0 n1 n2 n3) (fun h => hF h g)
theorem due_scale (f : Int) (n0 n1 n2 n3 g : Nat) : due f n0 n1 n2 n3 g = f * due 1 n0 n1 n2 n3 g := comb_scale _ _ _ _ _ _
theorem law_joined {f : Int} {n0 n1 n2 n3 : Nat} {ws : List Int} (hw : ∀ g, g < 16 → ws.getD g 0 = f * FR (((joinN n0 n1 n2 n3).getD g 0 : Nat) : Int)) :
    12 * ws.getD 0 0 = due f n0 n1 n2 n3 0 ∧ ∀ who, 1 ≤ who → who < 16 → 12 * ws.getD who 0 + inS (due f n0 n1 n2 n3) who 4 = due f n0 n1 n2 n3 who * szs.getD who 0 :=
  plain_joined LL4_lt fun g hg => (hw g hg).trans (join_val f n0 n1 n2 n3 g hg)
theorem law_shared {f : Int} {n0 n1 n2 n3 : Nat} {ws : List Int} (hw : ∀ g, 1 ≤ g → g < 16 → ws.getD g 0 = f * FR (((meetN n0 n1 n2 n3).getD g 0 : Nat) : Int)) (who : Nat) (h : who < 16) : sumS ws szs who who = due f n0 n1 n2 n3 who :=
  plain_shared LL4_lt (fun g h1 hg => (hw g h1 hg).trans (meet_val f n0 n1 n2 n3 g hg)) who h
theorem law_orders {f : Int} {n0 n1 n2 n3 : Nat} {ws : List Int} (hw : ∀ g, g < 16 → ws.getD g 0 = f * FR (((joinN n0 n1 n2 n3).getD g 0 : Nat) : Int)) {k : Nat} (hk : k < 4) : ordS ws szs k 16 = 2 * (due f n0 n1 n2 n3 15 - due f n0 n1 n2 n3 (15 - 2 ^ k)) :=
  plain_orders LL4_lt (fun g hg => (hw g hg).trans (join_val f n0 n1 n2 n3 g hg)) hk
theorem potL_congr {f g : Nat → Int} {n : Nat} (h : ∀ k, k < n → f k = g k) : potL f n = potL g n := List.map_congr_left fun k hk => h k (List.mem_range.mp hk)
end Mine
end SM7
section SC122
open PySem PySem.W PyProof.Rows PySem.Calls PySem.Spec
namespace Mine
theorem top_off_C122 : True := by
  w_top off
  trivial
local macro_rules | `(tactic| l_idx) => `(tactic| ((have q9 := bit_le' (by assumption) (by omega)); omega))
set_option maxHeartbeats 16000000 in
theorem joined_c (prog : Program) (w : World) (mean : ExcName → Option Value) (mg mb : Str → Option Value) (wl sl : Addr) (wv sv : List Value) (ws ss : List Int) (n1 n2 : Nat) (pot : Nat → Int) (h1 : IntsAre wv ws) (h2 : ws.length = 16) (h3 : IntsAre sv ss) (h4 : ss = [0,1,1,2,1,2,2,3,1,2,2,3,2,3,3,4]) (hp0 : 12 * ws.getD 0 0 = pot 0) (hp : ∀ who, 1 ≤ who → who < 16 → 12 * ws.getD who 0 + inS pot who 4 = pot who * ss.getD who 0) :
  PureC prog w mean mg mb 122 [.ref wl, .ref sl] [(wl, W.listOf wv.toArray n1), (sl, W.listOf sv.toArray n2)] (fun g h v => ∃ r vs k, v = .ref r ∧ g.get? r = none ∧ h.get? r = some (W.listOf vs.toArray k) ∧ IntsAre vs (potL pot 16)) := by
  (k_with "my room" => (simp only [depth_under_make, depth_under_kw, depth_in1, depth_deeper, depth_caller, recursionLimit]; omega))
  unfold PureC
  intro dp un gd cn cs a ccd cl outer A₀ base h₀ L m s Q E B F X N T hk hd hu hret
  refine wpAny_call ?_
  k_dflt (first
    | (refine' enterG ?k1 ?k2 ?k3 ?k4 ?k5 ?kA ?kF ?kK ?k6 ?k7 ?k8 ?k9 ?kB ?_ ?c2 ?c3 ?c4 ?c5; (case kA => exact rfl); (case kF => exact rfl); (case kK => assumption); (case k1 => k_asm); (case k2 => k_asm); (case k3 => k_asm); (case k4 => k_asm); (case k5 => k_asm); (case k6 => k_is); (case k7 => k_is); (case k8 => k_room); (case k9 => exact BindsTo.of_eq rfl); (case c5 => decide); (case kB => exact locs rfl); (case c2 => exact rfl); (case c3 => exact rfl); (case c4 => exact rfl); k_whole; intro g' L' h' hg' FG' F' N' B' X' T' l1; (try dsimp only); (try k_lt l1); (try k_lift B'); (try k_fold))
    | (refine' enterGC ?k1 ?k2 ?k3 ?k4 ?k5 ?kA ?kF ?kK ?k6 ?k7 ?k8 ?k9 ?kB ?kD ?_ ?c2 ?c3 ?c4; (case kA => exact rfl); (case kF => exact rfl); (case kK => assumption); (case k1 => k_asm); (case k2 => k_asm); (case k3 => k_asm); (case k4 => k_asm); (case k5 => k_asm); (case k6 => k_is); (case k7 => k_is); (case k8 => k_room); (case k9 => exact BindsTo.of_eq rfl); (case kB => exact rfl); (case kD => decide +kernel); (case c2 => exact rfl); (case c3 => exact rfl); (case c4 => exact rfl); k_whole; intro g' L' h' tk' cells' hg' FG' F' N' Y' B' X' T' l1; (try k_lt l1); k_cells Y'; (try simp only [List.cons_append, List.nil_append] at N'); (try dsimp only); (try k_lift B'); (try k_fold)))
  (k_with "state" => first | exact j_start hp0 | exact j_in0 | exact j_inN (by assumption) (by assumption) (by assumption) (by omega) | exact j_inY (by assumption) (by assumption) (by assumption) (by assumption) (by omega) | exact j_out (by assumption) (by assumption) | fail)
  (k_with "exec For Name Call cons nil" => kpr_for)
  (k_with "call builtin:divmod" => (refine divmod_ex (pot kN.toNat) (by assumption) (by assumption) (sz_pos h4 (by omega) (by omega)).1 (sz_pos h4 (by omega) (by omega)).2 (j_dm hp (by assumption) (by omega) (by omega)) ?_; intro T9 h9 l9 F9 N9; (try k_lt l9)))
  (k_with "pyIter ref" => (k_of "who" => k_state (fun pre p => p.length = pre.length + 1 ∧ p = potL pot (pre.length+1)) "potential"))
  (k_with "pyIter ref" => (k_of "k" => (first | (k_state_short (fun pre wh => wh = 12 * ws.getD kN.toNat 0 + inS pot kN.toNat pre.length) "whole") | fail)))
  k_steps
  all_goals (dsimp only; refine hret _ _ _ (keepG hg' N (by assumption) (by assumption) (subC (by k_mem) (subC (by k_mem) sub0))) ⟨_, _, _, rfl, freshG hg' (by assumption) (by k_mem) (by k_all), News.get (by assumption) (by k_mem), j_end (by assumption) (by assumption)⟩)
  k_with_none
end Mine
end SC122
section SC129
open PySem PySem.W PyProof.Rows PySem.Calls PySem.Spec
namespace Mine
theorem top_off_C129 : True := by
  w_top off
  trivial
set_option maxHeartbeats 16000000 in
theorem shared_c (prog : Program) (w : World) (mean : ExcName → Option Value) (mg mb : Str → Option Value) (wl sl : Addr) (wv sv : List Value) (ws ss : List Int) (n1 n2 : Nat) (h1 : IntsAre wv ws) (h2 : ws.length = 16) (h3 : IntsAre sv ss) (h4 : ss = [0,1,1,2,1,2,2,3,1,2,2,3,2,3,3,4]) :
  PureC prog w mean mg mb 129 [.ref wl, .ref sl] [(wl, W.listOf wv.toArray n1), (sl, W.listOf sv.toArray n2)] (fun g h v => ∃ r vs k, v = .ref r ∧ g.get? r = none ∧ h.get? r = some (W.listOf vs.toArray k) ∧ IntsAre vs (potL (fun n => sumS ws ss n n) 16)) := by
  (k_with "my room" => (simp only [depth_under_make, depth_under_kw, depth_in1, depth_deeper, depth_caller, recursionLimit]; omega))
  unfold PureC
  intro dp un gd cn cs a ccd cl outer A₀ base h₀ L m s Q E B F X N T hk hd hu hret
  refine wpAny_call ?_
  k_dflt (first
    | (refine' enterG ?k1 ?k2 ?k3 ?k4 ?k5 ?kA ?kF ?kK ?k6 ?k7 ?k8 ?k9 ?kB ?_ ?c2 ?c3 ?c4 ?c5; (case kA => exact rfl); (case kF => exact rfl); (case kK => assumption); (case k1 => k_asm); (case k2 => k_asm); (case k3 => k_asm); (case k4 => k_asm); (case k5 => k_asm); (case k6 => k_is); (case k7 => k_is); (case k8 => k_room); (case k9 => exact BindsTo.of_eq rfl); (case c5 => decide); (case kB => exact locs rfl); (case c2 => exact rfl); (case c3 => exact rfl); (case c4 => exact rfl); k_whole; intro g' L' h' hg' FG' F' N' B' X' T' l1; (try dsimp only); (try k_lt l1); (try k_lift B'); (try k_fold))
    | (refine' enterGC ?k1 ?k2 ?k3 ?k4 ?k5 ?kA ?kF ?kK ?k6 ?k7 ?k8 ?k9 ?kB ?kD ?_ ?c2 ?c3 ?c4; (case kA => exact rfl); (case kF => exact rfl); (case kK => assumption); (case k1 => k_asm); (case k2 => k_asm); (case k3 => k_asm); (case k4 => k_asm); (case k5 => k_asm); (case k6 => k_is); (case k7 => k_is); (case k8 => k_room); (case k9 => exact BindsTo.of_eq rfl); (case kB => exact rfl); (case kD => decide +kernel); (case c2 => exact rfl); (case c3 => exact rfl); (case c4 => exact rfl); k_whole; intro g' L' h' tk' cells' hg' FG' F' N' Y' B' X' T' l1; (try k_lt l1); k_cells Y'; (try simp only [List.cons_append, List.nil_append] at N'); (try dsimp only); (try k_lift B'); (try k_fold)))
  (k_with "state" => first | exact s_start rfl | exact s_in0 | exact s_inN (by assumption) (by assumption) (by assumption) (by omega) | exact s_inY1 (by assumption) (by assumption) (by assumption) (by omega) (by assumption) | exact s_inY2 (by assumption) (by assumption) (by assumption) (by omega) (by assumption) | exact s_out (f := fun n k => sumS ws ss n k) (by assumption) (by assumption) (by assumption) | fail)
  (k_with "exec For Name Call cons nil" => kpr_for)
  (k_with "binaryOp FloorDiv int int" => (refine fdiv_sz (sz_pos h4 (by omega) (by omega)) ?_))
  (k_with "binaryOp Mult int int" => first | refine mul_left (sc_p h4 _) ?_ | refine mul_left (sc_m h4 _) ?_)
  (k_with "pyIter ref" => (k_of "who" => k_state (fun pre p => p.length = pre.length + 1 ∧ p = potL (fun n => sumS ws ss n n) (pre.length+1)) "potential"))
  (k_with "pyIter ref" => (k_of "part" => (first | (k_state (fun pre wh => wh = sumS ws ss kN.toNat pre.length) "whole") | fail)))
  k_steps
  all_goals (dsimp only; refine hret _ _ _ (keepG hg' N (by assumption) (by assumption) (subC (by k_mem) (subC (by k_mem) sub0))) ⟨_, _, _, rfl, freshG hg' (by assumption) (by k_mem) (by k_all), News.get (by assumption) (by k_mem), j_end' (by assumption) (by assumption) (by rw [rangeKs_length]; rfl)⟩)
  k_with_none
end Mine
end SC129
section SC141
open PySem PySem.W PyProof.Rows PySem.Calls PySem.Spec
namespace Mine
theorem top_off_C141 : True := by
  w_top off
  trivial
set_option maxHeartbeats 16000000 in
theorem orders_c (prog : Program) (w : World) (mean : ExcName → Option Value) (mg mb : Str → Option Value) (wl sl : Addr) (wv sv : List Value) (ws ss : List Int) (n1 n2 : Nat) (h1 : IntsAre wv ws) (h2 : ws.length = 16) (h3 : IntsAre sv ss) (h4 : ss = [0,1,1,2,1,2,2,3,1,2,2,3,2,3,3,4]) :
  PureC prog w mean mg mb 141 [.ref wl, .ref sl] [(wl, W.listOf wv.toArray n1), (sl, W.listOf sv.toArray n2)] (fun g h v => ∃ r vs k, v = .ref r ∧ g.get? r = none ∧ h.get? r = some (W.listOf vs.toArray k) ∧ IntsAre vs (potL (fun k => ordS ws ss k 16) 4)) := by
  (k_with "my room" => (simp only [depth_under_make, depth_under_kw, depth_in1, depth_deeper, depth_caller, recursionLimit]; omega))
  unfold PureC
  intro dp un gd cn cs a ccd cl outer A₀ base h₀ L m s Q E B F X N T hk hd hu hret
  refine wpAny_call ?_
  k_dflt (first
    | (refine' enterG ?k1 ?k2 ?k3 ?k4 ?k5 ?kA ?kF ?kK ?k6 ?k7 ?k8 ?k9 ?kB ?_ ?c2 ?c3 ?c4 ?c5; (case kA => exact rfl); (case kF => exact rfl); (case kK => assumption); (case k1 => k_asm); (case k2 => k_asm); (case k3 => k_asm); (case k4 => k_asm); (case k5 => k_asm); (case k6 => k_is); (case k7 => k_is); (case k8 => k_room); (case k9 => exact BindsTo.of_eq rfl); (case c5 => decide); (case kB => exact locs rfl); (case c2 => exact rfl); (case c3 => exact rfl); (case c4 => exact rfl); k_whole; intro g' L' h' hg' FG' F' N' B' X' T' l1; (try dsimp only); (try k_lt l1); (try k_lift B'); (try k_fold))
    | (refine' enterGC ?k1 ?k2 ?k3 ?k4 ?k5 ?kA ?kF ?kK ?k6 ?k7 ?k8 ?k9 ?kB ?kD ?_ ?c2 ?c3 ?c4; (case kA => exact rfl); (case kF => exact rfl); (case kK => assumption); (case k1 => k_asm); (case k2 => k_asm); (case k3 => k_asm); (case k4 => k_asm); (case k5 => k_asm); (case k6 => k_is); (case k7 => k_is); (case k8 => k_room); (case k9 => exact BindsTo.of_eq rfl); (case kB => exact rfl); (case kD => decide +kernel); (case c2 => exact rfl); (case c3 => exact rfl); (case c4 => exact rfl); k_whole; intro g' L' h' tk' cells' hg' FG' F' N' Y' B' X' T' l1; (try k_lt l1); k_cells Y'; (try simp only [List.cons_append, List.nil_append] at N'); (try dsimp only); (try k_lift B'); (try k_fold)))
  (k_with "state" => first | exact o_start | exact o_in0 | exact o_inN (by assumption) (by assumption) (by assumption) (by assumption) | exact o_inY (by assumption) (by assumption) (by assumption) (by assumption) | exact o_out (f := fun k n => ordS ws ss k n) (by assumption) (by assumption) (by assumption) | fail)
  (k_with "exec For Name Call cons nil" => kpr_for)
  (k_with "subscriptTail Name Subscript" => (have q9 := o_idx h4 (by assumption) (by omega) (by omega) (by omega) (by omega)); (refine ksa_sub (ns := [6, 2, 2, 6]) (by assumption) (by k_mem) (by l_ints) q9.1 q9.2.1 (by simp only [List.length_cons, List.length_nil] at q9; omega) ?_); clear q9; intro _)
  (k_with "binaryOp Mult int int" => refine mul_left (ord_b _) ?_)
  (k_with "subscriptTail Name BinOp" => (have q9 := o_idx h4 (by assumption) (by omega) (by omega) (by omega) (by omega)); (refine ksa_sub (ns := ws) (by assumption) (by k_mem) h1 (by omega) (by omega) (by omega) ?_); clear q9; intro _)
  (k_with "pyIter ref" => (k_of "k" => (first | (k_state_short (fun pre p => p.length = pre.length ∧ p = potL (fun k => ordS ws ss k 16) pre.length) "shares") | fail)))
  (k_with "pyIter ref" => (k_of "who" => (first | (k_state (fun pre wh => wh = ordS ws ss kN.toNat pre.length) "paid") | fail)))
  k_steps
  all_goals first | (dsimp only; refine hret _ _ _ (keepG hg' N (by assumption) (by assumption) (subC (by k_mem) (subC (by k_mem) sub0))) ⟨_, _, _, rfl, freshG hg' (by assumption) (by k_mem) (by k_all), News.get (by assumption) (by k_mem), j_end' (by assumption) (by assumption) (by rw [rangeKs_length]; rfl)⟩) | fail
  k_with_none
end Mine
end SC141
section SC44
open PySem PySem.W PyProof.Rows PySem.Calls PySem.Spec
namespace Mine
theorem top_off_C44 : True := by
  w_top off
  trivial
theorem sg3 {sg : List Nat} (h : sg ∈ ([[], [43], [45]] : List (List Nat))) : sg = [] ∨ sg = [43] ∨ sg = [45] := by simpa using h
set_option maxHeartbeats 16000000 in
theorem offset_c (prog : Program) (w : World) (mean : ExcName → Option Value) (mg mb : Str → Option Value) (sg hr mn hr0 mn0 : List Nat) (tk : Tok) (H W : Int) (h1 : sg ∈ ([[], [43], [45]] : List (List Nat))) (h2 : hr0 ∈ ([[48, 48], [48]] : List (List Nat))) (h3 : mn0 ∈ ([[], [48, 48], [58, 48, 48]] : List (List Nat))) (hL : Like (sg ++ hr ++ mn) (sg ++ hr0 ++ mn0)) (hz : ∀ z ∈ (["GMT", "UTC", "UT", "Z"] : List Str), (z == (⟨(sg ++ hr ++ mn).toArray⟩ : Str)) = false) (hlen : (sg ++ hr ++ mn).length ≤ 100) (hhl : hr.length = hr0.length) (hH : PySem.intText? ⟨hr.toArray⟩ = some H) (hHl : (⟨hr.toArray⟩ : Str).length ≤ 640) (hcase : (mn = [] ∧ mn0 = [] ∧ W = 0) ∨ (mn0.isEmpty = false ∧ ∃ p c d Mv, mn = p ++ [c, d] ∧ PySem.intText? ⟨#[c, d]⟩ = some Mv ∧ W = 60 * Mv)) :
  PureC prog w mean mg mb 44 [.str ⟨(sg ++ hr ++ mn).toArray⟩ tk] [] (fun g h v => ∃ t, v = .int (sgn sg (3600 * H + W)) t) := by
  (k_with "my room" => (simp only [depth_under_make, depth_under_kw, depth_in1, depth_deeper, depth_caller, recursionLimit]; omega))
  unfold PureC
  intro dp un gd cn cs a ccd cl outer A₀ base h₀ L m s Q E B F X N T hk hd hu hret
  rcases hcase with ⟨rfl, rfl, rfl⟩ | ⟨hn, p, c, d, Mv, rfl, hM, rfl⟩
  all_goals (refine wpAny_call ?_)
  all_goals k_dflt (first
    | (refine' enterG ?k1 ?k2 ?k3 ?k4 ?k5 ?kA ?kF ?kK ?k6 ?k7 ?k8 ?k9 ?kB ?_ ?c2 ?c3 ?c4 ?c5; (case kA => exact rfl); (case kF => exact rfl); (case kK => assumption); (case k1 => k_asm); (case k2 => k_asm); (case k3 => k_asm); (case k4 => k_asm); (case k5 => k_asm); (case k6 => k_is); (case k7 => k_is); (case k8 => k_room); (case k9 => exact BindsTo.of_eq rfl); (case c5 => decide); (case kB => exact locs rfl); (case c2 => exact rfl); (case c3 => exact rfl); (case c4 => exact rfl); k_whole; intro g' L' h' hg' FG' F' N' B' X' T' l1; (try dsimp only); (try k_lt l1); (try k_lift B'); (try k_fold))
    | (refine' enterGC ?k1 ?k2 ?k3 ?k4 ?k5 ?kA ?kF ?kK ?k6 ?k7 ?k8 ?k9 ?kB ?kD ?_ ?c2 ?c3 ?c4; (case kA => exact rfl); (case kF => exact rfl); (case kK => assumption); (case k1 => k_asm); (case k2 => k_asm); (case k3 => k_asm); (case k4 => k_asm); (case k5 => k_asm); (case k6 => k_is); (case k7 => k_is); (case k8 => k_room); (case k9 => exact BindsTo.of_eq rfl); (case kB => exact rfl); (case kD => decide +kernel); (case c2 => exact rfl); (case c3 => exact rfl); (case c4 => exact rfl); k_whole; intro g' L' h' tk' cells' hg' FG' F' N' Y' B' X' T' l1; (try k_lt l1); k_cells Y'; (try simp only [List.cons_append, List.nil_append] at N'); (try dsimp only); (try k_lift B'); (try k_fold)))
  (k_with "compareOp In str ref" => refine zones_in (by assumption) (by assumption) hz ?_)
  (k_with "getMethod ref" => first | refine getSearch_K (by assumption) (by assumption) ?_ | refine getGroup_K (by assumption) (by k_mem) ?_)
  (k_with "truthy ref" => refine mat_truthy (by assumption) (by k_mem) ?_)
  (k_with "truthy str" => refine truthy2 ?_)
  (k_with "call type:int" => refine PySem.W.KIN.call_text (by assumption) (by first | assumption | exact (by decide : 2 ≤ 640)) ?_)
  (k_with "call builtin:re.Pattern.search" => (refine search_K (by assumption) (by assumption) (by assumption) h1 h2 h3 hL ?_; intro a9 T9 h9 li9 l9 l8 F9 N9; (try k_lt l9)))
  (k_with "call builtin:re.Match.group" => first
    | ((k_dflt (refine' group2_K ?ga ?gb ?gc hlen hhl ?_; (case ga => assumption); (case gb => exact List.Mem.head _); (case gc => exact List.Mem.tail _ (List.Mem.head _)); intro t9)))
    | (k_dflt (refine' group3N_K ?ga ?gb ?gc ?_; (case ga => assumption); (case gb => exact List.Mem.head _); (case gc => exact List.Mem.tail _ (List.Mem.head _))))
    | (k_dflt (refine' group3_K ?ga ?gb ?gc hL hlen hn ?_; (case ga => assumption); (case gb => exact List.Mem.head _); (case gc => exact List.Mem.tail _ (List.Mem.head _)); intro t9))
    | (((rcases sg3 h1 with rfl | rfl | rfl) <;> (first | (k_dflt (refine' group1N_K ?ga ?gb ?gc ?_; (case ga => assumption); (case gb => exact List.Mem.head _); (case gc => exact List.Mem.tail _ (List.Mem.head _)))) | (k_dflt (refine' group1_K ?ga ?gb ?gc hlen ?_; (case ga => assumption); (case gb => exact List.Mem.head _); (case gc => exact List.Mem.tail _ (List.Mem.head _)); intro t9))))))
  k_steps
  all_goals first | (dsimp only; exact hret _ _ _ (keepG hg' N (by assumption) (by assumption) sub0) (ktn_int (by simp [sgn]))) | fail
  k_with_none
end Mine
end SC44
section SC44z
open PySem PySem.W PyProof.Rows PySem.Calls PySem.Spec
namespace Mine
theorem top_off_C44z : True := by
  w_top off
  trivial
set_option maxHeartbeats 16000000 in
theorem zone_c (prog : Program) (w : World) (mean : ExcName → Option Value) (mg mb : Str → Option Value) (x : Str) (tk : Tok) (hz : x ∈ (["GMT", "UTC", "UT", "Z"] : List Str)) :
  PureC prog w mean mg mb 44 [.str x tk] [] (fun g h v => ∃ t, v = .int 0 t) := by
  (k_with "my room" => (simp only [depth_under_make, depth_under_kw, depth_in1, depth_deeper, depth_caller, recursionLimit]; omega))
  unfold PureC
  intro dp un gd cn cs a ccd cl outer A₀ base h₀ L m s Q E B F X N T hk hd hu hret
  refine wpAny_call ?_
  k_dflt (first
    | (refine' enterG ?k1 ?k2 ?k3 ?k4 ?k5 ?kA ?kF ?kK ?k6 ?k7 ?k8 ?k9 ?kB ?_ ?c2 ?c3 ?c4 ?c5; (case kA => exact rfl); (case kF => exact rfl); (case kK => assumption); (case k1 => k_asm); (case k2 => k_asm); (case k3 => k_asm); (case k4 => k_asm); (case k5 => k_asm); (case k6 => k_is); (case k7 => k_is); (case k8 => k_room); (case k9 => exact BindsTo.of_eq rfl); (case c5 => decide); (case kB => exact locs rfl); (case c2 => exact rfl); (case c3 => exact rfl); (case c4 => exact rfl); k_whole; intro g' L' h' hg' FG' F' N' B' X' T' l1; (try dsimp only); (try k_lt l1); (try k_lift B'); (try k_fold))
    | (refine' enterGC ?k1 ?k2 ?k3 ?k4 ?k5 ?kA ?kF ?kK ?k6 ?k7 ?k8 ?k9 ?kB ?kD ?_ ?c2 ?c3 ?c4; (case kA => exact rfl); (case kF => exact rfl); (case kK => assumption); (case k1 => k_asm); (case k2 => k_asm); (case k3 => k_asm); (case k4 => k_asm); (case k5 => k_asm); (case k6 => k_is); (case k7 => k_is); (case k8 => k_room); (case k9 => exact BindsTo.of_eq rfl); (case kB => exact rfl); (case kD => decide +kernel); (case c2 => exact rfl); (case c3 => exact rfl); (case c4 => exact rfl); k_whole; intro g' L' h' tk' cells' hg' FG' F' N' Y' B' X' T' l1; (try k_lt l1); k_cells Y'; (try simp only [List.cons_append, List.nil_append] at N'); (try dsimp only); (try k_lift B'); (try k_fold)))
  (k_with "compareOp In str ref" => refine zones_in' (by assumption) (by assumption) hz ?_)
  k_steps
  all_goals first | (dsimp only; exact hret _ _ _ (keepG hg' N (by assumption) (by assumption) sub0) (ktn_int rfl)) | fail
  k_with_none
end Mine
end SC44z
section SC51
open PySem PySem.W PyProof.Rows PySem.Calls PySem.Spec
namespace Mine
theorem top_off_C51 : True := by
  w_top off
  trivial
set_option maxHeartbeats 16000000 in
theorem imode_c (prog : Program) (w : World) (mean : ExcName → Option Value) (mg mb : Str → Option Value) (r : Int) (tr : Tok)  :
  PureC prog w mean mg mb 51 [.int r tr] [] (fun g h v => ∃ t, v = .int (Builtin.bitAnd r 4095) t) := by
  (k_with "my room" => (simp only [depth_under_make, depth_under_kw, depth_in1, depth_deeper, depth_caller, recursionLimit]; omega))
  unfold PureC
  intro dp un gd cn cs a ccd cl outer A₀ base h₀ L m s Q E B F X N T hk hd hu hret
  refine wpAny_call ?_
  k_dflt (first
    | (refine' enterG ?k1 ?k2 ?k3 ?k4 ?k5 ?kA ?kF ?kK ?k6 ?k7 ?k8 ?k9 ?kB ?_ ?c2 ?c3 ?c4 ?c5; (case kA => exact rfl); (case kF => exact rfl); (case kK => assumption); (case k1 => k_asm); (case k2 => k_asm); (case k3 => k_asm); (case k4 => k_asm); (case k5 => k_asm); (case k6 => k_is); (case k7 => k_is); (case k8 => k_room); (case k9 => exact BindsTo.of_eq rfl); (case c5 => decide); (case kB => exact locs rfl); (case c2 => exact rfl); (case c3 => exact rfl); (case c4 => exact rfl); k_whole; intro g' L' h' hg' FG' F' N' B' X' T' l1; (try dsimp only); (try k_lt l1); (try k_lift B'); (try k_fold))
    | (refine' enterGC ?k1 ?k2 ?k3 ?k4 ?k5 ?kA ?kF ?kK ?k6 ?k7 ?k8 ?k9 ?kB ?kD ?_ ?c2 ?c3 ?c4; (case kA => exact rfl); (case kF => exact rfl); (case kK => assumption); (case k1 => k_asm); (case k2 => k_asm); (case k3 => k_asm); (case k4 => k_asm); (case k5 => k_asm); (case k6 => k_is); (case k7 => k_is); (case k8 => k_room); (case k9 => exact BindsTo.of_eq rfl); (case kB => exact rfl); (case kD => decide +kernel); (case c2 => exact rfl); (case c3 => exact rfl); (case c4 => exact rfl); k_whole; intro g' L' h' tk' cells' hg' FG' F' N' Y' B' X' T' l1; (try k_lt l1); k_cells Y'; (try simp only [List.cons_append, List.nil_append] at N'); (try dsimp only); (try k_lift B'); (try k_fold)))
  skip
  k_steps
  all_goals first | (dsimp only; exact hret _ _ _ (keepG hg' N (by assumption) (by assumption) sub0) (ktn_int rfl)) | fail
  k_with_none
set_option maxHeartbeats 16000000 in
theorem ifmt_c (prog : Program) (w : World) (mean : ExcName → Option Value) (mg mb : Str → Option Value) (r : Int) (tr : Tok)  :
  PureC prog w mean mg mb 58 [.int r tr] [] (fun g h v => ∃ t, v = .int (Builtin.bitAnd r 61440) t) := by
  (k_with "my room" => (simp only [depth_under_make, depth_under_kw, depth_in1, depth_deeper, depth_caller, recursionLimit]; omega))
  unfold PureC
  intro dp un gd cn cs a ccd cl outer A₀ base h₀ L m s Q E B F X N T hk hd hu hret
  refine wpAny_call ?_
  k_dflt (first
    | (refine' enterG ?k1 ?k2 ?k3 ?k4 ?k5 ?kA ?kF ?kK ?k6 ?k7 ?k8 ?k9 ?kB ?_ ?c2 ?c3 ?c4 ?c5; (case kA => exact rfl); (case kF => exact rfl); (case kK => assumption); (case k1 => k_asm); (case k2 => k_asm); (case k3 => k_asm); (case k4 => k_asm); (case k5 => k_asm); (case k6 => k_is); (case k7 => k_is); (case k8 => k_room); (case k9 => exact BindsTo.of_eq rfl); (case c5 => decide); (case kB => exact locs rfl); (case c2 => exact rfl); (case c3 => exact rfl); (case c4 => exact rfl); k_whole; intro g' L' h' hg' FG' F' N' B' X' T' l1; (try dsimp only); (try k_lt l1); (try k_lift B'); (try k_fold))
    | (refine' enterGC ?k1 ?k2 ?k3 ?k4 ?k5 ?kA ?kF ?kK ?k6 ?k7 ?k8 ?k9 ?kB ?kD ?_ ?c2 ?c3 ?c4; (case kA => exact rfl); (case kF => exact rfl); (case kK => assumption); (case k1 => k_asm); (case k2 => k_asm); (case k3 => k_asm); (case k4 => k_asm); (case k5 => k_asm); (case k6 => k_is); (case k7 => k_is); (case k8 => k_room); (case k9 => exact BindsTo.of_eq rfl); (case kB => exact rfl); (case kD => decide +kernel); (case c2 => exact rfl); (case c3 => exact rfl); (case c4 => exact rfl); k_whole; intro g' L' h' tk' cells' hg' FG' F' N' Y' B' X' T' l1; (try k_lt l1); k_cells Y'; (try simp only [List.cons_append, List.nil_append] at N'); (try dsimp only); (try k_lift B'); (try k_fold)))
  skip
  k_steps
  all_goals first | (dsimp only; exact hret _ _ _ (keepG hg' N (by assumption) (by assumption) sub0) (ktn_int rfl)) | fail
  k_with_none
end Mine
end SC51
section SC98
open PySem PySem.W PyProof.Rows PySem.Calls PySem.Spec
namespace Mine
theorem top_off_C98 : True := by
  w_top off
  trivial
local macro_rules | `(tactic| walk_at $s:str) => `(tactic| k_extra $s)
set_option maxHeartbeats 16000000 in
theorem filemode_c (prog : Program) (w : World) (mean : ExcName → Option Value) (mg mb : Str → Option Value) (r : Int) (tr : Tok) (h1 : 0 ≤ r) (h2 : r < 65536) (hmode : ModeIs r) :
  PureC prog w mean mg mb 98 [.int r tr] [] (fun g h v => ∃ t, v = .str (rowStr r) t) := by
  (k_with "my room" => (simp only [depth_under_make, depth_under_kw, depth_in1, depth_deeper, depth_caller, recursionLimit]; omega))
  unfold PureC
  intro dp un gd cn cs a ccd cl outer A₀ base h₀ L m s Q E B F X N T hk hd hu hret
  refine wpAny_call ?_
  k_dflt (first
    | (refine' enterG ?k1 ?k2 ?k3 ?k4 ?k5 ?kA ?kF ?kK ?k6 ?k7 ?k8 ?k9 ?kB ?_ ?c2 ?c3 ?c4 ?c5; (case kA => exact rfl); (case kF => exact rfl); (case kK => assumption); (case k1 => k_asm); (case k2 => k_asm); (case k3 => k_asm); (case k4 => k_asm); (case k5 => k_asm); (case k6 => k_is); (case k7 => k_is); (case k8 => k_room); (case k9 => exact BindsTo.of_eq rfl); (case c5 => decide); (case kB => exact locs rfl); (case c2 => exact rfl); (case c3 => exact rfl); (case c4 => exact rfl); k_whole; intro g' L' h' hg' FG' F' N' B' X' T' l1; (try dsimp only); (try k_lt l1); (try k_lift B'); (try k_fold))
    | (refine' enterGC ?k1 ?k2 ?k3 ?k4 ?k5 ?kA ?kF ?kK ?k6 ?k7 ?k8 ?k9 ?kB ?kD ?_ ?c2 ?c3 ?c4; (case kA => exact rfl); (case kF => exact rfl); (case kK => assumption); (case k1 => k_asm); (case k2 => k_asm); (case k3 => k_asm); (case k4 => k_asm); (case k5 => k_asm); (case k6 => k_is); (case k7 => k_is); (case k8 => k_room); (case k9 => exact BindsTo.of_eq rfl); (case kB => exact rfl); (case kD => decide +kernel); (case c2 => exact rfl); (case c3 => exact rfl); (case c4 => exact rfl); k_whole; intro g' L' h' tk' cells' hg' FG' F' N' Y' B' X' T' l1; (try k_lt l1); k_cells Y'; (try simp only [List.cons_append, List.nil_append] at N'); (try dsimp only); (try k_lift B'); (try k_fold)))
  skip
  (k_with "call type:enumerate" => (((k_dflt (refine kst_enumT (x₀ := Str.ofString "index") [Str.ofString "table", Str.ofString "bit", Str.ofString "char"] (colsOf (by assumption)) (by exact rfl) (by k_dflt assumption) (by k_dflt assumption) (by exact tab_tup (by assumption)) (by exact rfl) ?_ ?_)); (all_goals first | (intro w9 kk9 i9 t9 x9 T9 u9 h9 tk9 own9 hx9 hw9 hoff9 hT9 F9 N9; obtain ⟨tt9, refs9, ps9, hxe9, htt9, hps9, hp9⟩ := tab_at (by assumption) i9 x9 hx9; subst hxe9; simp only [List.cons_append, List.nil_append] at N9; (try dsimp only)) | (intro w9 kk9 u9 h9 tk9 hw9 F9 N9; (try dsimp only))))))
  (k_with "exec For Tuple Name cons cons" => ((k_dflt (refine kst_first (Str.ofString "bit") [Str.ofString "char"] (hitOf (by assumption) (by assumption)) (by exact rfl) (by k_dflt assumption) (by k_dflt assumption) (by assumption) (by assumption) ?_ ?_ ?_ (fun _ => rfl))); (all_goals first | (intro a9 b9 c9 ub9 uc9 u9 h9 tk9 own9 hbc9 hfind9 hT9 hown9 F9 N9; (try dsimp only)) | (intro u9 h9 tk9 hnone9 F9 N9; (try dsimp only)) | skip)))
  (k_with "call builtin:list.append" => ((with_unfolding_all first | refine append_S (by assumption) (by assumption) (by assumption) (by assumption) (by assumption) (cols_small (by assumption)) ?_ | refine append_S0 (by assumption) (by assumption) (by assumption) (by assumption) (cols_small (by assumption)) ?_); intro h9 F9 N9 hw8; (try dsimp only)))
  (k_with "call builtin:str.join" => ((with_unfolding_all refine join_S (by assumption) (by assumption) cols_sum rfl ?_); intro t9 k9; (try dsimp only)))
  (k_with "exec For Tuple Call cons nil" => (k_here; (rename Fr _ _ _ _ => lF'); (with_unfolding_all refine' For_turns lF' ?_; k_whole)))
  k_steps
  all_goals first
    | exact ⟨_, _, rfl, fun _ _ e => e⟩
    | (refine ⟨by first | exact miss0 (by assumption) (by assumption) | exact miss1 (by assumption) (by assumption), _, _, _, rfl, by assumption, by assumption, ?_⟩
       intro z hz1 hz2
       have hz3 : z ≠ Str.ofString "char" := by simpa using hz2
       (try dsimp only)
       simp only [hz1, hz2, hz3, if_false, Bool.false_eq_true])
    | (refine ⟨by first | exact hit0 (by assumption) (by assumption) | exact hit1 (by assumption) (by assumption), ?_⟩
       (try dsimp only)
       k_steps
       refine InvEndN.intro (by assumption) (by assumption) ⟨(_, _), rfl, cols_hit (by assumption) (by assumption) (by first | exact hit0 (by assumption) (by assumption) | exact hit1 (by assumption) (by assumption)) (by assumption), ?_⟩ rfl (subC (List.mem_append.mpr (.inr (List.Mem.head _))) sub0) (fun p hp => List.mem_append.mpr (.inr (List.Mem.tail _ hp)))
       intro z hz1 hz2
       have hz3 : z ≠ Str.ofString "table" := by intro e; rw [e] at hz2; revert hz2; decide
       have hz4 : z ≠ Str.ofString "bit" := by intro e; rw [e] at hz2; revert hz2; decide
       have hz5 : z ≠ Str.ofString "char" := by intro e; rw [e] at hz2; revert hz2; decide
       have hz6 : [Str.ofString "char"].contains z = false := by simpa using hz5
       (try dsimp only)
       simp only [hz1, hz2, hz3, hz4, hz5, hz6, if_false, Bool.false_eq_true])
    | (refine InvEndN.intro (by assumption) (by assumption) ⟨(_, _), rfl, by first | exact cols_miss0 (by assumption) (by assumption) (by assumption) (by assumption) | exact cols_miss1 (by assumption) (by assumption) (by assumption) (by assumption), ?_⟩ rfl (subC (List.Mem.head _) sub0) (fun p hp => List.Mem.tail _ hp)
       intro z hz1 hz2
       have hz3 : z ≠ Str.ofString "table" := by intro e; rw [e] at hz2; revert hz2; decide
       have hz4 : z ≠ Str.ofString "bit" := by intro e; rw [e] at hz2; revert hz2; decide
       have hz5 : z ≠ Str.ofString "char" := by intro e; rw [e] at hz2; revert hz2; decide
       have hz6 : [Str.ofString "char"].contains z = false := by simpa using hz5
       (try dsimp only)
       simp only [hz1, hz2, hz3, hz4, hz5, hz6, if_false, Bool.false_eq_true])
    | ((try dsimp only); refine hret _ _ _ (keepG hg' N (by assumption) (by assumption) sub0) ⟨_, row_val⟩)
    | fail
  k_with_none
end Mine
end SC98
section SC105
open PySem PySem.W PyProof.Rows PySem.Calls PySem.Spec
namespace Mine
theorem top_off_C105 : True := by
  w_top off
  trivial
local macro_rules | `(tactic| walk_at $s:str) => `(tactic| k_extra $s)
noncomputable def PureL (prog : Program) (w : World) (mean : ExcName → Option Value) (mg mb : Str → Option Value) (l : Addr) (lvs : List Value) (f : Addr) (vs : List Value) (news : List (Addr × Obj)) (Post : Heap → Heap → Value → Prop) : Prop :=
  ∀ (dp un : Nat) (gd : Option (List Code)) (cn : Str) (cs : Scope) (a : Addr) (ccd : Value) (cl : List (Str × Addr)) (outer : List Env) (A₀ : Around) (base h₀ : Heap) (L : Addr) (m : Str → Option Value) (s : Shared) (Q E : Value → Shared → Prop),
    Below A₀ base outer h₀ → Fr h₀ L s.heap m → (hd.heap_39 w.params).In h₀ → News h₀ L s.heap news → Top hd.view_39 LL mean mg mb h₀ → cs.kind = .function → dp < 500 → un < 200 → base.IsList l lvs.toArray →
    (∀ v h' tk', (∀ b o, s.heap.get? b = some o → h'.get? b = some o) → Post s.heap h' v → Q v { s with heap := h', toks := tk' }) →
    wpAny (model prog w) (ktrTop dp un gd cn cs L a ccd cl outer) (call (.ref f) vs) Q E s
set_option maxHeartbeats 16000000 in
theorem modes_c (prog : Program) (w : World) (mean : ExcName → Option Value) (mg mb : Str → Option Value) (l : Addr) (vs : List Value) (ns : List Int) (hi : IntsAre vs ns) (hlen : ns.length ≤ 63) :
  PureL prog w mean mg mb l vs 105 [.ref l] [] (fun g h v => ∃ r k a b c d t1 t2 t3 t4, v = .ref r ∧ g.get? r = none ∧ h.get? r = some (W.listOf #[.int a t1, .int b t2, .int c t3, .int d t4] k) ∧ (0 ≤ a ∧ a < 65536) ∧ (0 ≤ b ∧ b < 65536) ∧ (0 ≤ c ∧ c < 65536) ∧ (0 ≤ d ∧ d < 65536)) := by
  (k_with "my room" => (simp only [depth_under_make, depth_under_kw, depth_in1, depth_deeper, depth_caller, recursionLimit]; omega))
  unfold PureL
  intro dp un gd cn cs a ccd cl outer A₀ base h₀ L m s Q E B F X N T hk hd hu hlist hret
  refine wpAny_call ?_
  k_dflt (first
    | (refine' enterG ?k1 ?k2 ?k3 ?k4 ?k5 ?kA ?kF ?kK ?k6 ?k7 ?k8 ?k9 ?kB ?_ ?c2 ?c3 ?c4 ?c5; (case kA => exact rfl); (case kF => exact rfl); (case kK => assumption); (case k1 => k_asm); (case k2 => k_asm); (case k3 => k_asm); (case k4 => k_asm); (case k5 => k_asm); (case k6 => k_is); (case k7 => k_is); (case k8 => k_room); (case k9 => exact BindsTo.of_eq rfl); (case c5 => decide); (case kB => exact locs rfl); (case c2 => exact rfl); (case c3 => exact rfl); (case c4 => exact rfl); k_whole; intro g' L' h' hg' FG' F' N' B' X' T' l1; (try dsimp only); (try k_lt l1); (try k_lift B'); (try k_fold))
    | (refine' enterGC ?k1 ?k2 ?k3 ?k4 ?k5 ?kA ?kF ?kK ?k6 ?k7 ?k8 ?k9 ?kB ?kD ?_ ?c2 ?c3 ?c4; (case kA => exact rfl); (case kF => exact rfl); (case kK => assumption); (case k1 => k_asm); (case k2 => k_asm); (case k3 => k_asm); (case k4 => k_asm); (case k5 => k_asm); (case k6 => k_is); (case k7 => k_is); (case k8 => k_room); (case k9 => exact BindsTo.of_eq rfl); (case kB => exact rfl); (case kD => decide +kernel); (case c2 => exact rfl); (case c3 => exact rfl); (case c4 => exact rfl); k_whole; intro g' L' h' tk' cells' hg' FG' F' N' Y' B' X' T' l1; (try k_lt l1); k_cells Y'; (try simp only [List.cons_append, List.nil_append] at N'); (try dsimp only); (try k_lift B'); (try k_fold)))
  skip
  (k_with "call type:enumerate" => (((k_dflt (refine kst_enum (x₀ := Str.ofString "number") [Str.ofString "place"] (fun ms => ms.length = 4 ∧ ∀ x ∈ ms, 0 ≤ x ∧ x < 65536) (by exact rfl) (by k_dflt assumption) (by k_dflt assumption) (by (refine neN ?_; omega)) (by assumption) (by l_ints) (by exact ⟨rfl, by decide⟩) ?_ ?_)); (all_goals first | (intro w9 ms9 kk9 i9 k9 t9 x9 T9 u9 h9 tk9 own9 hk9 hw9 hP9 hoff9 hT9 F9 N9; obtain ⟨hP8, hP7⟩ := hP9; simp only [List.cons_append, List.nil_append] at N9; (try dsimp only)) | (intro w9 ms9 kk9 u9 h9 tk9 hw9 hP9 F9 N9; (try dsimp only))))))
  (k_with "exec For Tuple Call cons nil" => (k_here; (rename Fr _ _ _ _ => lF'); (with_unfolding_all refine' For_turns lF' ?_; k_whole)))
  k_steps
  all_goals first
    | (dsimp only; refine hret _ _ _ (keepG hg' N (by assumption) (by assumption) sub0) (modes_post (News.get (by assumption) (List.Mem.head _)) (freshG hg' (by assumption) (List.Mem.head _) (by k_all)) (by assumption) (by assumption)))
    | (refine InvEndN.intro (by assumption) (by assumption) ⟨(_, _, _), rfl, (by assumption), ?_, modes_step (by assumption) (by assumption)⟩ rfl (subC (List.Mem.head _) sub0) (fun p hp => List.Mem.tail _ hp)
       intro z hz1 hz2
       have hz3 : z ≠ Str.ofString "place" := by simpa using hz2
       dsimp only
       rw [if_neg hz1, if_neg hz3, if_neg hz1, if_neg (by rw [hz2]; decide)])
    | fail
  k_with_none
end Mine
end SC105
section SC110
open PySem PySem.W PyProof.Rows PySem.Calls PySem.Spec
namespace Mine
theorem top_off_C110 : True := by
  w_top off
  trivial
local macro_rules | `(tactic| walk_at $s:str) => `(tactic| k_extra $s)
set_option maxHeartbeats 16000000 in
theorem clock_c (prog : Program) (w : World) (mean : ExcName → Option Value) (mg mb : Str → Option Value) (r d q : Int) (tr td tq : Tok) (h1 : 0 ≤ r) (h2 : r < 4096) (h3 : 0 ≤ d) (h4 : d < 12) (h5 : 0 ≤ q) :
  PureC prog w mean mg mb 110 [.int r tr, .int d td, .int q tq] [] (fun g h v => ∃ x t, v = .str x t ∧ ClockOf r d x) := by
  (k_with "my room" => (simp only [depth_under_make, depth_under_kw, depth_in1, depth_deeper, depth_caller, recursionLimit]; omega))
  unfold PureC
  intro dp un gd cn cs a ccd cl outer A₀ base h₀ L m s Q E B F X N T hk hd hu hret
  refine wpAny_call ?_
  k_dflt (first
    | (refine' enterG ?k1 ?k2 ?k3 ?k4 ?k5 ?kA ?kF ?kK ?k6 ?k7 ?k8 ?k9 ?kB ?_ ?c2 ?c3 ?c4 ?c5; (case kA => exact rfl); (case kF => exact rfl); (case kK => assumption); (case k1 => k_asm); (case k2 => k_asm); (case k3 => k_asm); (case k4 => k_asm); (case k5 => k_asm); (case k6 => k_is); (case k7 => k_is); (case k8 => k_room); (case k9 => exact BindsTo.of_eq rfl); (case c5 => decide); (case kB => exact locs rfl); (case c2 => exact rfl); (case c3 => exact rfl); (case c4 => exact rfl); k_whole; intro g' L' h' hg' FG' F' N' B' X' T' l1; (try dsimp only); (try k_lt l1); (try k_lift B'); (try k_fold))
    | (refine' enterGC ?k1 ?k2 ?k3 ?k4 ?k5 ?kA ?kF ?kK ?k6 ?k7 ?k8 ?k9 ?kB ?kD ?_ ?c2 ?c3 ?c4; (case kA => exact rfl); (case kF => exact rfl); (case kK => assumption); (case k1 => k_asm); (case k2 => k_asm); (case k3 => k_asm); (case k4 => k_asm); (case k5 => k_asm); (case k6 => k_is); (case k7 => k_is); (case k8 => k_room); (case k9 => exact BindsTo.of_eq rfl); (case kB => exact rfl); (case kD => decide +kernel); (case c2 => exact rfl); (case c3 => exact rfl); (case c4 => exact rfl); k_whole; intro g' L' h' tk' cells' hg' FG' F' N' Y' B' X' T' l1; (try k_lt l1); k_cells Y'; (try simp only [List.cons_append, List.nil_append] at N'); (try dsimp only); (try k_lift B'); (try k_fold)))
  skip
  (k_with "CompSrc" => (k_here; k_dflt (refine LCg.CompSrc.ledger (by rfl) (by k_asm) (by k_asm) (by k_mem) (by first | size_fits | exact Nat.le_of_ble_eq_true rfl) ?_; intro g'; lcg_lit)))
  (k_with "subscriptTail Name Constant ref int" => ((with_unfolding_all refine item_obj (by k_asm) (by k_mem) (by rfl) (by rfl) (by decide) (by decide) (by rfl) ?_ (by with_unfolding_all rfl))))
  k_steps
  all_goals first
    | (exact hret _ _ _ (keepG hg' N (by assumption) (by assumption) sub0) ⟨_, _, rfl, Or.inl ⟨by assumption, by simp⟩⟩)
    | (exact hret _ _ _ (keepG hg' N (by assumption) (by assumption) sub0) ⟨_, _, rfl, clock_gen (by first | exact sign_0 (by assumption) | exact sign_1 (by assumption) | exact sign_2 (by assumption)) (by first | exact hour_long r | exact hour_short (by assumption)) (by first | exact min_none h1 (by assumption) | exact min_two r _ (Or.inl rfl) | exact min_two r _ (Or.inr rfl))⟩)
    | fail
  k_with_none
end Mine
end SC110
section SC115
open PySem PySem.W PyProof.Rows PySem.Calls PySem.Spec
namespace Mine
theorem top_off_C115 : True := by
  w_top off
  trivial
local macro_rules | `(tactic| walk_at $s:str) => `(tactic| k_extra $s)
local macro_rules | `(tactic| k_ne) => `(tactic| k_extra "my ne")
theorem ne_gtl {a b c : Nat} {P : Prop} (h : c < a ∧ P) (k : c < a ∧ P → b < a) : a ≠ b := Nat.ne_of_gt (k h)
theorem ne_ltl {a b c : Nat} {P : Prop} (h : c < b ∧ P) (k : c < b ∧ P → a < b) : a ≠ b := Nat.ne_of_lt (k h)
theorem drop8 {h₀ h : Heap} {L : Addr} {a b c d e f g i : Addr × Obj} (N : News h₀ L h [a, b, c, d, e, f, g, i]) : News h₀ L h [a, c, d, e, g, i] := fun _ hp => N _ (List.Sublist.subset (.cons_cons _ (.cons _ (.cons_cons _ (.cons_cons _ (.cons_cons _ (.cons _ (.cons_cons _ (.cons_cons _ .slnil)))))))) hp)
noncomputable abbrev grow (f : Int → Int) (l : List Int) : List Int := l ++ List.map f l
noncomputable abbrev joinL (a b c d : Int) : List Int := grow (fun k' => Builtin.bitOr k' d) (grow (fun k' => Builtin.bitOr k' c) (grow (fun k' => Builtin.bitOr k' b) (grow (fun k' => Builtin.bitOr k' a) [0])))
noncomputable abbrev meetL (a b c d : Int) : List Int := grow (fun k' => Builtin.bitAnd k' d) (grow (fun k' => Builtin.bitAnd k' c) (grow (fun k' => Builtin.bitAnd k' b) (grow (fun k' => Builtin.bitAnd k' a) [4095])))
noncomputable abbrev sizeL : List Int := grow (fun k' => k' + 1) (grow (fun k' => k' + 1) (grow (fun k' => k' + 1) (grow (fun k' => k' + 1) [0])))
set_option maxHeartbeats 16000000 in
theorem sets_c (prog : Program) (w : World) (mean : ExcName → Option Value) (mg mb : Str → Option Value) (rl : Addr) (ra rb rc rd : Int) (t1 t2 t3 t4 : Tok) (n1 : Nat)  :
  PureC prog w mean mg mb 115 [.ref rl] [(rl, W.listOf #[.int ra t1, .int rb t2, .int rc t3, .int rd t4] n1)] (fun g h v => ∃ (r j sh z : Addr) (jv sv zv : List Value), v = .ref r ∧ h.get? r = some { cls := .type "tuple", data := .seq #[.ref j, .ref sh, .ref z] } ∧ h.get? j = some (W.listOf jv.toArray 0) ∧ h.get? sh = some (W.listOf sv.toArray 0) ∧ h.get? z = some (W.listOf zv.toArray 0) ∧ IntsAre jv (joinL ra rb rc rd) ∧ IntsAre sv (meetL ra rb rc rd) ∧ IntsAre zv sizeL ∧ g.get? r = none ∧ g.get? j = none ∧ g.get? sh = none ∧ g.get? z = none ∧ (j ≠ sh ∧ j ≠ z ∧ sh ≠ z ∧ j ≠ r ∧ sh ≠ r ∧ z ≠ r)) := by
  (k_with "my room" => (simp only [depth_under_make, depth_under_kw, depth_in1, depth_deeper, depth_caller, recursionLimit]; omega))
  unfold PureC
  intro dp un gd cn cs a ccd cl outer A₀ base h₀ L m s Q E B F X N T hk hd hu hret
  refine wpAny_call ?_
  k_dflt (first
    | (refine' enterG ?k1 ?k2 ?k3 ?k4 ?k5 ?kA ?kF ?kK ?k6 ?k7 ?k8 ?k9 ?kB ?_ ?c2 ?c3 ?c4 ?c5; (case kA => exact rfl); (case kF => exact rfl); (case kK => assumption); (case k1 => k_asm); (case k2 => k_asm); (case k3 => k_asm); (case k4 => k_asm); (case k5 => k_asm); (case k6 => k_is); (case k7 => k_is); (case k8 => k_room); (case k9 => exact BindsTo.of_eq rfl); (case c5 => decide); (case kB => exact locs rfl); (case c2 => exact rfl); (case c3 => exact rfl); (case c4 => exact rfl); k_whole; intro g' L' h' hg' FG' F' N' B' X' T' l1; (try dsimp only); (try k_lt l1); (try k_lift B'); (try k_fold))
    | (refine' enterGC ?k1 ?k2 ?k3 ?k4 ?k5 ?kA ?kF ?kK ?k6 ?k7 ?k8 ?k9 ?kB ?kD ?_ ?c2 ?c3 ?c4; (case kA => exact rfl); (case kF => exact rfl); (case kK => assumption); (case k1 => k_asm); (case k2 => k_asm); (case k3 => k_asm); (case k4 => k_asm); (case k5 => k_asm); (case k6 => k_is); (case k7 => k_is); (case k8 => k_room); (case k9 => exact BindsTo.of_eq rfl); (case kB => exact rfl); (case kD => decide +kernel); (case c2 => exact rfl); (case c3 => exact rfl); (case c4 => exact rfl); k_whole; intro g' L' h' tk' cells' hg' FG' F' N' Y' B' X' T' l1; (try k_lt l1); k_cells Y'; (try simp only [List.cons_append, List.nil_append] at N'); (try dsimp only); (try k_lift B'); (try k_fold)))
  skip
  (k_with "storeName" => ((rename News _ _ _ [_, _, _, _, _, _, _, _] => N9); (replace N9 := drop8 N9); walk_at "storeName"))
  (k_with "exec For Name Name cons nil" => (k_here; (rename Fr _ _ _ _ => lF'); (with_unfolding_all refine' For_turns lF' ?_; k_whole)))
  (k_with "my ne" => (refine neN ?_; (try dsimp only); first
      | with_reducible assumption
      | (with_reducible exact Ne.symm (by assumption))
      | (with_reducible exact Nat.ne_of_lt (Nat.lt_add_one_of_lt (by assumption)))
      | (with_reducible ((refine ne_gtl (by assumption) ?_); intro h9; repeat (first | exact h9 | exact And.left h9 | replace h9 := And.right h9)); done)
      | (with_reducible ((refine ne_ltl (by assumption) ?_); intro h9; repeat (first | exact h9 | exact And.left h9 | replace h9 := And.right h9)); done)
      | (with_reducible exact Nat.ne_of_gt (by assumption))
      | (with_reducible exact Nat.ne_of_lt (by assumption))
      | (with_reducible ((refine Nat.ne_of_gt ?_); repeat (first | exact Nat.lt_add_one _ | refine Nat.lt_add_one_of_lt ?_)); done)
      | (with_reducible ((refine Nat.ne_of_lt ?_); repeat (first | exact Nat.lt_add_one _ | refine Nat.lt_add_one_of_lt ?_)); done)
      | ((repeat (rename _ ≠ _ => h9; clear h9)); (repeat (rename _ ≠ _ ∧ _ => h9; clear h9)); (repeat (rename (_ ≠ _ ∧ _) ∧ _ => h9; clear h9)); omega)))
  (k_with "FinE" => ((unfold LCg.FinE); intro D' h' tk' F' N' o1'; (try simp only [LCg.Off1, and_true] at o1'); (repeat (have o9 := And.left o1'; replace o1' := And.right o1')); (try simp only [List.nil_append, List.cons_append] at N'); (try dsimp only)))
  k_steps
  all_goals first | (dsimp only; refine hret _ _ _ (keepG hg' N (by assumption) (by assumption) (subC (by k_mem) sub0)) ⟨_, _, _, _, _, _, _, rfl, News.get (by assumption) (List.Mem.head _), News.get (by assumption) (by k_mem), News.get (by assumption) (by k_mem), News.get (by assumption) (by k_mem), (by assumption), (by assumption), (by assumption), freshG hg' (by assumption) (List.Mem.head _) (by k_all), freshG hg' (by assumption) (by k_mem) (by k_all), freshG hg' (by assumption) (by k_mem) (by k_all), freshG hg' (by assumption) (by k_mem) (by k_all), ⟨by k_ne, by k_ne, by k_ne, by k_ne, by k_ne, by k_ne⟩⟩) | fail
  k_with_none
end Mine
end SC115
section SC134
open PySem PySem.W PyProof.Rows PySem.Calls PySem.Spec
namespace Mine
theorem top_off_C134 : True := by
  w_top off
  trivial
local macro_rules | `(tactic| walk_at $s:str) => `(tactic| k_extra $s)
local macro_rules | `(tactic| walk_at "pyIter ref") => `(tactic| k_extra "my pyIter")
set_option maxHeartbeats 16000000 in
theorem rows_c (prog : Program) (w : World) (mean : ExcName → Option Value) (mg mb : Str → Option Value) (rl sl : Addr) (n0 n1 n2 n3 : Int) (t1 t2 t3 t4 : Tok) (sv : List Value) (k1 k2 : Nat) (hrw : RowsOf n0 n1 n2 n3) (h3 : IntsAre sv sizesL) :
  PureC prog w mean mg mb 134 [.ref rl, .ref sl] [(rl, W.listOf #[.str (rowStr n0) t1, .str (rowStr n1) t2, .str (rowStr n2) t3, .str (rowStr n3) t4] k1), (sl, W.listOf sv.toArray k2)] (fun g h v => ∃ (r : Addr) (k : Nat) (pv : List Value), v = .ref r ∧ g.get? r = none ∧ h.get? r = some (W.listOf pv.toArray k) ∧ IntsAre pv (potOf hrw 12)) := by
  (k_with "my room" => (simp only [depth_under_make, depth_under_kw, depth_in1, depth_deeper, depth_caller, recursionLimit]; omega))
  unfold PureC
  intro dp un gd cn cs a ccd cl outer A₀ base h₀ L m s Q E B F X N T hk hd hu hret
  refine wpAny_call ?_
  k_dflt (first
    | (refine' enterG ?k1 ?k2 ?k3 ?k4 ?k5 ?kA ?kF ?kK ?k6 ?k7 ?k8 ?k9 ?kB ?_ ?c2 ?c3 ?c4 ?c5; (case kA => exact rfl); (case kF => exact rfl); (case kK => assumption); (case k1 => k_asm); (case k2 => k_asm); (case k3 => k_asm); (case k4 => k_asm); (case k5 => k_asm); (case k6 => k_is); (case k7 => k_is); (case k8 => k_room); (case k9 => exact BindsTo.of_eq rfl); (case c5 => decide); (case kB => exact locs rfl); (case c2 => exact rfl); (case c3 => exact rfl); (case c4 => exact rfl); k_whole; intro g' L' h' hg' FG' F' N' B' X' T' l1; (try dsimp only); (try k_lt l1); (try k_lift B'); (try k_fold))
    | (refine' enterGC ?k1 ?k2 ?k3 ?k4 ?k5 ?kA ?kF ?kK ?k6 ?k7 ?k8 ?k9 ?kB ?kD ?_ ?c2 ?c3 ?c4; (case kA => exact rfl); (case kF => exact rfl); (case kK => assumption); (case k1 => k_asm); (case k2 => k_asm); (case k3 => k_asm); (case k4 => k_asm); (case k5 => k_asm); (case k6 => k_is); (case k7 => k_is); (case k8 => k_room); (case k9 => exact BindsTo.of_eq rfl); (case kB => exact rfl); (case kD => decide +kernel); (case c2 => exact rfl); (case c3 => exact rfl); (case c4 => exact rfl); k_whole; intro g' L' h' tk' cells' hg' FG' F' N' Y' B' X' T' l1; (try k_lt l1); k_cells Y'; (try simp only [List.cons_append, List.nil_append] at N'); (try dsimp only); (try k_lift B'); (try k_fold)))
  skip
  (k_with "exec For Tuple Name cons nil" => (k_here; (rename Fr _ _ _ _ => lF'); (with_unfolding_all refine' For_turns lF' ?_; k_whole)))
  (k_with "eval ListComp" => (k_here; lct_look; lcg_calm; (k_dflt (refine LCt.ListComp_T (F₀ := by k_asm) (by with_unfolding_all rfl) (by decide) (by rfl) (by decide) (by rfl) ?_)); (k_dflt lct_toSrc)))
  (k_with "CompSrcT" => (k_here; (k_dflt (refine LCt.CompSrcT.range (n := 4) (by rfl) (by k_asm) (by k_asm) (by assumption) (by decide) (by rfl) (by decide) ?_)); intro g'))
  (k_with "CompRestT" => (k_dflt (first | ((refine rest_row (i := 0) (by assumption) (by assumption) 0 (by exact rfl) (by exact holdR0) ?_ ?_)) | ((refine rest_row (i := 0 + 1) (by assumption) (by assumption) 1 (by exact rfl) (by assumption) ?_ ?_)) | ((refine rest_row (i := 0 + 1 + 1) (by assumption) (by assumption) 2 (by exact rfl) (by assumption) ?_ ?_)) | ((refine rest_row (i := 0 + 1 + 1 + 1) (by assumption) (by assumption) 3 (by exact rfl) (by assumption) ?_ ?_))); k_whole; (all_goals first | (intro t9' I' oI' C' oC' D' m' h' tk' E' hR9 hv' hx' F' N' off' ne') | (intro ys9 hR9))))
  (k_with "CompEnd int" => (k_dflt (refine LCg.CompEnd.intro (by assumption) (by assumption) _ (fun _ hp => hp) (by assumption) trivial ⟨rfl, holdR_hit (by assumption) rfl (by assumption) (by rfl)⟩)))
  (k_with "CompEnd none" => (k_dflt (refine LCg.CompEnd.intro (by assumption) (by assumption) _ (fun _ hp => hp) (by assumption) trivial ⟨rfl, (by first | exact holdR_missF (by assumption) rfl (by assumption) | exact holdR_miss (by assumption) rfl (by assumption))⟩)))
  (k_with "subscriptTail Name Name str int" => (k_dflt (refine' row_item (by omega) (by omega) ?_ (by with_unfolding_all rfl) (by intro _; with_unfolding_all rfl)); k_whole))
  (k_with "compareOp In str str" => (with_reducible refine row_in ?_))
  (k_with "call builtin:sum" => ((k_dflt (refine row_sum (by k_dflt assumption) (by k_dflt (exact rfl)) (by k_dflt assumption) (by k_dflt assumption) (by k_mem) ?_)); intro h9 tk9 t9 F9 N9; (try dsimp only)))
  (k_with "my pyIter" => ((k_dflt (refine kst_rows (x₀ := Str.ofString "seconds") [Str.ofString "holders", Str.ofString "who"] (potOf (by assumption)) (by k_dflt (exact rfl)) (by k_dflt assumption) (by k_dflt assumption) (by k_dflt assumption) (by k_dflt assumption) (by k_dflt assumption) (by k_dflt assumption) (by k_dflt assumption) (by k_dflt assumption) (by k_dflt assumption) (by k_dflt assumption) (by k_dflt assumption) (by k_dflt assumption) (by k_dflt assumption) (by k_dflt assumption) (by k_dflt assumption) (by k_dflt assumption) (by exact potz) (by k_dflt assumption) (by k_dflt assumption) ?_ ?_)); (all_goals first | (intro w9 kk9 o39 o29 x39 x29 i9 T9 p9 g9 c9 x9 y9 z9 u9 h9 tk9 rest9 hr9 hw9 hc39 hc29 hoff9 hT9 F9 N9; (have hbd9 := shown_bd hr9); (try dsimp only)) | (intro w9 kk9 o39 o29 u9 h9 tk9 hw9 F9 N9; (try dsimp only)))))
  (k_with "my pyIter" => ((k_dflt (refine kst_pay (adr := [_, _]) (valsR _ _ _ _ _) (by k_dflt (exact rfl)) (by k_dflt assumption) (by k_dflt assumption) (by k_dflt assumption) (by k_dflt assumption) (by (rw [vals0]; assumption)) ?_ ?_)); (all_goals first | (intro w9 kk9 ns9 k9 t9 u9 h9 tk9 own9 hns9 hk09 hk19 hoff9 hw9 F9 N9; (have hns8 : ns9.length = 16 := by rw [hns9]; exact vals_len); (try dsimp only)) | (intro w9 kk9 u9 h9 tk9 hw9 F9 N9; (try dsimp only)))))
  (k_with "subscriptTail Name BinOp ref int" => ((k_dflt (refine ksa_sub (by k_dflt assumption) (by k_mem) (by k_dflt assumption) (by exact (and_bdH (by assumption)).1) (by exact (and_bdH (by assumption)).2) (by exact Int.lt_trans (and_bdH (by assumption)).2 (by decide)) ?_ (by with_unfolding_all rfl))); intro t9))
  (k_with "subscriptTail Name Subscript ref int" => ((k_dflt (refine ksa_sub (ns := harmL) (by k_dflt assumption) (by k_mem) (by exact harm_ints) (by exact sz_bd.1) (by exact sz_bd.2) (by exact Int.lt_trans sz_bd.2 (by decide)) ?_ (by with_unfolding_all rfl))); intro t9; (try (have hmul9 := mul_ok (x := harmL.getD (sizesL.getD (Builtin.bitAnd (holdUp _ _ _ _ _ _ 4) _).toNat 0).toNat 0) (And.left (And.right (And.right (by assumption)))) (by omega)))))
  k_steps
  all_goals first
    | (refine InvEndN.intro (by assumption) (by assumption) ⟨(_, _), rfl, ?_, ?_⟩ rfl (subC (List.Mem.head _) sub0) (fun p hp => List.Mem.tail _ hp)
       · exact vals_stepW (by assumption) (by assumption) (by assumption) (by assumption) (by assumption)
       · intro z hz1
         (try dsimp only)
         simp only [hz1, if_false])
    | (refine InvEndN.intro (by assumption) (by assumption) ⟨_, _, _, _, rfl, ?_, ?_, ?_, ?_⟩ rfl (subC (by k_mem) (subC (by k_mem) (subC (by k_mem) sub0))) (fun p hp => List.Mem.tail _ (List.Mem.tail _ (List.Mem.tail _ hp)))
       · rw [← vals16]; assumption
       · exact ⟨_, by assumption⟩
       · exact ⟨_, by assumption⟩
       · intro z hz1 hz2
         have hz3 : z ≠ Str.ofString "holders" := by intro e; rw [e] at hz2; revert hz2; decide
         have hz4 : z ≠ Str.ofString "who" := by intro e; rw [e] at hz2; revert hz2; decide
         (try dsimp only)
         simp only [hz1, hz2, hz3, hz4, if_false, Bool.false_eq_true])
    | ((try dsimp only); refine hret _ _ _ (keepG hg' N (by assumption) (by assumption) (subC (by k_mem) (subC (by k_mem) sub0))) ⟨_, _, _, rfl, freshG hg' (by assumption) (List.Mem.head _) (by k_all), News.get (by assumption) (List.Mem.head _), by assumption⟩)
    | fail
  k_with_none
end Mine
end SC134
section SG1
open PySem PySem.W PyProof.Rows PySem.Calls PySem.Spec
namespace Mine
theorem cast_beq (x y : Nat) : ((x : Int) == (y : Int)) = (x == y) := by
  rw [Bool.eq_iff_iff, beq_iff_eq, beq_iff_eq]
  exact Int.ofNat_inj
theorem and_two_pow' (N b : Nat) : N &&& 2 ^ b = (N.testBit b).toNat * 2 ^ b := by
  refine Nat.eq_of_testBit_eq fun j => ?_
  rw [Nat.testBit_and, Nat.testBit_two_pow]
  cases h : N.testBit b with
  | true =>
    rw [Bool.toNat_true, Nat.one_mul, Nat.testBit_two_pow]
    by_cases e : b = j
    · subst e; simp [h]
    · simp [e]
  | false =>
    rw [Bool.toNat_false, Nat.zero_mul, Nat.zero_testBit]
    by_cases e : b = j
    · subst e; simp [h]
    · simp [e]
theorem and_one (N b : Nat) : (N &&& 2 ^ b == 2 ^ b) = N.testBit b := by
  rw [and_two_pow']
  cases N.testBit b with
  | true => simp
  | false =>
    have : 2 ^ b ≠ 0 := Nat.pos_iff_ne_zero.mp (Nat.two_pow_pos b)
    simp; omega
theorem hit_nn (N m : Nat) : (Builtin.bitAnd (N : Int) (m : Int) == (m : Int)) = (N &&& m == m) := by
  rw [and_nn, cast_beq]
theorem and_11_6 (N : Nat) : (N &&& 2112 == 2112) = (N.testBit 11 && N.testBit 6) := by
  rw [show (2112 : Nat) = 2 ^ 11 ||| 2 ^ 6 from by decide, Nat.and_or_distrib_left, and_two_pow', and_two_pow']
  cases N.testBit 11 <;> cases N.testBit 6 <;> decide
theorem and_10_3 (N : Nat) : (N &&& 1032 == 1032) = (N.testBit 10 && N.testBit 3) := by
  rw [show (1032 : Nat) = 2 ^ 10 ||| 2 ^ 3 from by decide, Nat.and_or_distrib_left, and_two_pow', and_two_pow']
  cases N.testBit 10 <;> cases N.testBit 3 <;> decide
theorem and_9_0 (N : Nat) : (N &&& 513 == 513) = (N.testBit 9 && N.testBit 0) := by
  rw [show (513 : Nat) = 2 ^ 9 ||| 2 ^ 0 from by decide, Nat.and_or_distrib_left, and_two_pow', and_two_pow']
  cases N.testBit 9 <;> cases N.testBit 0 <;> decide
theorem hitC_one {N i : Nat} {m : Int} {c : Str} (b : Nat) (hi : i ≠ 0) (hm : m = ((2 ^ b : Nat) : Int)) : hitC N i (m, c) = N.testBit b := by
  unfold hitC
  rw [if_neg hi, hm]
  exact (hit_nn N (2 ^ b)).trans (and_one N b)
theorem hitC_two {N i : Nat} {c : Str} (m : Nat) (hi : i ≠ 0) : hitC N i ((m : Int), c) = (N &&& m == m) := by
  unfold hitC
  rw [if_neg hi]
  exact hit_nn N m
theorem col_single {N i : Nat} {m : Int} {c : Str} (b : Nat) (hi : i ≠ 0) (ht : tabs.getD i [] = [(m, c)]) (hm : m = ((2 ^ b : Nat) : Int)) : colC N i = if N.testBit b then c else Str.ofString "-" := by
  unfold colC
  rw [ht, if_neg hi]
  simp only [List.find?, hitC_one b hi hm]
  cases N.testBit b <;> rfl
theorem col_triple {N i : Nat} {m m1 m2 : Int} {c c1 c2 : Str} (b1 b2 : Nat) (hi : i ≠ 0) (ht : tabs.getD i [] = [(m, c), (m1, c1), (m2, c2)]) (h0 : hitC N i (m, c) = (N.testBit b1 && N.testBit b2)) (hm1 : m1 = ((2 ^ b1 : Nat) : Int)) (hm2 : m2 = ((2 ^ b2 : Nat) : Int)) :
    colC N i = if N.testBit b1 then (if N.testBit b2 then c else c1) else (if N.testBit b2 then c2 else Str.ofString "-") := by
  unfold colC
  rw [ht, if_neg hi]
  simp only [List.find?, h0, hitC_one b1 hi hm1, hitC_one b2 hi hm2]
  cases N.testBit b1 <;> cases N.testBit b2 <;> rfl
noncomputable def occ (g : Str) (c : Str) : Bool := !(Builtin.Str.occurrences g ⟨#[c.cps.getD 0 0]⟩ 0 g.length 1).isEmpty
theorem hitR_occ (N : Nat) (p : Int) (g : Str) : hitR N p g = occ g (colC N p.toNat) := rfl
theorem hits (N : Nat) : hitR N 3 (Str.ofString "sS") = N.testBit 11 ∧ hitR N 6 (Str.ofString "sS") = N.testBit 10 ∧ hitR N 9 (Str.ofString "tT") = N.testBit 9 ∧ hitR N 1 (Str.ofString "r") = N.testBit 8 ∧ hitR N 2 (Str.ofString "w") = N.testBit 7 ∧ hitR N 3 (Str.ofString "xs") = N.testBit 6 ∧
    hitR N 4 (Str.ofString "r") = N.testBit 5 ∧ hitR N 5 (Str.ofString "w") = N.testBit 4 ∧ hitR N 6 (Str.ofString "xs") = N.testBit 3 ∧ hitR N 7 (Str.ofString "r") = N.testBit 2 ∧ hitR N 8 (Str.ofString "w") = N.testBit 1 ∧ hitR N 9 (Str.ofString "xt") = N.testBit 0 := by
  have c3 := col_triple (N := N) (i := 3) 11 6 (by decide) rfl ((hitC_two 2112 (by decide)).trans (and_11_6 N)) rfl rfl
  have c6 := col_triple (N := N) (i := 6) 10 3 (by decide) rfl ((hitC_two 1032 (by decide)).trans (and_10_3 N)) rfl rfl
  have c9 := col_triple (N := N) (i := 9) 9 0 (by decide) rfl ((hitC_two 513 (by decide)).trans (and_9_0 N)) rfl rfl
  have c1 := col_single (N := N) (i := 1) 8 (by decide) rfl rfl
  have c2 := col_single (N := N) (i := 2) 7 (by decide) rfl rfl
  have c4 := col_single (N := N) (i := 4) 5 (by decide) rfl rfl
  have c5 := col_single (N := N) (i := 5) 4 (by decide) rfl rfl
  have c7 := col_single (N := N) (i := 7) 2 (by decide) rfl rfl
  have c8 := col_single (N := N) (i := 8) 1 (by decide) rfl rfl
  simp only [hitR_occ]
  refine ⟨?_, ?_, ?_, ?_, ?_, ?_, ?_, ?_, ?_, ?_, ?_, ?_⟩
  · show occ _ (colC N 3) = _; rw [c3]; cases N.testBit 11 <;> cases N.testBit 6 <;> decide +kernel
  · show occ _ (colC N 6) = _; rw [c6]; cases N.testBit 10 <;> cases N.testBit 3 <;> decide +kernel
  · show occ _ (colC N 9) = _; rw [c9]; cases N.testBit 9 <;> cases N.testBit 0 <;> decide +kernel
  · show occ _ (colC N 1) = _; rw [c1]; cases N.testBit 8 <;> decide +kernel
  · show occ _ (colC N 2) = _; rw [c2]; cases N.testBit 7 <;> decide +kernel
  · show occ _ (colC N 3) = _; rw [c3]; cases N.testBit 11 <;> cases N.testBit 6 <;> decide +kernel
  · show occ _ (colC N 4) = _; rw [c4]; cases N.testBit 5 <;> decide +kernel
  · show occ _ (colC N 5) = _; rw [c5]; cases N.testBit 4 <;> decide +kernel
  · show occ _ (colC N 6) = _; rw [c6]; cases N.testBit 10 <;> cases N.testBit 3 <;> decide +kernel
  · show occ _ (colC N 7) = _; rw [c7]; cases N.testBit 2 <;> decide +kernel
  · show occ _ (colC N 8) = _; rw [c8]; cases N.testBit 1 <;> decide +kernel
  · show occ _ (colC N 9) = _; rw [c9]; cases N.testBit 9 <;> cases N.testBit 0 <;> decide +kernel
theorem hold_mask {p : Int} {g : Str} {b : Nat} (h : ∀ N : Nat, hitR N p g = N.testBit b) (n0 n1 n2 n3 : Nat) : holdUp n0 n1 n2 n3 p g 4 = ((mask (n0.testBit b) (n1.testBit b) (n2.testBit b) (n3.testBit b) : Nat) : Int) := by
  have e : holdUp n0 n1 n2 n3 p g 4 = 0 + (if hitR (n0 : Int) p g = true then 1 else 0) + (if hitR (n1 : Int) p g = true then 2 else 0) + (if hitR (n2 : Int) p g = true then 4 else 0) + (if hitR (n3 : Int) p g = true then 8 else 0) := rfl
  rw [e, h, h, h, h]
  cases n0.testBit b <;> cases n1.testBit b <;> cases n2.testBit b <;> cases n3.testBit b <;> rfl
theorem pay_bits {p : Int} {g : Str} {c : Int} {b : Nat} (h : ∀ N : Nat, hitR N p g = N.testBit b) (n0 n1 n2 n3 who : Nat) : payR n0 n1 n2 n3 who (p, g, c) = c * hF (mask (n0.testBit b) (n1.testBit b) (n2.testBit b) (n3.testBit b)) who := by
  unfold payR
  rw [hold_mask h, and_nn, Int.toNat_natCast]
  rfl
theorem pot_due (n0 n1 n2 n3 who : Nat) : potR n0 n1 n2 n3 12 who = due 1 n0 n1 n2 n3 who := by
  have e : potR n0 n1 n2 n3 12 who = (shownL.map (payR n0 n1 n2 n3 who)).sum := rfl
  rw [e]
  unfold due comb LL4
  simp only [shownL, wts, List.map_cons, List.map_nil, Int.one_mul,
    pay_bits (fun N => (hits N).1), pay_bits (fun N => (hits N).2.1), pay_bits (fun N => (hits N).2.2.1), pay_bits (fun N => (hits N).2.2.2.1), pay_bits (fun N => (hits N).2.2.2.2.1), pay_bits (fun N => (hits N).2.2.2.2.2.1),
    pay_bits (fun N => (hits N).2.2.2.2.2.2.1), pay_bits (fun N => (hits N).2.2.2.2.2.2.2.1), pay_bits (fun N => (hits N).2.2.2.2.2.2.2.2.1), pay_bits (fun N => (hits N).2.2.2.2.2.2.2.2.2.1), pay_bits (fun N => (hits N).2.2.2.2.2.2.2.2.2.2.1), pay_bits (fun N => (hits N).2.2.2.2.2.2.2.2.2.2.2)]
theorem due_mod (f : Int) (n0 n1 n2 n3 who : Nat) : due f (n0 % 4096) (n1 % 4096) (n2 % 4096) (n3 % 4096) who = due f n0 n1 n2 n3 who := by
  have hb : ∀ p ∈ wts, p.2 < 12 := by decide
  have e : LL4 f (n0 % 4096) (n1 % 4096) (n2 % 4096) (n3 % 4096) = LL4 f n0 n1 n2 n3 := by
    unfold LL4
    refine List.map_congr_left fun p hp => ?_
    have hlt := hb p hp
    have t : ∀ n : Nat, (n % 4096).testBit p.2 = n.testBit p.2 := by
      intro n
      rw [show (4096 : Nat) = 2 ^ 12 from by decide, Nat.testBit_mod_two_pow]
      simp [hlt]
    rw [t, t, t, t]
  unfold due
  rw [e]
theorem imode_nn (A : Nat) : Builtin.bitAnd (A : Int) 4095 = ((A % 4096 : Nat) : Int) := by
  rw [show (4095 : Int) = ((4095 : Nat) : Int) from rfl, and_nn, show (4095 : Nat) = 2 ^ 12 - 1 from by decide, Nat.and_two_pow_sub_one_eq_mod]
theorem fac_add6 (d : Int) : fac ((d + 6).fmod 12) = fac d := by
  unfold fac
  rw [Int.fmod_eq_emod_of_nonneg _ (by decide), Int.fmod_eq_emod_of_nonneg _ (by decide), Int.fmod_eq_emod_of_nonneg _ (by decide)]
  have : (d + 6) % 12 % 3 = d % 3 := by omega
  rw [this]
end Mine
end SG1
section SL1
open PySem PySem.W PyProof.Rows PySem.Calls PySem.Spec
namespace Mine
theorem pure_mono {prog : Program} {w : World} {mean : ExcName → Option Value} {mg mb : Str → Option Value} {f : Addr} {vs : List Value} {nw : List (Addr × Obj)} {Post Post' : Heap → Heap → Value → Prop}
    (C : PureC prog w mean mg mb f vs nw Post) (h : ∀ g h' v, Post g h' v → Post' g h' v) : PureC prog w mean mg mb f vs nw Post' := by
  unfold PureC at C ⊢
  intro dp un gd cn cs a ccd cl outer A₀ base h₀ L m s Q E B F X N T hk hd hu hret
  exact C dp un gd cn cs a ccd cl outer A₀ base h₀ L m s Q E B F X N T hk hd hu fun v h' tk' kp p => hret v h' tk' kp (h _ _ _ p)
theorem off_c (prog : Program) (w : World) (mean : ExcName → Option Value) (mg mb : Str → Option Value) (r d : Int) (x : Str) (tk : Tok) (h : ClockOf r d x) : PureC prog w mean mg mb 44 [.str x tk] [] (fun _ _ v => ∃ t, v = .int (fac d * FR r) t) := by
  rcases h with ⟨rfl, hz⟩ | ⟨sg, hr, mn, hr0, mn0, H, W, rfl, h1, h2, h3, h4, h5, h6, h7, h8, h9, h10, h11⟩
  · refine pure_mono (zone_c prog w mean mg mb x tk hz) ?_
    rintro g h' v ⟨t, rfl⟩
    have e : FR 0 = 0 := by decide
    exact ⟨t, by rw [e, Int.mul_zero]⟩
  · refine pure_mono (offset_c prog w mean mg mb sg hr mn hr0 mn0 tk H W h1 h2 h3 h4 h5 h6 h7 h8 h9 h10) ?_
    rintro g h' v ⟨t, rfl⟩
    exact ⟨t, by rw [h11, fac_val]⟩
section
variable {prog : Program} {w : World} {mean : ExcName → Option Value} {mg mb : Str → Option Value} {dp un : Nat} {gd : Option (List Code)} {cn : Str} {cs : Scope} {a : Addr} {ccd : Value} {cl : List (Str × Addr)} {outer : List Env} {A₀ : Around} {base h₀ : Heap} {L : Addr} {m : Str → Option Value} {s : Shared} {Q E : Value → Shared → Prop} {news : List (Addr × Obj)}
theorem pure_use {f : Addr} {vs : List Value} {nw : List (Addr × Obj)} {Post : Heap → Heap → Value → Prop} (C : PureC prog w mean mg mb f vs nw Post)
    (B : Below A₀ base outer h₀) (F : Fr h₀ L s.heap m) (X : (hd.heap_39 w.params).In h₀) (N : News h₀ L s.heap news) (T : Top hd.view_39 LL mean mg mb h₀) (hk : cs.kind = .function) (hd : dp < 500) (hu : un < 200) (hsub : ∀ p ∈ nw, p ∈ news)
    (k : ∀ v h' tk', Fr h₀ L h' m → News h₀ L h' news → Post s.heap h' v → Q v { s with heap := h', toks := tk' }) :
    wpAny (model prog w) (ktrTop dp un gd cn cs L a ccd cl outer) (call (.ref f) vs) Q E s :=
  C dp un gd cn cs a ccd cl outer A₀ base h₀ L m s Q E B F X (fun p hp => N p (hsub p hp)) T hk hd hu fun v h' tk' kp p => k v h' tk' (fr_of_keep F kp) (news_of_keep N kp) p
theorem new_lt {h : Heap} {r : Addr} {nn : List (Addr × Obj)} (N : News h₀ L h nn) (hr : h.get? r = none) : ∀ p ∈ nn, p.1 ≠ r := fun p hp e => by
  have := (N p hp).1
  rw [e, hr] at this
  cases this
theorem clock_use {r d q : Int} {tr td tq : Tok} (B : Below A₀ base outer h₀) (F : Fr h₀ L s.heap m) (X : (hd.heap_39 w.params).In h₀) (N : News h₀ L s.heap news) (T : Top hd.view_39 LL mean mg mb h₀) (hk : cs.kind = .function) (hd : dp < 500) (hu : un < 200)
    (h1 : 0 ≤ r ∧ r < 4096) (h3 : 0 ≤ d ∧ d < 12) (h5 : 0 ≤ q)
    (k : ∀ x t h' tk', Fr h₀ L h' m → News h₀ L h' news → ClockOf r d x → Q (.str x t) { s with heap := h', toks := tk' }) :
    wpAny (model prog w) (ktrTop dp un gd cn cs L a ccd cl outer) (call (.ref 110) [.int r tr, .int d td, .int q tq]) Q E s :=
  pure_use (clock_c prog w mean mg mb r d q tr td tq h1.1 h1.2 h3.1 h3.2 h5) B F X N T hk hd hu (fun _ h => nomatch h) fun v h' tk' F' N' ⟨x, t, e, hc⟩ => e ▸ k x t h' tk' F' N' hc
theorem off_use {r d : Int} {x : Str} {tk : Tok} (B : Below A₀ base outer h₀) (F : Fr h₀ L s.heap m) (X : (hd.heap_39 w.params).In h₀) (N : News h₀ L s.heap news) (T : Top hd.view_39 LL mean mg mb h₀) (hk : cs.kind = .function) (hd : dp < 500) (hu : un < 200)
    (h1 : ClockOf r d x)
    (k : ∀ t h' tk', Fr h₀ L h' m → News h₀ L h' news → Q (.int (fac d * FR r) t) { s with heap := h', toks := tk' }) :
    wpAny (model prog w) (ktrTop dp un gd cn cs L a ccd cl outer) (call (.ref 44) [.str x tk]) Q E s :=
  pure_use (off_c prog w mean mg mb r d x tk h1) B F X N T hk hd hu (fun _ h => nomatch h) fun v h' tk' F' N' ⟨t, e⟩ => e ▸ k t h' tk' F' N'
theorem imode_use {r : Int} {tr : Tok} (B : Below A₀ base outer h₀) (F : Fr h₀ L s.heap m) (X : (hd.heap_39 w.params).In h₀) (N : News h₀ L s.heap news) (T : Top hd.view_39 LL mean mg mb h₀) (hk : cs.kind = .function) (hd : dp < 500) (hu : un < 200)
    (k : ∀ t h' tk', Fr h₀ L h' m → News h₀ L h' news → Q (.int (Builtin.bitAnd r 4095) t) { s with heap := h', toks := tk' }) :
    wpAny (model prog w) (ktrTop dp un gd cn cs L a ccd cl outer) (call (.ref 51) [.int r tr]) Q E s :=
  pure_use (imode_c prog w mean mg mb r tr) B F X N T hk hd hu (fun _ h => nomatch h) fun v h' tk' F' N' ⟨t, e⟩ => e ▸ k t h' tk' F' N'
theorem mode_use {r : Int} {tr : Tok} (B : Below A₀ base outer h₀) (F : Fr h₀ L s.heap m) (X : (hd.heap_39 w.params).In h₀) (N : News h₀ L s.heap news) (T : Top hd.view_39 LL mean mg mb h₀) (hk : cs.kind = .function) (hd : dp < 500) (hu : un < 200)
    (h1 : 0 ≤ r ∧ r < 65536)
    (k : ∀ t h' tk', Fr h₀ L h' m → News h₀ L h' news → Q (.str (rowStr r) t) { s with heap := h', toks := tk' }) :
    wpAny (model prog w) (ktrTop dp un gd cn cs L a ccd cl outer) (call (.ref 98) [.int r tr]) Q E s :=
  pure_use (filemode_c prog w mean mg mb r tr h1.1 h1.2 rfl) B F X N T hk hd hu (fun _ h => nomatch h) fun v h' tk' F' N' ⟨t, e⟩ => e ▸ k t h' tk' F' N'
theorem modes_use {l : Addr} {vs : List Value} {ns : List Int} (B : Below A₀ base outer h₀) (F : Fr h₀ L s.heap m) (X : (hd.heap_39 w.params).In h₀) (N : News h₀ L s.heap news) (T : Top hd.view_39 LL mean mg mb h₀) (hk : cs.kind = .function) (hd : dp < 500) (hu : un < 200)
    (hl : base.IsList l vs.toArray) (hi : IntsAre vs ns) (hlen : ns.length ≤ 63)
    (k : ∀ (r : Addr) (kk : Nat) (x0 x1 x2 x3 : Nat) (t1 t2 t3 t4 : Tok) h' tk', x0 < 65536 → x1 < 65536 → x2 < 65536 → x3 < 65536 → (∀ p ∈ news, p.1 ≠ r) → Fr h₀ L h' m → News h₀ L h' ((r, W.listOf #[.int x0 t1, .int x1 t2, .int x2 t3, .int x3 t4] kk) :: news) → Q (.ref r) { s with heap := h', toks := tk' }) :
    wpAny (model prog w) (ktrTop dp un gd cn cs L a ccd cl outer) (call (.ref 105) [.ref l]) Q E s := by
  refine (modes_c prog w mean mg mb l vs ns hi hlen) dp un gd cn cs a ccd cl outer A₀ base h₀ L m s Q E B F X (fun _ h => nomatch h) T hk hd hu hl fun v h' tk' kp p => ?_
  obtain ⟨r, kk, x0, x1, x2, x3, t1, t2, t3, t4, rfl, hr, ho, b0, b1, b2, b3⟩ := p
  obtain ⟨y0, rfl⟩ := Int.eq_ofNat_of_zero_le b0.1
  obtain ⟨y1, rfl⟩ := Int.eq_ofNat_of_zero_le b1.1
  obtain ⟨y2, rfl⟩ := Int.eq_ofNat_of_zero_le b2.1
  obtain ⟨y3, rfl⟩ := Int.eq_ofNat_of_zero_le b3.1
  exact k r kk y0 y1 y2 y3 t1 t2 t3 t4 h' tk' (by omega) (by omega) (by omega) (by omega) (new_lt N hr) (fr_of_keep F kp) (news_new' F (news_of_keep N kp) hr ho)
theorem rows_use {rl sl : Addr} {n0 n1 n2 n3 : Nat} {t1 t2 t3 t4 : Tok} {sv : List Value} {k1 k2 : Nat} (B : Below A₀ base outer h₀) (F : Fr h₀ L s.heap m) (X : (hd.heap_39 w.params).In h₀) (N : News h₀ L s.heap news) (T : Top hd.view_39 LL mean mg mb h₀) (hk : cs.kind = .function) (hd : dp < 500) (hu : un < 200)
    (hm1 : (rl, W.listOf #[.str (rowStr n0) t1, .str (rowStr n1) t2, .str (rowStr n2) t3, .str (rowStr n3) t4] k1) ∈ news) (hm2 : (sl, W.listOf sv.toArray k2) ∈ news) (h3 : IntsAre sv sizesL)
    (k : ∀ (r : Addr) (kk : Nat) (pv : List Value) h' tk', IntsAre pv (potL (due 1 n0 n1 n2 n3) 16) → (∀ p ∈ news, p.1 ≠ r) → Fr h₀ L h' m → News h₀ L h' ((r, W.listOf pv.toArray kk) :: news) → Q (.ref r) { s with heap := h', toks := tk' }) :
    wpAny (model prog w) (ktrTop dp un gd cn cs L a ccd cl outer) (call (.ref 134) [.ref rl, .ref sl]) Q E s := by
  refine (rows_c prog w mean mg mb rl sl n0 n1 n2 n3 t1 t2 t3 t4 sv k1 k2 ⟨rfl, rfl, rfl, rfl⟩ h3) dp un gd cn cs a ccd cl outer A₀ base h₀ L m s Q E B F X (fun p hp => N p (subC hm1 (subC hm2 sub0) p hp)) T hk hd hu fun v h' tk' kp p => ?_
  obtain ⟨r, kk, pv, rfl, hr, ho, hi⟩ := p
  refine k r kk pv h' tk' ?_ (new_lt N hr) (fr_of_keep F kp) (news_new' F (news_of_keep N kp) hr ho)
  have e : potOf (n0 := n0) (n1 := n1) (n2 := n2) (n3 := n3) ⟨rfl, rfl, rfl, rfl⟩ 12 = potL (due 1 n0 n1 n2 n3) 16 := List.map_congr_left fun who _ => pot_due n0 n1 n2 n3 who
  rw [← e]; exact hi
noncomputable def jL (n0 n1 n2 n3 : Nat) : List Int := (joinN n0 n1 n2 n3).map fun x : Nat => (x : Int)
noncomputable def mL (n0 n1 n2 n3 : Nat) : List Int := (meetN n0 n1 n2 n3).map fun x : Nat => (x : Int)
theorem grow_or (a : Nat) (l : List Nat) : grow (fun k' => Builtin.bitOr k' (a : Int)) (l.map fun x : Nat => (x : Int)) = (growN (· ||| a) l).map fun x : Nat => (x : Int) := by
  unfold grow growN
  rw [List.map_append, List.map_map, List.map_map]
  exact congrArg (_ ++ ·) (List.map_congr_left fun x _ => or_nn x a)
theorem grow_and (a : Nat) (l : List Nat) : grow (fun k' => Builtin.bitAnd k' (a : Int)) (l.map fun x : Nat => (x : Int)) = (growN (· &&& a) l).map fun x : Nat => (x : Int) := by
  unfold grow growN
  rw [List.map_append, List.map_map, List.map_map]
  exact congrArg (_ ++ ·) (List.map_congr_left fun x _ => and_nn x a)
theorem joinL_nat (a b c d : Nat) : joinL a b c d = jL a b c d := by
  unfold joinL jL joinN
  rw [← grow_or, ← grow_or, ← grow_or, ← grow_or]; rfl
theorem meetL_nat (a b c d : Nat) : meetL a b c d = mL a b c d := by
  unfold meetL mL meetN
  rw [← grow_and, ← grow_and, ← grow_and, ← grow_and]; rfl
theorem sets_use {rl : Addr} {x0 x1 x2 x3 : Nat} {t1 t2 t3 t4 : Tok} {k1 : Nat} (B : Below A₀ base outer h₀) (F : Fr h₀ L s.heap m) (X : (hd.heap_39 w.params).In h₀) (N : News h₀ L s.heap news) (T : Top hd.view_39 LL mean mg mb h₀) (hk : cs.kind = .function) (hd : dp < 500) (hu : un < 200)
    (hm1 : (rl, W.listOf #[.int (Builtin.bitAnd (x0 : Int) 4095) t1, .int (Builtin.bitAnd (x1 : Int) 4095) t2, .int (Builtin.bitAnd (x2 : Int) 4095) t3, .int (Builtin.bitAnd (x3 : Int) 4095) t4] k1) ∈ news)
    (k : ∀ (r j sh z : Addr) (jv sv zv : List Value) h' tk', IntsAre jv (jL (x0 % 4096) (x1 % 4096) (x2 % 4096) (x3 % 4096)) → IntsAre sv (mL (x0 % 4096) (x1 % 4096) (x2 % 4096) (x3 % 4096)) → IntsAre zv sizesL →
      (@Ne Nat j sh ∧ @Ne Nat j z ∧ @Ne Nat sh z ∧ @Ne Nat j r ∧ @Ne Nat sh r ∧ @Ne Nat z r) → (∀ p ∈ news, p.1 ≠ r) → (∀ p ∈ news, p.1 ≠ j) → (∀ p ∈ news, p.1 ≠ sh) → (∀ p ∈ news, p.1 ≠ z) →
      Fr h₀ L h' m → News h₀ L h' ((r, { cls := .type "tuple", data := .seq #[.ref j, .ref sh, .ref z] }) :: (j, W.listOf jv.toArray 0) :: (sh, W.listOf sv.toArray 0) :: (z, W.listOf zv.toArray 0) :: news) → Q (.ref r) { s with heap := h', toks := tk' }) :
    wpAny (model prog w) (ktrTop dp un gd cn cs L a ccd cl outer) (call (.ref 115) [.ref rl]) Q E s := by
  refine (sets_c prog w mean mg mb rl _ _ _ _ t1 t2 t3 t4 k1) dp un gd cn cs a ccd cl outer A₀ base h₀ L m s Q E B F X (fun p hp => N p (subC hm1 sub0 p hp)) T hk hd hu fun v h' tk' kp p => ?_
  obtain ⟨r, j, sh, z, jv, sv, zv, rfl, hor, hoj, hosh, hoz, ij, ish, iz, hr, hj, hsh, hz, ne⟩ := p
  have F' := fr_of_keep F kp
  have N' := news_new' F (news_new' F (news_new' F (news_new' F (news_of_keep N kp) hz hoz) hsh hosh) hj hoj) hr hor
  rw [imode_nn, imode_nn, imode_nn, imode_nn] at ij ish
  rw [joinL_nat] at ij
  rw [meetL_nat] at ish
  exact k r j sh z jv sv zv h' tk' ij ish iz ne (new_lt N hr) (new_lt N hj) (new_lt N hsh) (new_lt N hz) F' N'
noncomputable def clockJ (f : Int) (n0 n1 n2 n3 : Nat) : List Int := potL (fun g => f * FR ((jL n0 n1 n2 n3).getD g 0)) 16
noncomputable def clockM (f : Int) (n0 n1 n2 n3 : Nat) : List Int := 0 :: potL (fun g => f * FR ((mL n0 n1 n2 n3).getD (g + 1) 0)) 15
theorem map_getD (l : List Nat) (g : Nat) : (l.map fun x : Nat => (x : Int)).getD g 0 = ((l.getD g 0 : Nat) : Int) := by
  rw [List.getD_eq_getElem?_getD, List.getD_eq_getElem?_getD, List.getElem?_map]
  cases l[g]? <;> rfl
theorem clockJ_at {f : Int} {n0 n1 n2 n3 : Nat} : ∀ g, g < 16 → (clockJ f n0 n1 n2 n3).getD g 0 = f * FR (((joinN n0 n1 n2 n3).getD g 0 : Nat) : Int) := fun g hg => by
  unfold clockJ
  rw [potL_get _ hg]
  unfold jL
  rw [map_getD]
theorem clockM_at {f : Int} {n0 n1 n2 n3 : Nat} : ∀ g, 1 ≤ g → g < 16 → (clockM f n0 n1 n2 n3).getD g 0 = f * FR (((meetN n0 n1 n2 n3).getD g 0 : Nat) : Int) := fun g h1 hg => by
  obtain ⟨q, rfl⟩ : ∃ q, g = q + 1 := ⟨g - 1, by omega⟩
  unfold clockM
  rw [List.getD_cons_succ, potL_get _ (by omega)]
  unfold mL
  rw [map_getD]
theorem joined_use {wl sl : Addr} {f : Int} {n0 n1 n2 n3 : Nat} {wv sv : List Value} {k1 k2 : Nat} (B : Below A₀ base outer h₀) (F : Fr h₀ L s.heap m) (X : (hd.heap_39 w.params).In h₀) (N : News h₀ L s.heap news) (T : Top hd.view_39 LL mean mg mb h₀) (hk : cs.kind = .function) (hd : dp < 500) (hu : un < 200)
    (hm1 : (wl, W.listOf wv.toArray k1) ∈ news) (hm2 : (sl, W.listOf sv.toArray k2) ∈ news) (h1 : IntsAre wv (clockJ f n0 n1 n2 n3)) (h3 : IntsAre sv sizesL)
    (k : ∀ (r : Addr) (kk : Nat) (pv : List Value) h' tk', IntsAre pv (potL (due f n0 n1 n2 n3) 16) → (∀ p ∈ news, p.1 ≠ r) → Fr h₀ L h' m → News h₀ L h' ((r, W.listOf pv.toArray kk) :: news) → Q (.ref r) { s with heap := h', toks := tk' }) :
    wpAny (model prog w) (ktrTop dp un gd cn cs L a ccd cl outer) (call (.ref 122) [.ref wl, .ref sl]) Q E s := by
  have hl := law_joined (f := f) (n0 := n0) (n1 := n1) (n2 := n2) (n3 := n3) clockJ_at
  refine (joined_c prog w mean mg mb wl sl wv sv _ _ k1 k2 (due f n0 n1 n2 n3) h1 (potL_len _ _) h3 rfl hl.1 hl.2) dp un gd cn cs a ccd cl outer A₀ base h₀ L m s Q E B F X (fun p hp => N p (subC hm1 (subC hm2 sub0) p hp)) T hk hd hu fun v h' tk' kp p => ?_
  obtain ⟨r, pv, kk, rfl, hr, ho, hi⟩ := p
  exact k r kk pv h' tk' hi (new_lt N hr) (fr_of_keep F kp) (news_new' F (news_of_keep N kp) hr ho)
theorem shared_use {wl sl : Addr} {f : Int} {n0 n1 n2 n3 : Nat} {wv sv : List Value} {k1 k2 : Nat} (B : Below A₀ base outer h₀) (F : Fr h₀ L s.heap m) (X : (hd.heap_39 w.params).In h₀) (N : News h₀ L s.heap news) (T : Top hd.view_39 LL mean mg mb h₀) (hk : cs.kind = .function) (hd : dp < 500) (hu : un < 200)
    (hm1 : (wl, W.listOf wv.toArray k1) ∈ news) (hm2 : (sl, W.listOf sv.toArray k2) ∈ news) (h1 : IntsAre wv (clockM f n0 n1 n2 n3)) (h3 : IntsAre sv sizesL)
    (k : ∀ (r : Addr) (kk : Nat) (pv : List Value) h' tk', IntsAre pv (potL (due f n0 n1 n2 n3) 16) → (∀ p ∈ news, p.1 ≠ r) → Fr h₀ L h' m → News h₀ L h' ((r, W.listOf pv.toArray kk) :: news) → Q (.ref r) { s with heap := h', toks := tk' }) :
    wpAny (model prog w) (ktrTop dp un gd cn cs L a ccd cl outer) (call (.ref 129) [.ref wl, .ref sl]) Q E s := by
  refine (shared_c prog w mean mg mb wl sl wv sv _ _ k1 k2 h1 (by unfold clockM; rw [List.length_cons, potL_len]) h3 rfl) dp un gd cn cs a ccd cl outer A₀ base h₀ L m s Q E B F X (fun p hp => N p (subC hm1 (subC hm2 sub0) p hp)) T hk hd hu fun v h' tk' kp p => ?_
  obtain ⟨r, pv, kk, rfl, hr, ho, hi⟩ := p
  refine k r kk pv h' tk' ?_ (new_lt N hr) (fr_of_keep F kp) (news_new' F (news_of_keep N kp) hr ho)
  have e : potL (fun n => sumS (clockM f n0 n1 n2 n3) sizesL n n) 16 = potL (due f n0 n1 n2 n3) 16 := potL_congr fun g hg => law_shared clockM_at g hg
  rw [← e]; exact hi
theorem orders_use {wl sl : Addr} {f : Int} {n0 n1 n2 n3 : Nat} {wv sv : List Value} {k1 k2 : Nat} (B : Below A₀ base outer h₀) (F : Fr h₀ L s.heap m) (X : (hd.heap_39 w.params).In h₀) (N : News h₀ L s.heap news) (T : Top hd.view_39 LL mean mg mb h₀) (hk : cs.kind = .function) (hd : dp < 500) (hu : un < 200)
    (hm1 : (wl, W.listOf wv.toArray k1) ∈ news) (hm2 : (sl, W.listOf sv.toArray k2) ∈ news) (h1 : IntsAre wv (clockJ f n0 n1 n2 n3)) (h3 : IntsAre sv sizesL)
    (k : ∀ (r : Addr) (kk : Nat) (pv : List Value) h' tk', IntsAre pv (potL (fun k => 2 * (due f n0 n1 n2 n3 15 - due f n0 n1 n2 n3 (15 - 2 ^ k))) 4) → (∀ p ∈ news, p.1 ≠ r) → Fr h₀ L h' m → News h₀ L h' ((r, W.listOf pv.toArray kk) :: news) → Q (.ref r) { s with heap := h', toks := tk' }) :
    wpAny (model prog w) (ktrTop dp un gd cn cs L a ccd cl outer) (call (.ref 141) [.ref wl, .ref sl]) Q E s := by
  refine (orders_c prog w mean mg mb wl sl wv sv _ _ k1 k2 h1 (potL_len _ _) h3 rfl) dp un gd cn cs a ccd cl outer A₀ base h₀ L m s Q E B F X (fun p hp => N p (subC hm1 (subC hm2 sub0) p hp)) T hk hd hu fun v h' tk' kp p => ?_
  obtain ⟨r, pv, kk, rfl, hr, ho, hi⟩ := p
  refine k r kk pv h' tk' ?_ (new_lt N hr) (fr_of_keep F kp) (news_new' F (news_of_keep N kp) hr ho)
  have e : potL (fun k => ordS (clockJ f n0 n1 n2 n3) sizesL k 16) 4 = potL (fun k => 2 * (due f n0 n1 n2 n3 15 - due f n0 n1 n2 n3 (15 - 2 ^ k))) 4 := potL_congr fun q hq => law_orders clockJ_at hq
  rw [← e]; exact hi
end
end Mine
end SL1
section SL2
open PySem PySem.W PyProof.Rows PySem.Calls PySem.Spec
namespace Mine
section
variable {prog : Program} {w : World} {A : Around} {s : Shared} {h₀ : Heap} {L : Addr} {m : Str → Option Value} {env : Env}
theorem comp_from {elt : PySem.Expr} {x : Str} {scope : Scope} {cl : List (Str × Addr)} {S : List (Addr × Obj) → Prop} {Fin : List Value → List (Addr × Obj) → Prop} {a : Int} {n : Nat} {news : List (Addr × Obj)} (f : Nat → Int)
    (turn : ∀ (i : Nat) ys t I oI C oC D m₂ h tk (E' : Value → Shared → Prop), i < n → LCg.NsObj oC m₂ → m₂ x = some (.int (a + (i : Int)) t) → Fr h₀ L h m → News h₀ L h ((I, oI) :: (C, oC) :: (D, LCg.lst ys) :: news) → LCg.Off3 I C D news → ((@Ne Nat I C) ∧ (@Ne Nat I D) ∧ (@Ne Nat C D)) →
      wpAny (model prog w) A (eval elt (compEnvC scope cl C env)) (LCg.CompEnd h₀ L m { s with heap := h, toks := tk } I oI C oC D (LCg.lst ys) S (fun y news' => news' = news ∧ ∃ t, y = .int (f i) t)) E' { s with heap := h, toks := tk })
    (done : ∀ ys, IntsAre ys ((List.range n).map f) → Fin ys news) :
    ∀ (k i : Nat) (ys : List Value), k + i = n → IntsAre ys ((List.range i).map f) → LCg.CompRest prog w A h₀ L m env elt x scope cl s S (fun i v => ∃ t, v = .int (a + (i : Int)) t) Fin k i ys news
  | 0, i, ys, hk, hi => by
    have : i = n := by omega
    subst this
    exact done ys hi
  | k + 1, i, ys, hk, hi => by
    rintro v I oI C oC D m₂ h tk E' ⟨t, rfl⟩ a1 b c d e f'
    refine wpAny_mono (turn i ys t I oI C oC D m₂ h tk E' (by omega) a1 b c d e f') (fun y s' q => ?_) fun _ _ x => x
    refine compEnd_mono q fun nn hn => ?_
    obtain ⟨rfl, u, rfl⟩ := hn
    refine comp_from f turn done k (i + 1) _ (by omega) ?_
    rw [List.range_succ, List.map_append]
    exact ints_append hi
theorem comp_range {elt : PySem.Expr} {x : Str} {scope : Scope} {cl : List (Str × Addr)} {S : List (Addr × Obj) → Prop} {Fin : List Value → List (Addr × Obj) → Prop} {a : Int} {n : Nat} {news : List (Addr × Obj)} (f : Nat → Int)
    (turn : ∀ (i : Nat) ys t I oI C oC D m₂ h tk (E' : Value → Shared → Prop), i < n → LCg.NsObj oC m₂ → m₂ x = some (.int (a + (i : Int)) t) → Fr h₀ L h m → News h₀ L h ((I, oI) :: (C, oC) :: (D, LCg.lst ys) :: news) → LCg.Off3 I C D news → ((@Ne Nat I C) ∧ (@Ne Nat I D) ∧ (@Ne Nat C D)) →
      wpAny (model prog w) A (eval elt (compEnvC scope cl C env)) (LCg.CompEnd h₀ L m { s with heap := h, toks := tk } I oI C oC D (LCg.lst ys) S (fun y news' => news' = news ∧ ∃ t, y = .int (f i) t)) E' { s with heap := h, toks := tk })
    (done : ∀ ys, IntsAre ys ((List.range n).map f) → Fin ys news) :
    LCg.CompRest prog w A h₀ L m env elt x scope cl s S (fun i v => ∃ t, v = .int (a + (i : Int)) t) Fin n 0 [] news :=
  comp_from f turn done n 0 [] rfl .nil
theorem int_cut {e : PySem.Expr} {Q E : Value → Shared → Prop} (x : Int) (h : wpAny (model prog w) A (eval e env) (fun v s' => ∃ t tk, v = .int x t ∧ s' = { s with toks := tk }) E s)
    (k : ∀ t tk, Q (.int x t) { s with toks := tk }) : wpAny (model prog w) A (eval e env) Q E s :=
  wpAny_mono h (fun v s' ⟨t, tk, e1, e2⟩ => by subst e1; subst e2; exact k t tk) fun _ _ x => x
end
end Mine
end SL2
section SL3
open PySem PySem.W PyProof.Rows PySem.Calls PySem.Spec
namespace Mine
theorem off1_of {D : Addr} : ∀ {l : List (Addr × Obj)}, (∀ p ∈ l, p.1 ≠ D) → LCg.Off1 D l
  | [], _ => trivial
  | p :: _, h => ⟨h p (.head _), off1_of fun q hq => h q (.tail _ hq)⟩
theorem jL_len (n0 n1 n2 n3 : Nat) : (jL n0 n1 n2 n3).length = 16 := by unfold jL; rw [List.length_map, joinN_len]
theorem mL_len (n0 n1 n2 n3 : Nat) : (mL n0 n1 n2 n3).length = 16 := by unfold mL; rw [List.length_map, meetN_len]
theorem growN_lt {f : Nat → Nat} {l : List Nat} (hf : ∀ x, x < 4096 → f x < 4096) (hl : ∀ x ∈ l, x < 4096) : ∀ x ∈ growN f l, x < 4096 := by
  intro x hx
  unfold growN at hx
  rcases List.mem_append.mp hx with h | h
  · exact hl x h
  · obtain ⟨y, hy, rfl⟩ := List.mem_map.mp h
    exact hf y (hl y hy)
theorem or_lt4 {a : Nat} (ha : a < 4096) : ∀ x, x < 4096 → x ||| a < 4096 := fun x hx => Nat.or_lt_two_pow (n := 12) hx ha
theorem and_lt4 {a : Nat} : ∀ x, x < 4096 → x &&& a < 4096 := fun x hx => Nat.lt_of_le_of_lt Nat.and_le_left hx
theorem m4 (x : Nat) : x % 4096 < 4096 := Nat.mod_lt _ (by decide)
theorem getD_lt {l : List Nat} (h : ∀ x ∈ l, x < 4096) (k : Nat) : 0 ≤ (l.map fun x : Nat => (x : Int)).getD k 0 ∧ (l.map fun x : Nat => (x : Int)).getD k 0 < 4096 := by
  rw [map_getD]
  by_cases hk : k < l.length
  · have := h (l.getD k 0) (by rw [List.getD_eq_getElem?_getD, List.getElem?_eq_getElem hk]; exact List.getElem_mem hk)
    omega
  · have : l.getD k 0 = 0 := by rw [List.getD_eq_getElem?_getD, List.getElem?_eq_none (by omega)]; rfl
    omega
theorem jL_bd {x0 x1 x2 x3 : Nat} {k : Nat} : 0 ≤ (jL (x0 % 4096) (x1 % 4096) (x2 % 4096) (x3 % 4096)).getD k 0 ∧ (jL (x0 % 4096) (x1 % 4096) (x2 % 4096) (x3 % 4096)).getD k 0 < 4096 :=
  getD_lt (growN_lt (or_lt4 (m4 _)) (growN_lt (or_lt4 (m4 _)) (growN_lt (or_lt4 (m4 _)) (growN_lt (or_lt4 (m4 _)) (by intro x hx; rw [List.mem_singleton.mp hx]; decide))))) k
theorem mL_bd {x0 x1 x2 x3 : Nat} {k : Nat} : 0 ≤ (mL (x0 % 4096) (x1 % 4096) (x2 % 4096) (x3 % 4096)).getD k 0 ∧ (mL (x0 % 4096) (x1 % 4096) (x2 % 4096) (x3 % 4096)).getD k 0 < 4096 :=
  getD_lt (growN_lt and_lt4 (growN_lt and_lt4 (growN_lt and_lt4 (growN_lt and_lt4 (by intro x hx; rw [List.mem_singleton.mp hx]; decide))))) k
theorem md12 {x : Int} : 0 ≤ x.fmod 12 ∧ x.fmod 12 < 12 := ⟨Int.fmod_nonneg_of_pos _ (by decide), Int.fmod_lt_of_pos _ (by decide)⟩
section
variable {prog : Program} {w : World} {A : Around} {s : Shared} {h₀ : Heap} {L : Addr} {m : Str → Option Value} {env : Env}
theorem comp_clockJ {elt : PySem.Expr} {x : Str} {scope : Scope} {cl : List (Str × Addr)} {S : List (Addr × Obj) → Prop} {Fin : List Value → List (Addr × Obj) → Prop} {news : List (Addr × Obj)} {d : Int} {n0 n1 n2 n3 : Nat} {jv : List Value} {o : Obj} {td : Tok}
    (hj7 : IntsAre jv (jL n0 n1 n2 n3)) (hd7 : o.data = .cell (some (.int d td)))
    (turn : ∀ (i : Nat) ys t I oI C oC D m₂ h tk (E' : Value → Shared → Prop), i < 16 → LCg.NsObj oC m₂ → m₂ x = some (.int (0 + (i : Int)) t) → Fr h₀ L h m → News h₀ L h ((I, oI) :: (C, oC) :: (D, LCg.lst ys) :: news) → LCg.Off3 I C D news → ((@Ne Nat I C) ∧ (@Ne Nat I D) ∧ (@Ne Nat C D)) →
      wpAny (model prog w) A (eval elt (compEnvC scope cl C env)) (LCg.CompEnd h₀ L m { s with heap := h, toks := tk } I oI C oC D (LCg.lst ys) S (fun y news' => news' = news ∧ ∃ t, y = .int (fac d * FR ((jL n0 n1 n2 n3).getD (0 + (i : Int)).toNat 0)) t)) E' { s with heap := h, toks := tk })
    (done : ∀ ys, IntsAre ys (clockJ (fac d) n0 n1 n2 n3) → Fin ys news) :
    LCg.CompRest prog w A h₀ L m env elt x scope cl s S (fun i v => ∃ t, v = .int (0 + (i : Int)) t) Fin 16 0 [] news :=
  comp_range _ turn fun ys hi => done ys (by
    have e : (List.range 16).map (fun i : Nat => fac d * FR ((jL n0 n1 n2 n3).getD (0 + (i : Int)).toNat 0)) = clockJ (fac d) n0 n1 n2 n3 := by
      unfold clockJ potL
      refine List.map_congr_left fun i _ => ?_
      rw [Int.zero_add, Int.toNat_natCast]
    rw [← e]; exact hi)
theorem comp_clockM {elt : PySem.Expr} {x : Str} {scope : Scope} {cl : List (Str × Addr)} {S : List (Addr × Obj) → Prop} {Fin : List Value → List (Addr × Obj) → Prop} {news : List (Addr × Obj)} {d : Int} {n0 n1 n2 n3 : Nat} {jv : List Value} {o : Obj} {td : Tok}
    (hj7 : IntsAre jv (mL n0 n1 n2 n3)) (hd7 : o.data = .cell (some (.int d td)))
    (turn : ∀ (i : Nat) ys t I oI C oC D m₂ h tk (E' : Value → Shared → Prop), i < 15 → LCg.NsObj oC m₂ → m₂ x = some (.int (1 + (i : Int)) t) → Fr h₀ L h m → News h₀ L h ((I, oI) :: (C, oC) :: (D, LCg.lst ys) :: news) → LCg.Off3 I C D news → ((@Ne Nat I C) ∧ (@Ne Nat I D) ∧ (@Ne Nat C D)) →
      wpAny (model prog w) A (eval elt (compEnvC scope cl C env)) (LCg.CompEnd h₀ L m { s with heap := h, toks := tk } I oI C oC D (LCg.lst ys) S (fun y news' => news' = news ∧ ∃ t, y = .int (fac d * FR ((mL n0 n1 n2 n3).getD (1 + (i : Int)).toNat 0)) t)) E' { s with heap := h, toks := tk })
    (done : ∀ ys, IntsAre ys (potL (fun g => fac d * FR ((mL n0 n1 n2 n3).getD (g + 1) 0)) 15) → Fin ys news) :
    LCg.CompRest prog w A h₀ L m env elt x scope cl s S (fun i v => ∃ t, v = .int (1 + (i : Int)) t) Fin 15 0 [] news :=
  comp_range _ turn fun ys hi => done ys (by
    have e : (List.range 15).map (fun i : Nat => fac d * FR ((mL n0 n1 n2 n3).getD (1 + (i : Int)).toNat 0)) = potL (fun g => fac d * FR ((mL n0 n1 n2 n3).getD (g + 1) 0)) 15 := by
      unfold potL
      refine List.map_congr_left fun i _ => ?_
      rw [show (1 + (i : Int)).toNat = i + 1 from by omega]
    rw [← e]; exact hi)
noncomputable def FacQ (d : Int) (s₀ : Shared) (v : Value) (s' : Shared) : Prop := ∃ t tk, v = .int (fac d) t ∧ s' = { s₀ with toks := tk }
theorem facQ_mark {M : Model} {A : Around} {t : Sem Value} {d : Int} {s₀ s : Shared} {E : Value → Shared → Prop} (h : wpAny M A t (FacQ d s₀) E s) : wpAny M A t (FacQ d s₀) E s := h
theorem fac_cut {test body orelse : PySem.Expr} {pos : Pos} {Q E : Value → Shared → Prop} {d : Int} {o : Obj} {td : Tok} (hd7 : o.data = .cell (some (.int d td)))
    (h : wpAny (model prog w) A (isTrue test env (eval test env)) (fun c s₂ => if c then wpAny (model prog w) A (eval body env) (FacQ d s) E s₂ else wpAny (model prog w) A (eval orelse env) (FacQ d s) E s₂) E s)
    (k : ∀ t tk, Q (.int (fac d) t) { s with toks := tk }) : wpAny (model prog w) A (eval (.IfExp test body orelse pos) env) Q E s := int_cut (fac d) (IfExp_ h) k
theorem comp_ints_from {elt : PySem.Expr} {x₀ : Str} {scope : Scope} {cl : List (Str × Addr)} {S : List (Addr × Obj) → Prop} {Fin : List Value → List (Addr × Obj) → Prop} {news : List (Addr × Obj)} {vs : List Value} {ns : List Int} (hi : IntsAre vs ns) (f : Int → Int)
    (turn : ∀ ys x t I oI C oC D m₂ h tk (E' : Value → Shared → Prop), LCg.NsObj oC m₂ → m₂ x₀ = some (.int x t) → Fr h₀ L h m → News h₀ L h ((I, oI) :: (C, oC) :: (D, LCg.lst ys) :: news) → LCg.Off3 I C D news → ((@Ne Nat I C) ∧ (@Ne Nat I D) ∧ (@Ne Nat C D)) →
      wpAny (model prog w) A (eval elt (compEnvC scope cl C env)) (LCg.CompEnd h₀ L m { s with heap := h, toks := tk } I oI C oC D (LCg.lst ys) S (fun y news' => news' = news ∧ ∃ t, y = .int (f x) t)) E' { s with heap := h, toks := tk })
    (done : ∀ ys, IntsAre ys (ns.map f) → Fin ys news) :
    ∀ (k i : Nat) (ys : List Value), k + i = ns.length → IntsAre ys ((ns.take i).map f) → LCg.CompRest prog w A h₀ L m env elt x₀ scope cl s S (fun i v => vs.toArray[i]? = some v) Fin k i ys news
  | 0, i, ys, hk, hy => by
    have : i = ns.length := by omega
    subst this
    rw [List.take_length] at hy
    exact done ys hy
  | k + 1, i, ys, hk, hy => by
    intro v I oI C oC D m₂ h tk E' hv a1 b c d e f'
    have hlt : i < ns.length := by omega
    obtain ⟨t, hx⟩ := hi.get i ns[i] (by simp [hlt])
    have hv' : v = .int ns[i] t := by
      have h1 : vs[i]? = some v := by simpa using hv
      rw [hx] at h1; exact (Option.some.inj h1).symm
    subst hv'
    refine wpAny_mono (turn ys ns[i] t I oI C oC D m₂ h tk E' a1 b c d e f') (fun y s' q => ?_) fun _ _ x => x
    refine compEnd_mono q fun nn hn => ?_
    obtain ⟨rfl, u, rfl⟩ := hn
    refine comp_ints_from hi f turn done k (i + 1) _ (by omega) ?_
    rw [List.take_add_one, List.getElem?_eq_getElem hlt, List.map_append]
    exact ints_append hy
theorem rest_at {elt : PySem.Expr} {x : Str} {scope : Scope} {cl : List (Str × Addr)} {S : List (Addr × Obj) → Prop} {Fin : List Value → List (Addr × Obj) → Prop} {k i : Nat} {a : Int} {ys : List Value} {news : List (Addr × Obj)} (kv : Int) (hkv : a + (i : Int) = kv)
    (turn : ∀ t I oI C oC D m₂ h tk (E' : Value → Shared → Prop), LCg.NsObj oC m₂ → m₂ x = some (.int kv t) → Fr h₀ L h m → News h₀ L h ((I, oI) :: (C, oC) :: (D, LCg.lst ys) :: news) → LCg.Off3 I C D news → ((@Ne Nat I C) ∧ (@Ne Nat I D) ∧ (@Ne Nat C D)) →
      wpAny (model prog w) A (eval elt (compEnvC scope cl C env)) (LCg.CompEnd h₀ L m { s with heap := h, toks := tk } I oI C oC D (LCg.lst ys) S (fun y news' => LCg.CompRest prog w A h₀ L m env elt x scope cl s S (fun i v => ∃ t, v = .int (a + (i : Int)) t) Fin k (i + 1) (ys ++ [y]) news')) E' { s with heap := h, toks := tk }) :
    LCg.CompRest prog w A h₀ L m env elt x scope cl s S (fun i v => ∃ t, v = .int (a + (i : Int)) t) Fin (k + 1) i ys news := by
  rintro v I oI C oC D m₂ h tk E' ⟨t, rfl⟩ a1 b c d e f
  rw [hkv] at b
  exact turn t I oI C oC D m₂ h tk E' a1 b c d e f
theorem orders_eq {a b : Addr} {xs ys : List Value} {k1 k2 : Nat} {ms : List Int} {d : Int} {n0 n1 n2 n3 : Nat} {news : List (Addr × Obj)} {Q E : Value → Shared → Prop} (N : News h₀ L s.heap news) (ha : (a, W.listOf xs.toArray k1) ∈ news) (hb : (b, W.listOf ys.toArray k2) ∈ news)
    (hi : IntsAre xs (potL (fun k => 2 * (due (fac ((d + 6).fmod 12)) n0 n1 n2 n3 15 - due (fac ((d + 6).fmod 12)) n0 n1 n2 n3 (15 - 2 ^ k))) 4)) (hj : IntsAre ys ms) (hu : A.units + 64 < cLine)
    (he : potL (fun k => 2 * (due (fac d) n0 n1 n2 n3 15 - due (fac d) n0 n1 n2 n3 (15 - 2 ^ k))) 4 = ms) (h : Q (.bool true) s) :
    wpAny (model prog w) A (compareOp .Eq (.ref a) (.ref b)) Q E s := by
  rw [fac_add6] at hi
  refine ke_eq_ints ⟨_, (N _ ha).1, rfl, _, rfl⟩ ⟨_, (N _ hb).1, rfl, _, rfl⟩ hi hj hu ?_
  rw [he, decide_eq_true rfl]
  exact h
theorem fac_mul {d x : Int} : IntMulOk (fac d) x := by
  unfold fac
  split
  · exact IntMulOk.of_left (by decide)
  · exact IntMulOk.of_left (by decide)
theorem comp_due {elt : PySem.Expr} {x₀ : Str} {scope : Scope} {cl : List (Str × Addr)} {S : List (Addr × Obj) → Prop} {Fin : List Value → List (Addr × Obj) → Prop} {news : List (Addr × Obj)} {vs : List Value} {d : Int} {n0 n1 n2 n3 : Nat} {o : Obj} {td : Tok} (hi : IntsAre vs (potL (due 1 n0 n1 n2 n3) 16)) (hd7 : o.data = .cell (some (.int (fac d) td)))
    (turn : ∀ ys x t I oI C oC D m₂ h tk (E' : Value → Shared → Prop), IntMulOk (fac d) x → LCg.NsObj oC m₂ → m₂ x₀ = some (.int x t) → Fr h₀ L h m → News h₀ L h ((I, oI) :: (C, oC) :: (D, LCg.lst ys) :: news) → LCg.Off3 I C D news → ((@Ne Nat I C) ∧ (@Ne Nat I D) ∧ (@Ne Nat C D)) →
      wpAny (model prog w) A (eval elt (compEnvC scope cl C env)) (LCg.CompEnd h₀ L m { s with heap := h, toks := tk } I oI C oC D (LCg.lst ys) S (fun y news' => news' = news ∧ ∃ t, y = .int (fac d * x) t)) E' { s with heap := h, toks := tk })
    (done : ∀ ys, IntsAre ys (potL (due (fac d) n0 n1 n2 n3) 16) → Fin ys news) :
    LCg.CompRest prog w A h₀ L m env elt x₀ scope cl s S (fun i v => vs.toArray[i]? = some v) Fin vs.toArray.size 0 [] news := by
  have e : vs.toArray.size = (potL (due 1 n0 n1 n2 n3) 16).length := by rw [List.size_toArray]; exact hi.length
  rw [e]
  refine comp_ints_from hi (fun x => fac d * x) (fun ys x t I oI C oC D m₂ h tk E' => turn ys x t I oI C oC D m₂ h tk E' fac_mul) (fun ys hy => done ys ?_) _ 0 [] rfl .nil
  have e2 : (potL (due 1 n0 n1 n2 n3) 16).map (fun x => fac d * x) = potL (due (fac d) n0 n1 n2 n3) 16 := by
    unfold potL
    rw [List.map_map]
    exact List.map_congr_left fun g _ => (due_scale (fac d) n0 n1 n2 n3 g).symm
  rw [← e2]; exact hy
end
theorem pot_size {vs : List Value} {f : Nat → Int} (hi : IntsAre vs (potL f 16)) : vs.toArray.size ≤ sizeLine := by
  rw [List.size_toArray, hi.length, potL_len]; decide
theorem fac_m1 {d : Int} (h : d.fmod 3 = 2) : fac d = -1 := by unfold fac; rw [if_pos h]
theorem fac_p1 {d : Int} (h : d.fmod 3 ≠ 2) : fac d = 1 := by unfold fac; rw [if_neg h]
theorem facQ_m1 {d : Int} {s : Shared} {t : Tok} {tk : Nat} (h : d.fmod 3 = 2) : FacQ d s (.int (-1) t) { s with toks := tk } := ⟨t, tk, by rw [fac_m1 h], rfl⟩
theorem facQ_p1 {d : Int} {s : Shared} {t : Tok} {tk : Nat} (h : d.fmod 3 ≠ 2) : FacQ d s (.int 1 t) { s with toks := tk } := ⟨t, tk, by rw [fac_p1 h], rfl⟩
end Mine
end SL3
section SL4
open PySem PySem.W PyProof.Rows PySem.Calls PySem.Spec
namespace Mine
theorem end_list (d : Int) (n0 n1 n2 n3 : Nat) :
    potL (fun k => 2 * (due (fac ((d + 6).fmod 12)) (n0 % 4096) (n1 % 4096) (n2 % 4096) (n3 % 4096) 15 - due (fac ((d + 6).fmod 12)) (n0 % 4096) (n1 % 4096) (n2 % 4096) (n3 % 4096) (15 - 2 ^ k))) 4 =
      [2 * ((potL (due (fac d) n0 n1 n2 n3) 16).getD (Int.toNat 15) 0 - (potL (due (fac d) n0 n1 n2 n3) 16).getD ((15 : Int) - 2 ^ Int.toNat 0).toNat 0),
       2 * ((potL (due (fac d) n0 n1 n2 n3) 16).getD (Int.toNat 15) 0 - (potL (due (fac d) n0 n1 n2 n3) 16).getD ((15 : Int) - 2 ^ Int.toNat 1).toNat 0),
       2 * ((potL (due (fac d) n0 n1 n2 n3) 16).getD (Int.toNat 15) 0 - (potL (due (fac d) n0 n1 n2 n3) 16).getD ((15 : Int) - 2 ^ Int.toNat 2).toNat 0),
       2 * ((potL (due (fac d) n0 n1 n2 n3) 16).getD (Int.toNat 15) 0 - (potL (due (fac d) n0 n1 n2 n3) 16).getD ((15 : Int) - 2 ^ Int.toNat 3).toNat 0)] := by
  rw [fac_add6]
  simp only [due_mod]
  generalize due (fac d) n0 n1 n2 n3 = f
  have e : ∀ k, k < 16 → (potL f 16).getD k 0 = f k := fun k h => potL_get f h
  rw [show ((15 : Int) - 2 ^ Int.toNat 0).toNat = 14 from by decide, show ((15 : Int) - 2 ^ Int.toNat 1).toNat = 13 from by decide, show ((15 : Int) - 2 ^ Int.toNat 2).toNat = 11 from by decide, show ((15 : Int) - 2 ^ Int.toNat 3).toNat = 7 from by decide, show Int.toNat 15 = 15 from by decide]
  rw [e 15 (by decide), e 14 (by decide), e 13 (by decide), e 11 (by decide), e 7 (by decide)]
  simp only [potL, List.range, List.range.loop, List.map]
theorem law_raises {args : List WData} (cls : ExcName) : PySem.Challenge.rw_tv0023_01.row.claim.raises args cls = false := raisesW_false allW_false_nil cls
theorem law_post {args : List WData} : PySem.Challenge.rw_tv0023_01.row.claim.post args (.bool true) args = true := postW_of (by wrow_shape) (w_eq_bool (w_res rfl) w_lit) rfl
theorem law_end {cl : Str → Option Addr} {mean : ExcName → Option Value} {args : List WData} {s₁ s' : Shared} {L : Addr} {m : Str → Option Value} {b : Bool} (F : Fr s₁.heap L s'.heap m) (hg : s'.gens = #[]) (hb : b = true) (hos : s'.os = s₁.os) :
    GoodW PySem.Challenge.rw_tv0023_01.row.claim cl mean args s₁ (.ok (.ret (.bool b))) s' := by
  subst hb
  exact goodW_bool F hg law_raises law_post hos
theorem due_eq (d : Int) (n0 n1 n2 n3 : Nat) : potL (due (fac d) (n0 % 4096) (n1 % 4096) (n2 % 4096) (n3 % 4096)) 16 = potL (due (fac d) n0 n1 n2 n3) 16 := potL_congr fun k _ => due_mod (fac d) n0 n1 n2 n3 k
section
variable {prog : Program} {w : World} {A : Around} {h₀ : Heap} {L : Addr} {s : Shared}
theorem due_ne {a b : Addr} {xs ys : List Value} {k1 k2 : Nat} {d : Int} {n0 n1 n2 n3 : Nat} {news : List (Addr × Obj)} {Q E : Value → Shared → Prop} (N : News h₀ L s.heap news) (ha : (a, W.listOf xs.toArray k1) ∈ news) (hb : (b, W.listOf ys.toArray k2) ∈ news)
    (hi : IntsAre xs (potL (due (fac d) (n0 % 4096) (n1 % 4096) (n2 % 4096) (n3 % 4096)) 16)) (hj : IntsAre ys (potL (due (fac d) n0 n1 n2 n3) 16)) (hu : A.units + 64 < cLine) (h : Q (.bool false) s) :
    wpAny (model prog w) A (compareOp .NotEq (.ref a) (.ref b)) Q E s := by
  refine ke_ne_ints ⟨_, (N _ ha).1, rfl, _, rfl⟩ ⟨_, (N _ hb).1, rfl, _, rfl⟩ hi hj hu ?_
  rw [due_eq, decide_eq_true rfl]
  exact h
end
end Mine
end SL4
section SC146
open PySem PySem.W PyProof.Rows PySem.Calls PySem.Spec
namespace Mine
theorem top_off_C146 : True := by
  w_top off
  trivial
theorem dropA {h₀ h : Heap} {L : Addr} {a0 a1 a2 a3 a4 a5 a6 a7 : Addr × Obj} (N : News h₀ L h [a0, a1, a2, a3, a4, a5, a6, a7]) : News h₀ L h [a0, a2, a3, a4, a5, a6, a7] := fun _ hp => N _ (List.Sublist.subset (.cons_cons _ (.cons _ (.cons_cons _ (.cons_cons _ (.cons_cons _ (.cons_cons _ (.cons_cons _ (.cons_cons _ .slnil)))))))) hp)
theorem dropB {h₀ h : Heap} {L : Addr} {a0 a1 a2 a3 a4 a5 a6 a7 a8 a9 a10 a11 : Addr × Obj} (N : News h₀ L h [a0, a1, a2, a3, a4, a5, a6, a7, a8, a9, a10, a11]) : News h₀ L h [a1, a2, a3, a5, a6, a7, a8, a9, a10, a11] := fun _ hp => N _ (List.Sublist.subset (.cons _ (.cons_cons _ (.cons_cons _ (.cons_cons _ (.cons _ (.cons_cons _ (.cons_cons _ (.cons_cons _ (.cons_cons _ (.cons_cons _ (.cons_cons _ (.cons_cons _ .slnil)))))))))))) hp)
theorem dropC {h₀ h : Heap} {L : Addr} {a0 a1 a2 a3 a4 a5 a6 a7 a8 a9 a10 a11 a12 a13 : Addr × Obj} (N : News h₀ L h [a0, a1, a2, a3, a4, a5, a6, a7, a8, a9, a10, a11, a12, a13]) : News h₀ L h [a0, a3, a4, a5, a6, a7, a8, a9, a10, a11, a12, a13] := fun _ hp => N _ (List.Sublist.subset (.cons_cons _ (.cons _ (.cons _ (.cons_cons _ (.cons_cons _ (.cons_cons _ (.cons_cons _ (.cons_cons _ (.cons_cons _ (.cons_cons _ (.cons_cons _ (.cons_cons _ (.cons_cons _ (.cons_cons _ .slnil)))))))))))))) hp)
theorem dropD {h₀ h : Heap} {L : Addr} {a0 a1 a2 a3 a4 a5 a6 a7 a8 a9 a10 a11 a12 a13 a14 : Addr × Obj} (N : News h₀ L h [a0, a1, a2, a3, a4, a5, a6, a7, a8, a9, a10, a11, a12, a13, a14]) : News h₀ L h [a0, a3, a4, a5, a6, a7, a9, a10, a11, a12, a13, a14] := fun _ hp => N _ (List.Sublist.subset (.cons_cons _ (.cons _ (.cons _ (.cons_cons _ (.cons_cons _ (.cons_cons _ (.cons_cons _ (.cons_cons _ (.cons _ (.cons_cons _ (.cons_cons _ (.cons_cons _ (.cons_cons _ (.cons_cons _ (.cons_cons _ .slnil))))))))))))))) hp)
theorem dropE {h₀ h : Heap} {L : Addr} {a0 a1 a2 a3 a4 a5 a6 a7 a8 a9 a10 a11 a12 a13 : Addr × Obj} (N : News h₀ L h [a0, a1, a2, a3, a4, a5, a6, a7, a8, a9, a10, a11, a12, a13]) : News h₀ L h [a2, a5, a7, a8, a9, a10, a11, a12, a13] := fun _ hp => N _ (List.Sublist.subset (.cons _ (.cons _ (.cons_cons _ (.cons _ (.cons _ (.cons_cons _ (.cons _ (.cons_cons _ (.cons_cons _ (.cons_cons _ (.cons_cons _ (.cons_cons _ (.cons_cons _ (.cons_cons _ .slnil)))))))))))))) hp)
local macro_rules | `(tactic| kc_close) => `(tactic| (kc_bool; (refine law_end (by with_reducible assumption) (by with_reducible assumption) (decide_eq_true (end_list _ _ _ _ _)) rfl)))
local macro_rules | `(tactic| walk_at $s:str) => `(tactic| k_extra $s)
local macro_rules | `(tactic| k_ne) => `(tactic| k_extra "my ne")
set_option maxHeartbeats 16000000 in
theorem law_holds : PySem.Challenge.rw_tv0023_01.Holds := hd (by
  k_go0
  all_goals (try k_fold)
  (k_with "storeName" => ((rename News _ _ _ [(_, W.listOf _ _), (_, W.listOf _ 0), _, _, _, _, _, _] => N9); (replace N9 := dropA N9); walk_at "storeName"))
  (k_with "storeName" => ((rename News _ _ _ [(_, { cls := Value.type "tuple", data := _ }), _, _, _, _, _, _, _, _, _, _, _] => N9); (replace N9 := dropB N9); walk_at "storeName"))
  (k_with "storeName" => ((rename News _ _ _ [_, (_, LCg.lst _), (_, W.listOf _ _), _, _, _, _, _, _, _, _, _, _, _] => N9); (replace N9 := dropC N9); walk_at "storeName"))
  (k_with "storeName" => ((rename News _ _ _ [(_, LCg.lst _), (_, W.listOf _ _), _, _, _, _, _, _, _, _, _, _, _, _, _] => N9); (replace N9 := dropD N9); walk_at "storeName"))
  (k_with "storeName" => ((rename News _ _ _ [(_, W.listOf _ _), (_, W.listOf _ _), (_, LCg.lst _), _, _, _, _, _, _, _, _, _, _, _] => N9); (replace N9 := dropE N9); walk_at "storeName"))
  (k_with "my ne" => (refine neN ?_; (try dsimp only); first
      | with_reducible assumption
      | (with_reducible exact Ne.symm (by assumption))
      | (with_reducible exact Nat.ne_of_lt (Nat.lt_add_one_of_lt (by assumption)))
      | (with_reducible ((refine ne_gtl (by assumption) ?_); intro h9; repeat (first | exact h9 | exact And.left h9 | replace h9 := And.right h9)); done)
      | (with_reducible ((refine ne_ltl (by assumption) ?_); intro h9; repeat (first | exact h9 | exact And.left h9 | replace h9 := And.right h9)); done)
      | (with_reducible exact Nat.ne_of_gt (by assumption))
      | (with_reducible exact Nat.ne_of_lt (by assumption))
      | (with_reducible ((refine Nat.ne_of_gt ?_); repeat (first | exact Nat.lt_add_one _ | refine Nat.lt_add_one_of_lt ?_)); done)
      | (with_reducible ((refine Nat.ne_of_lt ?_); repeat (first | exact Nat.lt_add_one _ | refine Nat.lt_add_one_of_lt ?_)); done)
      | ((repeat (rename _ ≠ _ => h9; clear h9)); (repeat (rename _ ≠ _ ∧ _ => h9; clear h9)); (repeat (rename (_ ≠ _ ∧ _) ∧ _ => h9; clear h9)); omega)))
  (k_with "FinE" => ((unfold LCg.FinE); intro D' h' tk' F' N' o1'; (try simp only [LCg.Off1, and_true] at o1'); (repeat (have o9 := And.left o1'; replace o1' := And.right o1')); (try simp only [List.nil_append, List.cons_append] at N'); (try dsimp only)))
  (k_with "FinA" => ((unfold LCg.FinA); intro D' h' tk' F' N' o1'; (try simp only [LCg.Off1, and_true] at o1'); (repeat (have o9 := And.left o1'; replace o1' := And.right o1')); (try simp only [List.nil_append, List.cons_append] at N'); (try dsimp only)))
  (k_with "call ref" => ((k_dflt (first | ((refine off_use (by assumption) (by assumption) (by assumption) (by assumption) (by assumption) (by exact rfl) (by decide) (by decide) (by assumption) ?_); (intro t9 h9 tk9 F9 N9)) | ((refine clock_use (by assumption) (by assumption) (by assumption) (by assumption) (by assumption) (by exact rfl) (by decide) (by decide) (by first | exact jL_bd | exact mL_bd) (by exact md12) (by omega) ?_); (intro x9 t9 h9 tk9 F9 N9 hc9)) | ((refine imode_use (by assumption) (by assumption) (by assumption) (by assumption) (by assumption) (by exact rfl) (by decide) (by decide)  ?_); (intro t9 h9 tk9 F9 N9)) | ((refine mode_use (by assumption) (by assumption) (by assumption) (by assumption) (by assumption) (by exact rfl) (by decide) (by decide) (by omega) ?_); (intro t9 h9 tk9 F9 N9)) | ((refine modes_use (by assumption) (by assumption) (by assumption) (by assumption) (by assumption) (by exact rfl) (by decide) (by decide) (by assumption) (by assumption) (by omega) ?_); (intro r9 kk9 x09 x19 x29 x39 t19 t29 t39 t49 h9 tk9 hx09 hx19 hx29 hx39 hne9 F9 N9; (have o9 := off1_of hne9); (try simp only [LCg.Off1, and_true] at o9); (repeat (have p9 := And.left o9; replace o9 := And.right o9)))) | ((refine sets_use (by assumption) (by assumption) (by assumption) (by assumption) (by assumption) (by exact rfl) (by decide) (by decide) (by k_mem) ?_); (intro r9 j9 sh9 z9 jv9 sv9 zv9 h9 tk9 hj9 hs9 hz9 hne9 hn19 hn29 hn39 hn49 F9 N9; (have o9 := hne9); (repeat (have p9 := And.left o9; replace o9 := And.right o9)); (have o9 := off1_of hn19); (try simp only [LCg.Off1, and_true] at o9); (repeat (have p9 := And.left o9; replace o9 := And.right o9)); (have o9 := off1_of hn29); (try simp only [LCg.Off1, and_true] at o9); (repeat (have p9 := And.left o9; replace o9 := And.right o9)); (have o9 := off1_of hn39); (try simp only [LCg.Off1, and_true] at o9); (repeat (have p9 := And.left o9; replace o9 := And.right o9)); (have o9 := off1_of hn49); (try simp only [LCg.Off1, and_true] at o9); (repeat (have p9 := And.left o9; replace o9 := And.right o9)))) | ((refine rows_use (by assumption) (by assumption) (by assumption) (by assumption) (by assumption) (by exact rfl) (by decide) (by decide) (by k_mem) (by k_mem) (by assumption) ?_); (intro r9 kk9 pv9 h9 tk9 hi9 hne9 F9 N9; (have o9 := off1_of hne9); (try simp only [LCg.Off1, and_true] at o9); (repeat (have p9 := And.left o9; replace o9 := And.right o9)))) | ((refine joined_use (by assumption) (by assumption) (by assumption) (by assumption) (by assumption) (by exact rfl) (by decide) (by decide) (by k_mem) (by k_mem) (by assumption) (by assumption) ?_); (intro r9 kk9 pv9 h9 tk9 hi9 hne9 F9 N9; (have o9 := off1_of hne9); (try simp only [LCg.Off1, and_true] at o9); (repeat (have p9 := And.left o9; replace o9 := And.right o9)))) | ((refine shared_use (by assumption) (by assumption) (by assumption) (by assumption) (by assumption) (by exact rfl) (by decide) (by decide) (by k_mem) (by k_mem) (by assumption) (by assumption) ?_); (intro r9 kk9 pv9 h9 tk9 hi9 hne9 F9 N9; (have o9 := off1_of hne9); (try simp only [LCg.Off1, and_true] at o9); (repeat (have p9 := And.left o9; replace o9 := And.right o9)))) | ((refine orders_use (by assumption) (by assumption) (by assumption) (by assumption) (by assumption) (by exact rfl) (by decide) (by decide) (by k_mem) (by k_mem) (by assumption) (by assumption) ?_); (intro r9 kk9 pv9 h9 tk9 hi9 hne9 F9 N9; (have o9 := off1_of hne9); (try simp only [LCg.Off1, and_true] at o9); (repeat (have p9 := And.left o9; replace o9 := And.right o9)))))); (try dsimp only)))
  (k_with "eval ListComp" => (k_here; (try lcg_calm); k_dflt (refine LCg.ListComp_U (F₀ := by k_asm) (by with_unfolding_all rfl) (by decide) (by rfl) (by decide) (by rfl) ?_)))
  (k_with "CompEnd int" => (k_dflt (first | (refine LCg.CompEnd.intro (by first | with_reducible assumption | assumption) (by first | with_reducible assumption | assumption) _ (fun _ hp => hp) (by first | with_reducible assumption | assumption) (by first | exact True.intro | lcg_src) ⟨rfl, _, rfl⟩) | (refine LCg.CompEnd.intro (by first | with_reducible assumption | assumption) (by first | with_reducible assumption | assumption) _ (fun _ hp => hp) (by first | with_reducible assumption | assumption) (by first | exact True.intro | lcg_src) ?_))))
  (k_with "CompEnd str" => (k_dflt (first | (refine LCg.CompEnd.intro (by first | with_reducible assumption | assumption) (by first | with_reducible assumption | assumption) _ (fun _ hp => hp) (by first | with_reducible assumption | assumption) (by first | exact True.intro | lcg_src) ⟨rfl, _, rfl⟩) | (refine LCg.CompEnd.intro (by first | with_reducible assumption | assumption) (by first | with_reducible assumption | assumption) _ (fun _ hp => hp) (by first | with_reducible assumption | assumption) (by first | exact True.intro | lcg_src) ?_))))
  (k_with "CompRest" => (with_unfolding_all first
      | ((refine rest_at (i := 0) 0 (by exact rfl) ?_); intro t9' I' oI' C' oC' D' m' h' tk' E' hv' hx' F' N' off' ne')
      | ((refine rest_at (i := 0 + 1) 1 (by exact rfl) ?_); intro t9' I' oI' C' oC' D' m' h' tk' E' hv' hx' F' N' off' ne')
      | ((refine rest_at (i := 0 + 1 + 1) 2 (by exact rfl) ?_); intro t9' I' oI' C' oC' D' m' h' tk' E' hv' hx' F' N' off' ne')
      | ((refine rest_at (i := 0 + 1 + 1 + 1) 3 (by exact rfl) ?_); intro t9' I' oI' C' oC' D' m' h' tk' E' hv' hx' F' N' off' ne')
      | (refine LCg.CompRest.succ ?_; intro v' I' oI' C' oC' D' m' h' tk' E' hv' hC' hx' F' N' off' ne'; (first | lcg_open hv' | (obtain ⟨t9', hv9'⟩ := hv'; subst hv9')))
      | refine LCg.CompRest.zero ?_))
  (k_with "CompSrc" => (k_here; k_dflt (first
      | ((refine LCg.CompSrc.range (a := 0) (b := 16) (n := 16) (by rfl) (by k_asm) (by k_asm) (by assumption) (by decide) (by rfl) (by decide) ?_); intro g'; (refine comp_clockJ (by assumption) (by assumption) ?_ ?_); (all_goals first | (intro i9 ys9 t9' I' oI' C' oC' D' m' h' tk' E' hi9 hv' hx' F' N' off' ne') | (intro ys9 hys9)))
      | ((refine LCg.CompSrc.range (a := 1) (b := 16) (n := 15) (by rfl) (by k_asm) (by k_asm) (by assumption) (by decide) (by rfl) (by decide) ?_); intro g'; (refine comp_clockM (by assumption) (by assumption) ?_ ?_); (all_goals first | (intro i9 ys9 t9' I' oI' C' oC' D' m' h' tk' E' hi9 hv' hx' F' N' off' ne') | (intro ys9 hys9)))
      | ((refine LCg.CompSrc.range (n := 4) (by rfl) (by k_asm) (by k_asm) (by assumption) (by decide) (by rfl) (by decide) ?_); intro g')
      | ((refine LCg.CompSrc.ledger (by rfl) (by k_asm) (by k_asm) (by k_mem) (pot_size (by with_reducible assumption)) ?_); intro g'; (refine comp_due (by with_reducible assumption) (by with_reducible assumption) ?_ ?_); (all_goals first | (intro ys9 x9 t9' I' oI' C' oC' D' m' h' tk' E' hmul9 hv' hx' F' N' off' ne') | (intro ys9 hys9; (try (unfold LCg.FinE)); intro D' h' tk' F' N' o1'; (try simp only [LCg.Off1, and_true] at o1'); (repeat (have o9 := And.left o1'; replace o1' := And.right o1')); (try simp only [List.nil_append, List.cons_append] at N'); (try dsimp only))))
      | (refine LCg.CompSrc.ledger (by rfl) (by k_asm) (by k_asm) (by k_mem) (by first | size_fits | exact Nat.le_of_ble_eq_true rfl) ?_; intro g'; lcg_lit))))
  (k_with "subscriptTail Name Name ref int" => ((k_dflt (refine ksa_sub (by first | with_reducible assumption | assumption) (by k_mem) (by first | with_reducible assumption | assumption) (by omega) (by (simp only [jL_len, mL_len]; omega)) (by omega) ?_ (by with_unfolding_all rfl))); intro t9))
  (k_with "subscriptTail Name Constant ref int" => ((k_dflt (refine ksa_sub (by first | with_reducible assumption | assumption) (by k_mem) (by first | with_reducible assumption | assumption) (by decide) (by (rw [potL_len]; decide)) (by decide) ?_ (by with_unfolding_all rfl))); intro t9))
  (k_with "subscriptTail Name BinOp ref int" => ((k_dflt (refine ksa_sub (by first | with_reducible assumption | assumption) (by k_mem) (by first | with_reducible assumption | assumption) (by decide) (by (rw [potL_len]; decide)) (by decide) ?_ (by with_unfolding_all rfl))); intro t9))
  (k_with "compareOp NotEq ref ref" => (k_dflt (refine due_ne (by assumption) (by k_mem) (by k_mem) (by with_reducible assumption) (by with_reducible assumption) (by first | units_room | decide) ?_); (try dsimp only)))
  (k_with "eval IfExp" => (first | ((k_dflt (refine fac_cut (by assumption) ?_ ?_)); (all_goals first | (intro t9 tk9) | skip)) | fail))
  k_steps
  all_goals first
    | (refine LCg.CompEnd.intro (by assumption) (by assumption) _ (fun _ hp => hp) (by assumption) trivial ⟨rfl, _, rfl⟩)
    | exact facQ_m1 (by assumption)
    | exact facQ_p1 (by assumption)
    | fail
  k_with_none)
end Mine
end SC146
theorem PySem.Challenge.cw_tv0023_01_holds : PySem.Challenge.rw_tv0023_01.Holds := by
  exact Mine.law_holds
