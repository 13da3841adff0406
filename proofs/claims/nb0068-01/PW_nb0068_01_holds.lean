import PyProof.Rows.All
import Wide.All
import OpenK.AllK
import Wide.FinOn
import PySem.Challenge.RW_nb0068_01
set_option Elab.async false
set_option linter.unusedVariables false
section
open PySem PySem.W PyProof.Rows
namespace Mine
set_option maxRecDepth 100000 in
set_option maxHeartbeats 8000000 in
open_top hd for PySem.Challenge.rw_nb0068_01
end Mine
end
section
open PySem PySem.W PySem.Calls PyProof.Rows
namespace Mine
/-- a def's answer is handed back: the walk stops here -/
def Back (Q : Value → Shared → Prop) (v : Value) (s : Shared) : Prop := Q v s

section
variable {prog : Program} {w : World} {A₀ A : Around} {s : Shared} {base h₀ : Heap} {outer : List Env} {L : Addr} {m mg mb : Str → Option Value} {env : Env} {K : Frag} {Q E : Value → Shared → Prop}
  {p : Program} {loose : List Str} {mean : ExcName → Option Value}
  {name qual : Str} {params : Arguments} {body : List Stmt} {scope : Scope} {dV kV doc pm cdv ct oc : Value} {an od : Option Addr} {osl : Array (Option Value)} {f : Addr} {vs : List Value} {kw : List (Str × Value)} {binds : List (Str × Value)}

/-- a plain def of the text, entered with the heap at the call as its ground -/
theorem enter_own (B : Below A₀ base outer h₀) (F : Fr h₀ L s.heap m) (X₀ : K.In h₀) (T : Top p loose mean mg mb h₀) (hA : A.frames = some (env :: outer)) (hf : env.frame = some L) (hke : env.scope.kind = .function)
    (ho : K.lookup f = some ⟨oc, od, .func (fnOf name qual params body scope dV kV doc pm an cdv ct), osl⟩) (hcd : codeIn K cdv qual = true) (hroom : A.depth < recursionLimit)
    (hbind : BindsTo s (fnOf name qual params body scope dV kV doc pm an cdv ct) ⟨vs, kw⟩ binds) (hloc : ∀ y ∈ binds, scope.names.lookup y.1 = some .local)
    (h : ∀ L' h₁ tk, Fr s.heap L' h₁ (fun y => binds.reverse.lookup y) → News s.heap L' h₁ [] → Below A base (env :: outer) s.heap → K.In s.heap → Top p loose mean mg mb s.heap →
      wpAny (model prog w) (A.deeper (envOf qual scope L' f cdv)) (execs body (envOf qual scope L' f cdv))
        (fun fl s' => Back Q (match fl with | .ret v => v | _ => .none) s') (fun _ _ => False)
        { s with heap := h₁, toks := tk })
    (hco : scope.isCoroutine = false) (hgen : scope.isGenerator = false) (hk : scope.kind = .function)
    (hcell : ∀ x ∈ scope.names, x.2 ≠ .cell) : wpAny (model prog w) A (call (.ref f) vs kw) Q E s := by
  refine wpAny_call ?_
  have B₁ := pushX B F hf hke
  refine codeAny_call_def (fd := fnOf name qual params body scope dV kV doc pm an cdv ct) (body := body) (binds := binds) hroom ((X₀.keeps F.keep) _ _ ho) rfl (T.nolimit.keeps F.keep) (codeRec_of (X₀.keeps F.keep) hcd) rfl hbind hcell hloc (fun h₁ hns hk₁ => ?_) hco hgen hk
  exact wpAny_mono (h s.heap.objs.size h₁ _ ⟨hns, hk₁, Nat.le_refl _⟩ News.nil ⟨hA, B₁.stays, B₁.frames⟩ (X₀.keeps F.keep) (T.keeps F.keep)) (fun fl s' hq => hq) fun _ _ y => y.elim

/-- a def with cells -/
theorem enter_ownC (B : Below A₀ base outer h₀) (F : Fr h₀ L s.heap m) (X₀ : K.In h₀) (T : Top p loose mean mg mb h₀) (hA : A.frames = some (env :: outer)) (hf : env.frame = some L) (hke : env.scope.kind = .function)
    (ho : K.lookup f = some ⟨oc, od, .func (fnOf name qual params body scope dV kV doc pm an cdv ct), osl⟩) (hcd : codeIn K cdv qual = true) (hroom : A.depth < recursionLimit)
    (hbind : BindsTo s (fnOf name qual params body scope dV kV doc pm an cdv ct) ⟨vs, kw⟩ binds) (hkind : (binds.all fun y => scope.names.lookup y.1 == some .local || scope.names.lookup y.1 == some .cell) = true)
    (hnd : ((cellsFrom 0 scope.names []).map (·.1)).Nodup)
    (h : ∀ L' h₁ tk cells, Fr s.heap L' h₁ (bindL (envOfC qual scope L' f cdv).kindOf binds fun _ => none) → News s.heap L' h₁ cells →
      CellsAre (bindC (envOfC qual scope L' f cdv).kindOf binds fun _ => none) (cellsFrom (L' + 1) scope.names []) cells → Below A base (env :: outer) s.heap → K.In s.heap → Top p loose mean mg mb s.heap → L' = s.heap.objs.size →
      wpAny (model prog w) (A.deeper (envOfC qual scope L' f cdv)) (execs body (envOfC qual scope L' f cdv))
        (fun fl s' => Back Q (match fl with | .ret v => v | _ => .none) s') (fun _ _ => False)
        { s with heap := h₁, toks := tk })
    (hco : scope.isCoroutine = false) (hgen : scope.isGenerator = false) (hk : scope.kind = .function) : wpAny (model prog w) A (call (.ref f) vs kw) Q E s := by
  refine wpAny_call ?_
  have B₁ := pushX B F hf hke
  refine codeAny_call_function hroom ((X₀.keeps F.keep) _ _ ho) rfl hco hgen rfl (codeRec_of (X₀.keeps F.keep) hcd) (hbind _ _ _ _ ?_)
  refine wpAny_newFunctionEnv_cells hk (kindsX hkind _) fun env' he s' x => ?_
  subst he
  refine ⟨(T.nolimit.keeps F.keep).keeps x.toInCall.keep, codeAny_func ?_⟩
  obtain ⟨h₁, tk, rfl, _⟩ := x.done
  have hk₁ := x.toInCall.keep
  obtain ⟨cells, NC, Y⟩ := Cl.news (h₀ := s.heap) (Nat.le_refl _) fun n c hm => ⟨x.cell n c (lookup_of_mem_nodup (cellsFrom_names scope.names 0 (s.heap.objs.size + 1) [] [] rfl ▸ hnd) hm), x.above n c hm⟩
  exact wpAny_mono (h s.heap.objs.size h₁ tk cells ⟨x.toInCall.ns, fun b o e => hk₁ b o e, Nat.le_refl _⟩ NC Y ⟨hA, B₁.stays, B₁.frames⟩ (X₀.keeps F.keep) (T.keeps F.keep) rfl) (fun fl s' hq => hq) fun _ _ y => y.elim
end

theorem retI {Q : Value → Shared → Prop} {s : Shared} {x y : Int} {t : Tok} {h' : Heap} {tk : Nat} (ret : ∀ (t : Tok) (h' : Heap) (tk' : Nat), (∀ b o, s.heap.get? b = some o → h'.get? b = some o) → Q (.int x t) { s with heap := h', toks := tk' })
    (k : ∀ b o, s.heap.get? b = some o → h'.get? b = some o) (e : y = x) : Back Q (.int y t) { s with heap := h', toks := tk } := by subst e; exact ret _ _ _ k
theorem retB {Q : Value → Shared → Prop} {s : Shared} {x y : Array UInt8} {t : Tok} {h' : Heap} {tk : Nat} (ret : ∀ (t : Tok) (h' : Heap) (tk' : Nat), (∀ b o, s.heap.get? b = some o → h'.get? b = some o) → Q (.bytes x t) { s with heap := h', toks := tk' })
    (k : ∀ b o, s.heap.get? b = some o → h'.get? b = some o) (e : y = x) : Back Q (.bytes y t) { s with heap := h', toks := tk } := by subst e; exact ret _ _ _ k
theorem retL {Q : Value → Shared → Prop} {s : Shared} {out ms : List Int} {r L : Addr} {ws : List Value} {n : Nat} {m : Str → Option Value} {h' : Heap} {tk : Nat} {news : List (Addr × Obj)}
    (ret : ∀ (r : Addr) (ws : List Value) (n : Nat) (h' : Heap) (tk' : Nat), (∀ b o, s.heap.get? b = some o → h'.get? b = some o) → s.heap.get? r = none → h'.get? r = some (W.listOf ws.toArray n) → IntsAre ws out → Q (.ref r) { s with heap := h', toks := tk' })
    (F : Fr s.heap L h' m) (N : News s.heap L h' news) (hm : (r, W.listOf ws.toArray n) ∈ news) (hi : IntsAre ws ms) (e : ms = out) : Back Q (.ref r) { s with heap := h', toks := tk } := by
  subst e; exact ret _ _ _ _ _ F.keep (N _ hm).2.2 (N _ hm).1 hi
theorem ints_of_carried {f : Int → Int} : ∀ {vs : List Value} {ns : List Int}, CarriedAll vs (ns.map fun a => PyData.int (f a)) → IntsAre vs (ns.map f)
  | _, [], .nil => .nil
  | _, _ :: _, .cons (.int _ t) r => .cons _ t (ints_of_carried r)

theorem pow2_ne (k : Nat) : (2 : Int) ^ k ≠ 0 := Int.pow_ne_zero (by decide)
theorem pow2_pos (k : Nat) : (0 : Int) < 2 ^ k := Int.pow_pos (by decide)
theorem pow2_le {a b : Nat} (h : a ≤ b) : (2 : Int) ^ a ≤ 2 ^ b := by
  rw [show b = a + (b - a) by omega, Int.pow_add]
  have h1 := pow2_pos a
  have h2 := pow2_pos (b - a)
  have := Int.mul_le_mul_of_nonneg_left (show (1 : Int) ≤ 2 ^ (b - a) by omega) (Int.le_of_lt h1)
  omega
section
variable {prog : Program} {w : World} {A : Around} {E : Value → Shared → Prop} {s : Shared} {a : Int} {t u : Tok} {k : Nat} {Q : Value → Shared → Prop}
theorem floordiv_pow (hk : k < 9000) (h : Q (.int (a.fdiv (2 ^ k)) s.toks) { s with toks := s.toks + 1 }) : wpAny (model prog w) A (binaryOp .FloorDiv (.int a t) (.int (2 ^ k) u)) Q E s :=
  floordiv_int (pow2_ne k) h (Or.inl (PyProof.noPylong_of_log2 (by rw [Int.natAbs_pow]; show (2 ^ k).log2 < 9000; rw [Nat.log2_two_pow]; exact hk)))
theorem mod_pow (h : Q (.int (a.fmod (2 ^ k)) s.toks) { s with toks := s.toks + 1 }) : wpAny (model prog w) A (binaryOp .Mod (.int a t) (.int (2 ^ k) u)) Q E s :=
  mod_int' (pow2_ne k) h
end
theorem size_range {b : Int} (h2 : 0 ≤ b) : Builtin.Range.rangeSize 0 b 1 = ((b.toNat : Nat) : Int) := by
  unfold Builtin.Range.rangeSize
  rw [if_pos (by decide)]
  split <;> omega
theorem small_range {b : Int} (h2 : 0 ≤ b) (h3 : b ≤ 1000000) : Builtin.Range.small 0 b 1 = true := by
  unfold Builtin.Range.small
  rw [size_range h2]
  simp [Builtin.Range.rangeFitsLong]
  omega

theorem bits_le {x : Int} {k : Nat} (h0 : 0 ≤ x) (h : x < 2 ^ k) : Builtin.Int.intBits x ≤ k := by
  unfold Builtin.Int.intBits
  split
  · exact Nat.zero_le _
  · rename_i hx
    have hne : x.natAbs ≠ 0 := by intro e; apply hx; simp; omega
    have hlt : x.natAbs < 2 ^ k := by
      have : ((x.natAbs : Nat) : Int) < ((2 ^ k : Nat) : Int) := by rw [Int.natAbs_of_nonneg h0]; push_cast; exact h
      exact Int.ofNat_lt.mp this
    have := (Nat.log2_lt hne).mpr hlt
    omega
/-- not below nought, below 2^200: kept shut, for the number burns -/
structure Small (x : Int) : Prop where
  lo : 0 ≤ x
  hi : x < 2 ^ 200
end Mine
end
section
open PySem PySem.W PySem.Calls PyProof.Rows
namespace Mine
/-- the whole number that a row of octets is, from a start -/
def worth (ns : List Int) : Int := ns.foldl (fun w n => w * 256 + n) 0
theorem fold_unit {U : Type} {u : U} {g : Int → Int → Int} : ∀ (ns : List Int) (x : Int), (ns.foldl (fun (σ : Int × U) n => (g σ.1 n, u)) (x, u)).1 = ns.foldl g x
  | [], _ => rfl
  | n :: r, x => fold_unit r (g x n)
set_option maxRecDepth 100000 in
set_option maxHeartbeats 8000000 in
theorem worth_spec {w : World} {p : Program} {loose : List Str} {mean : ExcName → Option Value} {mg mb : Str → Option Value} {dp un : Nat} {gd : Option (List Code)} {cn : Str} {cs : Scope} {a : Addr} {ccd : Value} {cl : List (Str × Addr)} {outer : List Env} {A₀ : Around} {base h₀ : Heap} {L : Addr} {m : Str → Option Value} {s : Shared} {Q E : Value → Shared → Prop}
    (B : Below A₀ base outer h₀) (F : Fr h₀ L s.heap m) (X : (hd.heap_39 w.params).In h₀) (T : Top p loose mean mg mb h₀) (hk : cs.kind = .function) (hd : dp + 1 < recursionLimit) (hu : un + 8 < cLine)
    {l : Addr} {vs : List Value} {ns : List Int} (hl : s.heap.IsList l vs.toArray) (hi : IntsAre vs ns) (hlen : ns.length ≤ 24) (hb : ∀ n ∈ ns, 0 ≤ n ∧ n < 256)
    (ret : ∀ (t : Tok) (h' : Heap) (tk' : Nat), (∀ b o, s.heap.get? b = some o → h'.get? b = some o) → Q (.int (worth ns) t) { s with heap := h', toks := tk' }) :
    wpAny (model PySem.Challenge.rw_nb0068_01.row.prog w) (ktrTop dp un gd cn cs L a ccd cl outer) (call (.ref 93) [.ref l]) Q E s := by
  revert B F X T hk hd hu hl hi hlen hb ret
  k_fill
  intro B F X T hk hd hu hl hi hlen hb ret
  refine' enter_own B F X T ?kA ?kF ?kK ?k6 ?k7 ?k8 ?k9 ?kB ?_ ?c2 ?c3 ?c4 ?c5
  case kA => exact rfl
  case kF => exact rfl
  case kK => assumption
  case k6 => k_is
  case k7 => k_is
  case k8 => ktr_room
  case k9 => exact BindsTo.of_eq rfl
  case c5 => decide
  case kB => exact locs rfl
  case c2 => exact rfl
  case c3 => exact rfl
  case c4 => exact rfl
  k_whole
  intro L' h' tk F' N' B' X' T'
  try dsimp only
  try k_fold
  clear F B X T
  k_steps
  dsimp only
  k_unfold
  dsimp only
  refine retI ret (Fr.keep (by assumption)) ?_
  exact fold_unit (U := Unit) (u := ()) (g := fun x n => x * 256 + n) ns 0
end Mine
end
section
open PySem PySem.W PySem.Calls PyProof.Rows
namespace Mine

/-- noughts ahead up to a multiple of three, then the remainders by 256 -/
def filled (ns : List Int) : List Int := List.replicate (((-(ns.length : Int)).fmod 3).toNat) 0 ++ ns.map fun n => n.fmod 256
set_option maxRecDepth 100000 in
set_option maxHeartbeats 16000000 in
theorem filled_spec {w : World} {p : Program} {loose : List Str} {mean : ExcName → Option Value} {mg mb : Str → Option Value} {dp un : Nat} {gd : Option (List Code)} {cn : Str} {cs : Scope} {a : Addr} {ccd : Value} {cl : List (Str × Addr)} {outer : List Env} {A₀ : Around} {base h₀ : Heap} {L : Addr} {m : Str → Option Value} {s : Shared} {Q E : Value → Shared → Prop}
    (B : Below A₀ base outer h₀) (F : Fr h₀ L s.heap m) (X : (hd.heap_39 w.params).In h₀) (T : Top p loose mean mg mb h₀) (hk : cs.kind = .function) (hd : dp + 1 < recursionLimit) (hu : un + 8 < cLine)
    {l : Addr} {vs : List Value} {ns : List Int} (hl : s.heap.IsList l vs.toArray) (hi : IntsAre vs ns) (hlen : ns.length ≤ 63)
    (ret : ∀ (r : Addr) (ws : List Value) (n : Nat) (h' : Heap) (tk' : Nat), (∀ b o, s.heap.get? b = some o → h'.get? b = some o) → s.heap.get? r = none → h'.get? r = some (listOf ws.toArray n) → IntsAre ws (filled ns) → Q (.ref r) { s with heap := h', toks := tk' }) :
    wpAny (model PySem.Challenge.rw_nb0068_01.row.prog w) (ktrTop dp un gd cn cs L a ccd cl outer) (call (.ref 86) [.ref l]) Q E s := by
  revert B F X T hk hd hu hl hi hlen ret
  k_fill
  intro B F X T hk hd hu hl hi hlen ret
  refine' enter_own B F X T ?kA ?kF ?kK ?k6 ?k7 ?k8 ?k9 ?kB ?_ ?c2 ?c3 ?c4 ?c5
  case kA => exact rfl
  case kF => exact rfl
  case kK => assumption
  case k6 => k_is
  case k7 => k_is
  case k8 => ktr_room
  case k9 => first | exact BindsTo.of_eq rfl | exact binds_K (by k_in) rfl (by k_is) rfl rfl rfl
  case c5 => decide
  case kB => exact locs rfl
  case c2 => exact rfl
  case c3 => exact rfl
  case c4 => exact rfl
  k_whole
  intro L' h' tk F' N' B' X' T'
  try dsimp only
  try k_fold
  clear F B X T
  k_steps
  rename_i i1 n1 s1 e1 e2 e3 lt1 D ys h3 tk3 F3 N3 hD hL hP hC
  have ft : List.filter (fun _ => true) ns = ns := List.filter_eq_self.mpr (fun _ _ => rfl)
  have hj := ints_of_carried hC
  refine add_lists_ints F3 N3 (News.isList N3 (.head _)) hL i1 hj ?_ ?_
  · intro h4 F4 N4 hi4
    dsimp only
    k_unfold
    dsimp only
    refine retL ret F4 N4 (.head _) hi4 ?_
    rw [ft]
    simp [filled]
  · rw [ft, List.length_map, e1]
    by_cases hz : (-(ns.length : Int)).fmod 3 < 0
    · have := e2 hz; rw [sizeLine_eq]; omega
    · have := e3 (by omega)
      have h5 : (-(ns.length : Int)).fmod 3 < 3 := Int.fmod_lt_of_pos _ (by decide)
      rw [sizeLine_eq]; omega
end Mine
end
section
open PySem PySem.W PySem.Calls PyProof.Rows
namespace Mine

/-- the figures of a whole number, from below -/
def figAt (whole : Int) (width : Int) (i : Int) : Int := (whole.fdiv (2 ^ (width * i).toNat)).fmod (2 ^ width.toNat)
def figures (whole : Int) (width count : Int) : List Int := (rangeKs 0 count.toNat).map (figAt whole width)
theorem wide_fits {width k : Int} {n : Nat} (h0 : 0 ≤ width) (h1 : width ≤ 8) (h2 : k = 0 + (n : Int)) (h3 : n < 24) : 0 ≤ width * k ∧ width * k ≤ 192 := by
  subst h2
  refine ⟨Int.mul_nonneg h0 (by omega), ?_⟩
  have := Int.mul_le_mul h1 (show (0 + (n : Int)) ≤ 24 by omega) (by omega) (by omega)
  omega
set_option maxRecDepth 100000 in
set_option maxHeartbeats 16000000 in
theorem figures_spec {w : World} {p : Program} {loose : List Str} {mean : ExcName → Option Value} {mg mb : Str → Option Value} {dp un : Nat} {gd : Option (List Code)} {cn : Str} {cs : Scope} {a : Addr} {ccd : Value} {cl : List (Str × Addr)} {outer : List Env} {A₀ : Around} {base h₀ : Heap} {L : Addr} {m : Str → Option Value} {s : Shared} {Q E : Value → Shared → Prop}
    (B : Below A₀ base outer h₀) (F : Fr h₀ L s.heap m) (X : (hd.heap_39 w.params).In h₀) (T : Top p loose mean mg mb h₀) (hk : cs.kind = .function) (hd : dp + 1 < recursionLimit) (hu : un + 8 < cLine)
    {whole width count : Int} {t1 t2 t3 : Tok} (hw0 : 0 ≤ width) (hw : width ≤ 8) (hc : 0 ≤ count) (hc2 : count ≤ 24)
    (ret : ∀ (r : Addr) (ws : List Value) (n : Nat) (h' : Heap) (tk' : Nat), (∀ b o, s.heap.get? b = some o → h'.get? b = some o) → s.heap.get? r = none → h'.get? r = some (listOf ws.toArray n) → IntsAre ws (figures whole width count) → Q (.ref r) { s with heap := h', toks := tk' }) :
    wpAny (model PySem.Challenge.rw_nb0068_01.row.prog w) (ktrTop dp un gd cn cs L a ccd cl outer) (call (.ref 100) [.int whole t1, .int width t2, .int count t3]) Q E s := by
  revert B F X T hk hd hu hw0 hw hc hc2 ret
  k_fill
  intro B F X T hk hd hu hw0 hw hc hc2 ret
  refine' enter_own B F X T ?kA ?kF ?kK ?k6 ?k7 ?k8 ?k9 ?kB ?_ ?c2 ?c3 ?c4 ?c5
  case kA => exact rfl
  case kF => exact rfl
  case kK => assumption
  case k6 => k_is
  case k7 => k_is
  case k8 => ktr_room
  case k9 => first | exact BindsTo.of_eq rfl | exact binds_K (by k_in) rfl (by k_is) rfl rfl rfl
  case c5 => decide
  case kB => exact locs rfl
  case c2 => exact rfl
  case c3 => exact rfl
  case c4 => exact rfl
  k_whole
  intro L' h' tk F' N' B' X' T'
  try dsimp only
  try k_fold
  clear F B X T
  w_top on
  k_with_none
  (with_reducible refine wpAny_execs_cons ?_)
  (try dsimp only)
  repeat' (first | ((fail_if_success (with_reducible show wpAny _ _ (pyIter _) _ _ _)); first | (k_unfold; (try dsimp only)) | walk1 | (dsimp only; walk1)) | fail "stop")
  rename_i l1 h1 _ h2 F2 N2 h3 tk3 t1 u1 v1 hr F3 N3 hk3
  clear hk3 N2
  refine kst_range (σ := List Value × Nat) (fun c => [(l1, W.listOf c.1.toArray c.2)]) (fun _ => []) (fun _ => True) [] (fun pre c => c.1.length = pre.length ∧ IntsAre c.1 (pre.map (figAt whole width))) ([], 0) rfl hr (small_range hc (by omega)) (n := count.toNat) (size_range hc) F3 N3 trivial ?_ ?_ ?_ ?_
  · exact fun _ h => nomatch h
  · exact ⟨rfl, .nil⟩
  · intro c pre k t u h tk own hk hlt hoff hf hp F4 N4
    dsimp only [kstB, List.cons_append, List.nil_append] at F4 N4
    obtain ⟨hp1, hp2⟩ := hp
    clear F3 N3 F2
    obtain ⟨hb1, hb2⟩ := wide_fits hw0 hw hk (by omega : pre.length < 24)
    k_steps
    refine append_K F4 N4 (Upd.head (hoff.ne (by simp))) ?_ (by rw [List.size_toArray, sizeLine_eq]; omega)
    intro h5 F5 N5
    rw [List.push_toArray] at N5
    k_steps
    obtain ⟨tt, N6⟩ : ∃ tt, News s.heap L' h5 ((l1, W.listOf (c.1 ++ [Value.int (figAt whole width k) tt]).toArray (c.2 + 1)) :: own) := ⟨_, N5⟩
    refine' kst_end (c.1 ++ [Value.int (figAt whole width k) tt], c.2 + 1) F5 N6 ?hn ?ho rfl trivial ?hk ?hr ?hp
    case hn => exact List.forall_mem_cons.mpr ⟨.head _, fun _ h => nomatch h⟩
    case ho => exact fun p hp => .tail _ hp
    case hk => exact fun _ h => nomatch h
    case hr => kst_same
    case hp =>
      refine ⟨by simp [hp1], ?_⟩
      rw [List.map_append]
      exact hp2.append (.cons _ _ .nil)
  · intro c u h tk hf hp F4 N4
    dsimp only [kstB] at F4 N4
    k_steps
    dsimp only
    k_unfold
    dsimp only
    exact retL ret F4 N4 (.head _) hp.2 rfl
end Mine
end
section
open PySem PySem.W PySem.Calls PyProof.Rows
namespace Mine

/-- the carries brought upward: the figures told so far, the carry -/
def carStep (B : Int) (st : List Int × Int) (x : Int) : List Int × Int := (st.1 ++ [(st.2 + x).fmod B], (st.2 + x).fdiv B)
def carSt (B : Int) (ns : List Int) : List Int × Int := ns.foldl (carStep B) ([], 0)
theorem carSt_snoc (B : Int) (pre : List Int) (x : Int) : carSt B (pre ++ [x]) = carStep B (carSt B pre) x := by simp [carSt]
theorem carSt_len (B : Int) (pre : List Int) : (carSt B pre).1.length = pre.length := by
  have : ∀ (pre : List Int) (st : List Int × Int), (pre.foldl (carStep B) st).1.length = st.1.length + pre.length := by
    intro pre
    induction pre with
    | nil => intro st; simp
    | cons x r ih => intro st; rw [List.foldl_cons, ih]; simp [carStep]; omega
  simpa [carSt] using this pre ([], 0)
set_option maxRecDepth 100000 in
set_option maxHeartbeats 16000000 in
theorem carried_spec {w : World} {p : Program} {loose : List Str} {mean : ExcName → Option Value} {mg mb : Str → Option Value} {dp un : Nat} {gd : Option (List Code)} {cn : Str} {cs : Scope} {a : Addr} {ccd : Value} {cl : List (Str × Addr)} {outer : List Env} {A₀ : Around} {base h₀ : Heap} {L : Addr} {m : Str → Option Value} {s : Shared} {Q E : Value → Shared → Prop}
    (B : Below A₀ base outer h₀) (F : Fr h₀ L s.heap m) (X : (hd.heap_39 w.params).In h₀) (T : Top p loose mean mg mb h₀) (hk : cs.kind = .function) (hd : dp + 1 < recursionLimit) (hu : un + 8 < cLine)
    {l : Addr} {vs : List Value} {ns : List Int} {width : Int} {t2 : Tok} (hl : s.heap.IsList l vs.toArray) (hi : IntsAre vs ns) (hlen : ns.length ≤ 24) (hw0 : 0 ≤ width) (hw : width ≤ 8)
    (ret : ∀ (r : Addr) (ws : List Value) (n : Nat) (h' : Heap) (tk' : Nat), (∀ b o, s.heap.get? b = some o → h'.get? b = some o) → s.heap.get? r = none → h'.get? r = some (listOf ws.toArray n) → IntsAre ws ((carSt (2 ^ width.toNat) ns).1) → Q (.ref r) { s with heap := h', toks := tk' }) :
    wpAny (model PySem.Challenge.rw_nb0068_01.row.prog w) (ktrTop dp un gd cn cs L a ccd cl outer) (call (.ref 114) [.ref l, .int width t2]) Q E s := by
  revert B F X T hk hd hu hl hi hlen hw0 hw ret
  k_fill
  intro B F X T hk hd hu hl hi hlen hw0 hw ret
  refine' enter_own B F X T ?kA ?kF ?kK ?k6 ?k7 ?k8 ?k9 ?kB ?_ ?c2 ?c3 ?c4 ?c5
  case kA => exact rfl
  case kF => exact rfl
  case kK => assumption
  case k6 => k_is
  case k7 => k_is
  case k8 => ktr_room
  case k9 => first | exact BindsTo.of_eq rfl | exact binds_K (by k_in) rfl (by k_is) rfl rfl rfl
  case c5 => decide
  case kB => exact locs rfl
  case c2 => exact rfl
  case c3 => exact rfl
  case c4 => exact rfl
  k_whole
  intro L' h' tk F' N' B' X' T'
  try dsimp only
  try k_fold
  clear F B X T
  w_top on
  k_with_none
  (with_reducible refine wpAny_execs_cons ?_)
  (try dsimp only)
  repeat' (first | ((fail_if_success (with_reducible show wpAny _ _ (pyIter _) _ _ _)); first | (k_unfold; (try dsimp only)) | walk1 | (dsimp only; walk1)) | fail "stop")
  rename_i iL l1 h1 _ h2 h3 F3 N3
  refine kst_list (σ := List Value × Nat × Int × Tok) (fun c => [(l1, W.listOf c.1.toArray c.2.1)]) (fun c => [(Str.ofString "carry", Value.int c.2.2.1 c.2.2.2)]) (fun _ => True) [] (fun pre c => IntsAre c.1 (carSt (2 ^ width.toNat) pre).1 ∧ c.2.2.1 = (carSt (2 ^ width.toNat) pre).2) ([], 0, 0, tk + 1) rfl hl iL F3 N3 trivial ?_ ?_ ?_ ?_
  · exact List.forall_mem_cons.mpr ⟨rfl, fun _ h => nomatch h⟩
  · exact ⟨.nil, rfl⟩
  · intro c pre post n t u h tk own hsp hmem hoff hf hp F4 N4
    dsimp only [kstB, List.cons_append, List.nil_append] at F4 N4
    obtain ⟨cv, cn, cc, ct⟩ := c
    dsimp only at hp F4 N4 hoff
    obtain ⟨hp1, hp2⟩ := hp
    clear F3 N3
    subst hp2
    have hl1 := hp1.length
    have hl2 := carSt_len (2 ^ width.toNat) pre
    have hl3 := congrArg List.length hsp
    simp only [List.length_append, List.length_cons] at hl3
    k_steps
    rename_i h5 F5 N5
    refine append_K F5 N5 (Upd.head (hoff.ne (by simp))) ?_ (by rw [List.size_toArray, sizeLine_eq]; omega)
    intro h6 F6 N6
    rw [List.push_toArray] at N6
    k_steps
    rename_i h7 F7 N7
    refine kst_end (cv ++ [_], cn + 1, _, _) F7 N7 (List.forall_mem_cons.mpr ⟨.head _, fun _ h => nomatch h⟩) (fun p hp => .tail _ hp) rfl trivial (List.forall_mem_cons.mpr ⟨rfl, fun _ h => nomatch h⟩) ?_ ?_
    · kst_same
    · rw [carSt_snoc]
      exact ⟨hp1.append (.cons _ _ .nil), rfl⟩
  · intro c u h tk hf hp F4 N4
    dsimp only [kstB] at F4 N4
    k_steps
    dsimp only
    k_unfold
    dsimp only
    exact retL ret F4 N4 (.head _) hp.1 rfl
end Mine
end
section
open PySem PySem.W PySem.Calls PyProof.Rows
namespace Mine

/-- the schoolbook's columns -/
def colIn (one two : List Int) (i : Int) (cols : List Int) (j : Int) : List Int := cols.set (i + j).toNat (cols.getD (i + j).toNat 0 + one.getD i.toNat 0 * two.getD j.toNat 0)
def colRow (one two : List Int) (cols : List Int) (i : Int) : List Int := (rangeKs 0 two.length).foldl (colIn one two i) cols
def columns (one two : List Int) : List Int := (rangeKs 0 one.length).foldl (colRow one two) (List.replicate (one.length + two.length) 0)
theorem colIn_len (one two : List Int) (i : Int) (cols : List Int) (j : Int) : (colIn one two i cols j).length = cols.length := by simp [colIn]
theorem foldl_len {α : Type} {f : List Int → α → List Int} (hf : ∀ c x, (f c x).length = c.length) : ∀ (xs : List α) (c : List Int), (xs.foldl f c).length = c.length
  | [], _ => rfl
  | x :: r, c => (foldl_len hf r (f c x)).trans (hf c x)
theorem getD_bd {ns : List Int} (hb : ∀ x ∈ ns, 0 ≤ x ∧ x < 256) (k : Nat) : 0 ≤ ns.getD k 0 ∧ ns.getD k 0 < 256 := by
  rw [List.getD_eq_getElem?_getD]
  cases h : ns[k]? with
  | none => simp
  | some x => exact hb x (List.mem_of_getElem? h)
theorem colRow_len (one two : List Int) (cols : List Int) (i : Int) : (colRow one two cols i).length = cols.length := foldl_len (fun _ _ => colIn_len _ _ _ _ _) _ _
set_option maxRecDepth 100000 in
set_option maxHeartbeats 16000000 in
theorem columns_spec {w : World} {p : Program} {loose : List Str} {mean : ExcName → Option Value} {mg mb : Str → Option Value} {dp un : Nat} {gd : Option (List Code)} {cn : Str} {cs : Scope} {a : Addr} {ccd : Value} {cl : List (Str × Addr)} {outer : List Env} {A₀ : Around} {base h₀ : Heap} {L : Addr} {m : Str → Option Value} {s : Shared} {Q E : Value → Shared → Prop}
    (B : Below A₀ base outer h₀) (F : Fr h₀ L s.heap m) (X : (hd.heap_39 w.params).In h₀) (T : Top p loose mean mg mb h₀) (hk : cs.kind = .function) (hd : dp + 1 < recursionLimit) (hu : un + 8 < cLine)
    {l1 l2 : Addr} {vs1 vs2 : List Value} {one two : List Int} (hl1 : s.heap.IsList l1 vs1.toArray) (hi1 : IntsAre vs1 one) (hl2 : s.heap.IsList l2 vs2.toArray) (hi2 : IntsAre vs2 two) (hn1 : one.length ≤ 12) (hn2 : two.length ≤ 12) (hb : ∀ x ∈ one, 0 ≤ x ∧ x < 256)
    (ret : ∀ (r : Addr) (ws : List Value) (n : Nat) (h' : Heap) (tk' : Nat), (∀ b o, s.heap.get? b = some o → h'.get? b = some o) → s.heap.get? r = none → h'.get? r = some (listOf ws.toArray n) → IntsAre ws (columns one two) → Q (.ref r) { s with heap := h', toks := tk' }) :
    wpAny (model PySem.Challenge.rw_nb0068_01.row.prog w) (ktrTop dp un gd cn cs L a ccd cl outer) (call (.ref 107) [.ref l1, .ref l2]) Q E s := by
  revert B F X T hk hd hu hl1 hi1 hl2 hi2 hn1 hn2 hb ret
  k_fill
  intro B F X T hk hd hu hl1 hi1 hl2 hi2 hn1 hn2 hb ret
  refine' enter_own B F X T ?kA ?kF ?kK ?k6 ?k7 ?k8 ?k9 ?kB ?_ ?c2 ?c3 ?c4 ?c5
  case kA => exact rfl
  case kF => exact rfl
  case kK => assumption
  case k6 => k_is
  case k7 => k_is
  case k8 => ktr_room
  case k9 => first | exact BindsTo.of_eq rfl | exact binds_K (by k_in) rfl (by k_is) rfl rfl rfl
  case c5 => decide
  case kB => exact locs rfl
  case c2 => exact rfl
  case c3 => exact rfl
  case c4 => exact rfl
  k_whole
  intro L' h' tk F' N' B' X' T'
  try dsimp only
  try k_fold
  clear F B X T
  w_top on
  k_with_none
  repeat' (first | ((fail_if_success (with_reducible show wpAny _ _ (pyIter _) _ _ _)); first | (k_unfold; (try dsimp only)) | walk1 | (dsimp only; walk1)) | fail "stop")
  rename_i tk0 la ha _ D hb1 i1 n1 s1 e1 e2 e3 lt1 h2 F2 N2 h3 tk3 t₁ u₁ v₁ hr F3 N3 hk3
  clear hk3 N2 F2 s1 e1 e2 e3 lt1
  have i0 : IntsAre (List.replicate ((one.length : Int) + (two.length : Int)).toNat [Value.int 0 tk0]).flatten (List.replicate (one.length + two.length) 0) := by
    have e : (List.replicate ((one.length : Int) + (two.length : Int)).toNat [(0 : Int)]).flatten = List.replicate (one.length + two.length) 0 := by
      rw [show ((one.length : Int) + (two.length : Int)).toNat = one.length + two.length by omega]
      simp
    exact e ▸ i1
  clear i1
  have N3 := kst_newsOf N3 (l' := [(D, W.listOf (List.replicate ((one.length : Int) + (two.length : Int)).toNat [Value.int 0 tk0]).flatten.toArray 0)]) (List.forall_mem_cons.mpr ⟨.head _, fun _ h => nomatch h⟩)
  refine kst_range (σ := List Value × Nat) (fun c => [(D, W.listOf c.1.toArray c.2)]) (fun _ => []) (fun _ => True) [Str.ofString "j"] (fun pre c => IntsAre c.1 (pre.foldl (colRow one two) (List.replicate (one.length + two.length) 0))) (_, 0) rfl hr (small_range (by omega) (by omega)) (n := one.length) (size_range (by omega)) F3 N3 trivial ?_ ?_ ?_ ?_
  · exact fun _ h => nomatch h
  · exact i0
  · intro c pre i ti u h tk own hk hlt hoff hf hp F4 N4
    dsimp only [kstB, List.cons_append, List.nil_append] at F4 N4
    obtain ⟨cv, cn'⟩ := c
    dsimp only at hp F4 N4 hoff
    clear F3 N3
    repeat' (first | ((fail_if_success (with_reducible show wpAny _ _ (pyIter _) _ _ _)); first | (k_unfold; (try dsimp only)) | walk1 | (dsimp only; walk1)) | fail "stop")
    rename_i h5 tk5 t5 u5 v5 hr5 F5 N5 hk5
    clear hk5 N3 hr
    refine kst_range (σ := List Value × Nat) (fun c => (D, W.listOf c.1.toArray c.2) :: own) (fun _ => []) (fun _ => True) [] (fun pre2 c => IntsAre c.1 (pre2.foldl (colIn one two i) (pre.foldl (colRow one two) (List.replicate (one.length + two.length) 0)))) (cv, cn') rfl hr5 (small_range (by omega) (by omega)) (n := two.length) (size_range (by omega)) F5 N5 trivial ?_ hp ?_ ?_
    · exact fun _ h => nomatch h
    · intro c2 pre2 j tj u2 h6 tk6 own2 hk2 hlt2 hoff2 hf2 hp2 F6 N6
      dsimp only [kstB, List.cons_append, List.nil_append] at F6 N6
      obtain ⟨dv, dn⟩ := c2
      dsimp only at hp2 F6 N6 hoff2
      have hlen := hp2.length
      rw [foldl_len (fun _ _ => colIn_len _ _ _ _ _), foldl_len (fun _ _ => colRow_len _ _ _ _), List.length_replicate] at hlen
      clear F5 N5
      k_steps
      refine mul_int ?_ (IntMulOk.of_left (bits_le (getD_bd hb _).1 (Int.lt_trans (getD_bd hb _).2 (by decide))))
      k_steps
      have hof : ∀ p ∈ own ++ own2, p.1 ≠ D := fun p hp => (List.mem_append.mp hp).elim (hoff.ne (by simp) p) (hoff2.ne (by simp) p)
      have hl4 : (List.foldl (colIn one two i) (List.foldl (colRow one two) (List.replicate (one.length + two.length) 0) pre) pre2).length = one.length + two.length := by rw [← hp2.length, hlen]
      refine ksa_set F6 N6 (Upd.head hof) hp2 (by omega) (by rw [hl4]; omega) (by omega) ?_
      intro h7 F7 N7 hi7 _ _
      k_steps
      refine kst_end (_, dn) F7 N7 (List.forall_mem_cons.mpr ⟨.head _, fun p hp => .tail _ (List.mem_append.mpr (.inl hp))⟩) (fun p hp => .tail _ (List.mem_append.mpr (.inr hp))) rfl trivial (fun _ h => nomatch h) ?_ ?_
      · kst_same
      · rw [List.foldl_append]
        exact hi7
    · intro c2 u2 h6 tk6 hf2 hp2 F6 N6
      dsimp only [kstB] at F6 N6
      k_steps
      refine kst_end c2 F6 N6 (List.forall_mem_cons.mpr ⟨.head _, fun _ h => nomatch h⟩) (fun p hp => .tail _ hp) rfl trivial (fun _ h => nomatch h) ?_ ?_
      · kst_same
      · rw [List.foldl_append]
        exact hp2
  · intro c u h tk hf hp F4 N4
    dsimp only [kstB] at F4 N4
    k_steps
    dsimp only
    k_unfold
    dsimp only
    exact retL ret F4 N4 (.head _) hp rfl
end Mine
end
section
open PySem PySem.W PySem.Calls PyProof.Rows
namespace Mine

/-- noughts at the top cut off -/
def bareN (ns : List Int) : Nat → Nat
  | 0 => 0
  | k + 1 => if ns.getD k 0 = 0 then bareN ns k else k + 1
def bare (ns : List Int) : List Int := ns.take (bareN ns ns.length)
theorem bareN_zero {ns : List Int} {c : Int} (h0 : 0 < c) (h : ns.getD (c - 1).toNat 0 = 0) : bareN ns c.toNat = bareN ns (c - 1).toNat := by
  rw [show c.toNat = (c - 1).toNat + 1 by omega]
  simp only [bareN]
  rw [if_pos h]
theorem bareN_stop {ns : List Int} {c : Int} (h0 : 0 < c) (h : ns.getD (c - 1).toNat 0 ≠ 0) : bareN ns c.toNat = c.toNat := by
  rw [show c.toNat = (c - 1).toNat + 1 by omega]
  simp only [bareN]
  rw [if_neg h]
set_option maxRecDepth 100000 in
set_option maxHeartbeats 16000000 in
theorem bare_spec {w : World} {p : Program} {loose : List Str} {mean : ExcName → Option Value} {mg mb : Str → Option Value} {dp un : Nat} {gd : Option (List Code)} {cn : Str} {cs : Scope} {a : Addr} {ccd : Value} {cl : List (Str × Addr)} {outer : List Env} {A₀ : Around} {base h₀ : Heap} {L : Addr} {m : Str → Option Value} {s : Shared} {Q E : Value → Shared → Prop}
    (B : Below A₀ base outer h₀) (F : Fr h₀ L s.heap m) (X : (hd.heap_39 w.params).In h₀) (T : Top p loose mean mg mb h₀) (hk : cs.kind = .function) (hd : dp + 1 < recursionLimit) (hu : un + 8 < cLine)
    {l : Addr} {vs : List Value} {ns : List Int} (hl : s.heap.IsList l vs.toArray) (hi : IntsAre vs ns) (hlen : ns.length ≤ 24)
    (ret : ∀ (r : Addr) (ws : List Value) (n : Nat) (h' : Heap) (tk' : Nat), (∀ b o, s.heap.get? b = some o → h'.get? b = some o) → s.heap.get? r = none → h'.get? r = some (listOf ws.toArray n) → IntsAre ws (bare ns) → Q (.ref r) { s with heap := h', toks := tk' }) :
    wpAny (model PySem.Challenge.rw_nb0068_01.row.prog w) (ktrTop dp un gd cn cs L a ccd cl outer) (call (.ref 121) [.ref l]) Q E s := by
  revert B F X T hk hd hu hl hi hlen ret
  k_fill
  intro B F X T hk hd hu hl hi hlen ret
  refine' enter_own B F X T ?kA ?kF ?kK ?k6 ?k7 ?k8 ?k9 ?kB ?_ ?c2 ?c3 ?c4 ?c5
  case kA => exact rfl
  case kF => exact rfl
  case kK => assumption
  case k6 => k_is
  case k7 => k_is
  case k8 => ktr_room
  case k9 => first | exact BindsTo.of_eq rfl | exact binds_K (by k_in) rfl (by k_is) rfl rfl rfl
  case c5 => decide
  case kB => exact locs rfl
  case c2 => exact rfl
  case c3 => exact rfl
  case c4 => exact rfl
  k_whole
  intro L' h' tk F' N' B' X' T'
  try dsimp only
  try k_fold
  clear F B X T
  w_top on
  k_with_none
  repeat' (first | ((fail_if_success (with_reducible show wpAny _ _ (exec (Stmt.While _ _ _ _) _) _ _ _)); first | (k_unfold; (try dsimp only)) | walk1 | (dsimp only; walk1)) | fail "stop")
  rename_i F3 N3
  refine ksw_while (σ := Int × Tok) (fun _ => []) (fun c => [(Str.ofString "count", Value.int c.1 c.2)]) (fun _ => True) [] (fun c => 0 ≤ c.1 ∧ c.1 ≤ (ns.length : Int) ∧ bareN ns ns.length = bareN ns c.1.toNat) (fun c => c.1.toNat) ((ns.length : Int), _) F3 N3 trivial (List.forall_mem_cons.mpr ⟨rfl, fun _ h => nomatch h⟩) ?_ ?_
  · exact ⟨by omega, Int.le_refl _, by simp⟩
  · intro c u h tk hf hp F4 N4
    dsimp only [kstB] at F4 N4
    obtain ⟨cc, ct⟩ := c
    dsimp only at hp F4 N4
    obtain ⟨hp1, hp2, hp3⟩ := hp
    clear F3 N3
    k_steps
    · rename_i hpos _ hz h5 F5 N5
      refine ksw_end (cc - 1, _) F5 N5 (fun _ h => nomatch h) trivial (List.forall_mem_cons.mpr ⟨rfl, fun _ h => nomatch h⟩) ?_ ?_ ?_
      · intro z h2 h3
        simp only [List.forall_mem_cons, List.not_mem_nil, false_implies, implies_true, and_true, ne_eq] at h2
        simp [h2]
      · exact ⟨by omega, by omega, hp3.trans (bareN_zero hpos hz)⟩
      · show (cc - 1).toNat < cc.toNat
        omega
    · rename_i hpos _ hz D5 ws5 h5 F5 N5 hI5 _ _ _
      dsimp only
      show Back Q _ _
      refine retL (s := s) ret F5 N5 (.head _) hI5 ?_
      rw [bare, hp3, bareN_stop hpos hz]
    · rename_i hpos D5 ws5 h5 F5 N5 hI5 _ _ _
      dsimp only
      show Back Q _ _
      refine retL (s := s) ret F5 N5 (.head _) hI5 ?_
      rw [bare, hp3, show cc.toNat = 0 by omega]
      rfl
end Mine
end
section
open PySem PySem.W PySem.Calls PyProof.Rows
namespace Mine

def signs4 : List Int := [48, 49, 50, 51, 52, 53, 54, 55, 56, 57, 65, 66, 67, 68, 69, 70]
def signs6 : List Int := [65, 66, 67, 68, 69, 70, 71, 72, 73, 74, 75, 76, 77, 78, 79, 80, 81, 82, 83, 84, 85, 86, 87, 88, 89, 90, 97, 98, 99, 100, 101, 102, 103, 104, 105, 106, 107, 108, 109, 110, 111, 112, 113, 114, 115, 116, 117, 118, 119, 120, 121, 122, 48, 49, 50, 51, 52, 53, 54, 55, 56, 57, 43, 47]
/-- what is written of a row of figures -/
def writtenBy (sg : List Int) (ns : List Int) : List Int := ns.reverse.map fun n => sg.getD n.toNat 0
set_option maxRecDepth 100000 in
set_option maxHeartbeats 16000000 in
theorem written4_spec {w : World} {p : Program} {loose : List Str} {mean : ExcName → Option Value} {mg mb : Str → Option Value} {dp un : Nat} {gd : Option (List Code)} {cn : Str} {cs : Scope} {a : Addr} {ccd : Value} {cl : List (Str × Addr)} {outer : List Env} {A₀ : Around} {base h₀ : Heap} {L : Addr} {m : Str → Option Value} {s : Shared} {Q E : Value → Shared → Prop}
    (B : Below A₀ base outer h₀) (F : Fr h₀ L s.heap m) (X : (hd.heap_39 w.params).In h₀) (T : Top p loose mean mg mb h₀) (hk : cs.kind = .function) (hd : dp + 1 < recursionLimit) (hu : un + 8 < cLine)
    {l : Addr} {vs : List Value} {ns : List Int} {t2 : Tok} (hl : s.heap.IsList l vs.toArray) (hi : IntsAre vs ns) (hlen : ns.length ≤ 24) (hb : ∀ n ∈ ns, 0 ≤ n ∧ n < 16)
    (ret : ∀ (t : Tok) (h' : Heap) (tk' : Nat), (∀ b o, s.heap.get? b = some o → h'.get? b = some o) → Q (.bytes (byteArr (writtenBy signs4 ns)) t) { s with heap := h', toks := tk' }) :
    wpAny (model PySem.Challenge.rw_nb0068_01.row.prog w) (ktrTop dp un gd cn cs L a ccd cl outer) (call (.ref 126) [.ref l, .int 4 t2]) Q E s := by
  revert B F X T hk hd hu hl hi hlen hb ret
  k_fill
  intro B F X T hk hd hu hl hi hlen hb ret
  refine' enter_ownC B F X T ?kA ?kF ?kK ?k6 ?k7 ?k8 ?k9 ?kB ?kN ?_ ?c2 ?c3 ?c4
  case kA => exact rfl
  case kF => exact rfl
  case kK => assumption
  case k6 => k_is
  case k7 => k_is
  case k8 => ktr_room
  case k9 => first | exact BindsTo.of_eq rfl | exact binds_K (by k_in) rfl (by k_is) rfl rfl rfl
  case kB => exact rfl
  case kN => decide +kernel
  case c2 => exact rfl
  case c3 => exact rfl
  case c4 => exact rfl
  k_whole
  intro L' h' tk cells F' N' Y' B' X' T' eL
  k_cells Y'
  try dsimp only
  try k_fold
  clear F B X T
  w_top on
  k_with_none
  repeat' (first | ((fail_if_success (with_reducible show wpAny _ _ (eval (Expr.ListComp _ _ _ _) _) _ _ _)); first | (k_unfold; (try dsimp only)) | walk1 | (dsimp only; walk1)) | fail "stop")
  k_dflt (refine LCg.ListComp_U (F₀ := by k_asm) (by with_unfolding_all rfl) (by decide) (by rfl) (by decide) (by rfl) ?_)
  repeat' (first | ((fail_if_success (with_reducible show LCg.CompSrc _ _ _ _ _ _ _ _ _ _ _ _ _ _)); first | (k_unfold; (try dsimp only)) | walk1 | (dsimp only; walk1)) | fail "stop")
  rename_i D2 ws2 h2 F2 N2 hI2 _ lt2
  have hbr : ∀ n ∈ ns.reverse, 0 ≤ n ∧ n < 16 := fun n hn => hb n (List.mem_reverse.mp hn)
  have hlr := hI2.length
  rw [List.length_reverse] at hlr
  refine LCg.CompSrc.ledger (by rfl) F2 N2 (.head _) (by rw [List.size_toArray, sizeLine_eq]; omega) ?_
  intro g'
  refine kcf_list (fun n => signs4.getD n.toNat 0) hI2 (fun k t I oI C oC D m₂ ys h tk E' hk hC hx F3 N3 off ne hMark => ?_) ?_
  · simp only [LCg.Off3, and_true] at off
    obtain ⟨hk0, hk1⟩ := hbr k hk
    clear F2 N2
    repeat' (first | ((fail_if_success (with_reducible show wpAny _ _ (subscriptTail _ _ (Value.bytes _ _) _) _ _ _)); first | (k_unfold; (try dsimp only)) | walk1 | (dsimp only; walk1)) | fail "stop")
    refine KBw.item_K (ks := signs4) (by decide +kernel) (by decide) hk0 (by rw [show signs4.length = 16 from rfl]; omega) ?_
    intro t5 k5 _ _
    k_steps
  · unfold KPfDone
    intro ys hys
    clear F2 N2
    repeat' (first | ((fail_if_success (with_reducible show wpAny _ _ (call (Value.type "bytes") _) _ _ _)); first | (k_unfold; (try dsimp only)) | walk1 | (dsimp only; walk1)) | fail "stop")
    have hin : KBa.In (List.map (fun n => signs4.getD n.toNat 0) ns.reverse) := by
      intro x hx
      obtain ⟨k, hk, rfl⟩ := List.mem_map.mp hx
      exact KBw.getD_in (by decide +kernel)
    refine KBa.make_K (by assumption) (by assumption) rfl (News.isList (by assumption) (.head _)) hys hin (by simp; omega) ?_
    intro h6 t6 k6 F6 N6 _
    exact retB (s := s) ret F6.keep rfl
set_option maxRecDepth 100000 in
set_option maxHeartbeats 16000000 in
theorem written6_spec {w : World} {p : Program} {loose : List Str} {mean : ExcName → Option Value} {mg mb : Str → Option Value} {dp un : Nat} {gd : Option (List Code)} {cn : Str} {cs : Scope} {a : Addr} {ccd : Value} {cl : List (Str × Addr)} {outer : List Env} {A₀ : Around} {base h₀ : Heap} {L : Addr} {m : Str → Option Value} {s : Shared} {Q E : Value → Shared → Prop}
    (B : Below A₀ base outer h₀) (F : Fr h₀ L s.heap m) (X : (hd.heap_39 w.params).In h₀) (T : Top p loose mean mg mb h₀) (hk : cs.kind = .function) (hd : dp + 1 < recursionLimit) (hu : un + 8 < cLine)
    {l : Addr} {vs : List Value} {ns : List Int} {t2 : Tok} (hl : s.heap.IsList l vs.toArray) (hi : IntsAre vs ns) (hlen : ns.length ≤ 24) (hb : ∀ n ∈ ns, 0 ≤ n ∧ n < 64)
    (ret : ∀ (t : Tok) (h' : Heap) (tk' : Nat), (∀ b o, s.heap.get? b = some o → h'.get? b = some o) → Q (.bytes (byteArr (writtenBy signs6 ns)) t) { s with heap := h', toks := tk' }) :
    wpAny (model PySem.Challenge.rw_nb0068_01.row.prog w) (ktrTop dp un gd cn cs L a ccd cl outer) (call (.ref 126) [.ref l, .int 6 t2]) Q E s := by
  revert B F X T hk hd hu hl hi hlen hb ret
  k_fill
  intro B F X T hk hd hu hl hi hlen hb ret
  refine' enter_ownC B F X T ?kA ?kF ?kK ?k6 ?k7 ?k8 ?k9 ?kB ?kN ?_ ?c2 ?c3 ?c4
  case kA => exact rfl
  case kF => exact rfl
  case kK => assumption
  case k6 => k_is
  case k7 => k_is
  case k8 => ktr_room
  case k9 => first | exact BindsTo.of_eq rfl | exact binds_K (by k_in) rfl (by k_is) rfl rfl rfl
  case kB => exact rfl
  case kN => decide +kernel
  case c2 => exact rfl
  case c3 => exact rfl
  case c4 => exact rfl
  k_whole
  intro L' h' tk cells F' N' Y' B' X' T' eL
  k_cells Y'
  try dsimp only
  try k_fold
  clear F B X T
  w_top on
  k_with_none
  repeat' (first | ((fail_if_success (with_reducible show wpAny _ _ (eval (Expr.ListComp _ _ _ _) _) _ _ _)); first | (k_unfold; (try dsimp only)) | walk1 | (dsimp only; walk1)) | fail "stop")
  k_dflt (refine LCg.ListComp_U (F₀ := by k_asm) (by with_unfolding_all rfl) (by decide) (by rfl) (by decide) (by rfl) ?_)
  repeat' (first | ((fail_if_success (with_reducible show LCg.CompSrc _ _ _ _ _ _ _ _ _ _ _ _ _ _)); first | (k_unfold; (try dsimp only)) | walk1 | (dsimp only; walk1)) | fail "stop")
  rename_i D2 ws2 h2 F2 N2 hI2 _ lt2
  have hbr : ∀ n ∈ ns.reverse, 0 ≤ n ∧ n < 64 := fun n hn => hb n (List.mem_reverse.mp hn)
  have hlr := hI2.length
  rw [List.length_reverse] at hlr
  refine LCg.CompSrc.ledger (by rfl) F2 N2 (.head _) (by rw [List.size_toArray, sizeLine_eq]; omega) ?_
  intro g'
  refine kcf_list (fun n => signs6.getD n.toNat 0) hI2 (fun k t I oI C oC D m₂ ys h tk E' hk hC hx F3 N3 off ne hMark => ?_) ?_
  · simp only [LCg.Off3, and_true] at off
    obtain ⟨hk0, hk1⟩ := hbr k hk
    clear F2 N2
    repeat' (first | ((fail_if_success (with_reducible show wpAny _ _ (subscriptTail _ _ (Value.bytes _ _) _) _ _ _)); first | (k_unfold; (try dsimp only)) | walk1 | (dsimp only; walk1)) | fail "stop")
    refine KBw.item_K (ks := signs6) (by decide +kernel) (by decide) hk0 (by rw [show signs6.length = 64 from rfl]; omega) ?_
    intro t5 k5 _ _
    k_steps
  · unfold KPfDone
    intro ys hys
    clear F2 N2
    repeat' (first | ((fail_if_success (with_reducible show wpAny _ _ (call (Value.type "bytes") _) _ _ _)); first | (k_unfold; (try dsimp only)) | walk1 | (dsimp only; walk1)) | fail "stop")
    have hin : KBa.In (List.map (fun n => signs6.getD n.toNat 0) ns.reverse) := by
      intro x hx
      obtain ⟨k, hk, rfl⟩ := List.mem_map.mp hx
      exact KBw.getD_in (by decide +kernel)
    refine KBa.make_K (by assumption) (by assumption) rfl (News.isList (by assumption) (.head _)) hys hin (by simp; omega) ?_
    intro h6 t6 k6 F6 N6 _
    exact retB (s := s) ret F6.keep rfl
end Mine
end
section
open PySem PySem.W PySem.Calls PyProof.Rows
namespace Mine
open Builtin
set_option maxRecDepth 100000
theorem slot_upper : Slot "bytes" "upper" "bytes.upper" :=
  .of (owner := "bytes") (n := "upper") (by rw [typeLookup_type, builtinLookup_eq_fast]; kernel_rfl) (by decide +kernel) (by decide +kernel) (by decide +kernel)
    (by first | exact .inl (by decide +kernel) | exact .inr (by decide +kernel)) (by rw [isSubtype_type]; kernel_rfl)
theorem type_upper : typeOf (.builtin "bytes.upper") = pure (.type "method_descriptor") := by show builtinType _ = _; rw [builtinType_eq_fast]; kernel_rfl
theorem entry_upper : entryFor table "bytes.upper" = some Builtin.«bytes.upper» := entryFor_of_tree (by kernel_rfl)
theorem args_upper (a : Value) : argsOk "bytes.upper" ⟨[a], []⟩ := by
  unfold argsOk; rw [signature?_of (id := "bytes.upper") (n := ['r', 'e', 'p', 'p', 'u']) (o := ['s', 'e', 't', 'y', 'b']) (by kernel_rfl) FB.owner_bytes]; kernel_rfl

/-- the signs' numbers that hex writes -/
def hexCps (b : Array UInt8) : Array Nat := b.toList.zipIdx.foldl (fun (out : Array Nat) (x : UInt8 × Nat) => (out.push (Bytes.hexDigit (x.1.toNat / 16))).push (Bytes.hexDigit (x.1.toNat % 16))) #[]
def hexOne (c : UInt8) : List Nat := [Bytes.hexDigit (c.toNat / 16), Bytes.hexDigit (c.toNat % 16)]
theorem hexCps_eq (b : Array UInt8) : (hexCps b).toList = b.toList.flatMap hexOne := by
  have : ∀ (l : List UInt8) (k : Nat) (acc : Array Nat), ((l.zipIdx k).foldl (fun (out : Array Nat) (x : UInt8 × Nat) => (out.push (Bytes.hexDigit (x.1.toNat / 16))).push (Bytes.hexDigit (x.1.toNat % 16))) acc).toList = acc.toList ++ l.flatMap hexOne := by
    intro l
    induction l with
    | nil => intro k acc; simp
    | cons c r ih => intro k acc; rw [List.zipIdx_cons, List.foldl_cons, ih]; simp [hexOne]
  simpa [hexCps] using this b.toList 0 #[]
theorem hexCps_size (b : Array UInt8) : (hexCps b).size = 2 * b.size := by
  have h : (hexCps b).toList.length = 2 * b.toList.length := by
    rw [hexCps_eq]
    induction b.toList with
    | nil => rfl
    | cons c r ih => rw [List.flatMap_cons, List.length_append, ih]; simp [hexOne]; omega
  simpa using h
theorem hexCps_ascii (b : Array UInt8) : ∀ c ∈ hexCps b, c < 128 := by
  intro c hc
  have hc' : c ∈ (hexCps b).toList := by simpa using hc
  rw [hexCps_eq] at hc'
  obtain ⟨x, _, hx⟩ := List.mem_flatMap.mp hc'
  have h256 : x.toNat < 256 := UInt8.toNat_lt x
  simp only [hexOne, List.mem_cons, List.not_mem_nil, or_false, Bytes.hexDigit] at hx
  rcases hx with rfl | rfl <;> split <;> omega
theorem hex_eq (b : Array UInt8) (t : Tok) : «bytes.hex» ⟨[.bytes b t], []⟩ = (mkStr ⟨hexCps b⟩ >>= fun v => ret v) := by
  kernel_rfl
theorem meets_hex (b : Array UInt8) (t : Tok) : Meets («bytes.hex» ⟨[.bytes b t], []⟩) (fun _ R s => (hexCps b).size ≤ sizeLine ∧ R (.ok (.ret (.str ⟨hexCps b⟩ s.toks))) { s with toks := s.toks + 1 }) := by
  refine .of_wp fun prog w A R s hS => ?_
  obtain ⟨hsz, h⟩ := hS
  rw [hex_eq]
  exact wpAny_bind (wpAny_mkStr (wpAny_pure ⟨_, rfl, h⟩) hsz)
theorem upper_eq (b : Array UInt8) (t : Tok) : «bytes.upper» ⟨[.bytes b t], []⟩ = (mkBytes (b.toList.map Bytes.toUpper).toArray >>= fun v => ret v) := by
  kernel_rfl
theorem meets_upper (b : Array UInt8) (t : Tok) : Meets («bytes.upper» ⟨[.bytes b t], []⟩) (fun _ R s => b.size ≤ sizeLine ∧ R (.ok (.ret (.bytes (b.toList.map Bytes.toUpper).toArray s.toks))) { s with toks := s.toks + 1 }) := by
  refine .of_wp fun prog w A R s hS => ?_
  obtain ⟨hsz, h⟩ := hS
  rw [upper_eq]
  exact wpAny_bind (wpAny_mkBytes (wpAny_pure ⟨_, rfl, h⟩) (by simpa using hsz))
theorem encode_eq (x : Str) (t u : Tok) : «str.encode» ⟨[.str x t, .str (Str.ofString "ascii") u], []⟩ = ((_codecs.encodeNarrow "str.encode" _codecs.asciiCodec none (.str x t) x >>= fun b => mkBytes b) >>= fun v => ret v) := by
  kernel_rfl
theorem forIn_two {σ β : Type} (f : Nat → σ → Sem (ForInStep σ)) (a b : σ) (m : Nat) (c : σ) (k : σ → Sem β) (r : Sem β)
    (h0 : f 0 a = pure (.yield b)) (h1 : f 1 b = pure (.done c)) (hr : k c = r) : (forIn (List.range' 0 (m + 2)) a f >>= k) = r := by
  rw [show List.range' 0 (m + 2) = 0 :: 1 :: List.range' 2 m by simp [List.range'_succ]]
  rw [List.forIn_cons, h0, pure_bind]
  dsimp only
  rw [List.forIn_cons, h1, pure_bind]
  dsimp only
  rw [pure_bind, hr]
theorem fold_ascii (l : List Nat) : ∀ acc : Array UInt8, (l.foldl (fun acc y => acc ++ (_codecs.asciiCodec.bytesOf y).toArray) acc).toList = acc.toList ++ l.map (·.toUInt8) := by
  induction l with
  | nil => intro acc; simp
  | cons c r ih => intro acc; rw [List.foldl_cons, ih]; simp [_codecs.asciiCodec]
theorem narrow_eq {id : String} {self : Value} {x : Str} (hx : ∀ c ∈ x.cps, c < 128) (h2 : 2 ≤ x.cps.size) (hz : x.cps.size ≤ sizeLine) : _codecs.encodeNarrow id _codecs.asciiCodec none self x = pure ((x.cps.toList.map (·.toUInt8)).toArray) := by
  obtain ⟨m, hm⟩ : ∃ m, x.length = m + 2 := ⟨x.cps.size - 2, by show x.cps.size = _; omega⟩
  have hbad : ∀ c ∈ x.cps, _codecs.asciiCodec.bad c = false := fun c hc => by simp [_codecs.asciiCodec, hx c hc]
  have hfi : Array.findIdx? _codecs.asciiCodec.bad x.cps = none := by rw [Array.findIdx?_eq_none_iff]; exact hbad
  have hex : x.cps.extract 0 = x.cps := by simp
  have hex2 : x.cps.extract 0 x.cps.size = x.cps := by simp
  unfold _codecs.encodeNarrow
  simp only [Std.Legacy.Range.forIn_eq_forIn_range', Std.Legacy.Range.size, hm]
  rw [show (m + 2 - 0 + 1 - 1) / 1 = m + 2 by omega]
  refine forIn_two _ _ (x.cps.size, (x.cps.toList.map (·.toUInt8)).toArray, { }) m (x.cps.size, (x.cps.toList.map (·.toUInt8)).toArray, { }) _ _ ?_ ?_ rfl
  · dsimp only
    rw [if_neg (by simp)]
    have h0 : x.cps[0]? = some (x.cps[0]'(by omega)) := by simp
    rw [h0]
    dsimp only
    rw [hbad _ (by simp)]
    simp only [Bool.not_false, if_true]
    rw [hex2, hfi]
    simp only [Option.getD_none, Nat.zero_add, hex2]
    congr 4
    rw [← Array.foldl_toList]
    apply Array.toList_inj.mp
    simpa using fold_ascii x.cps.toList #[]
  · dsimp only
    rw [if_neg (by simp; omega)]
    have h0 : x.cps[x.cps.size]? = none := by simp
    rw [h0]
theorem meets_encode (x : Str) (t u : Tok) : Meets («str.encode» ⟨[.str x t, .str (Str.ofString "ascii") u], []⟩) (fun _ R s => (∀ c ∈ x.cps, c < 128) ∧ 2 ≤ x.cps.size ∧ x.cps.size ≤ sizeLine ∧ R (.ok (.ret (.bytes (x.cps.toList.map (·.toUInt8)).toArray s.toks))) { s with toks := s.toks + 1 }) := by
  refine .of_wp fun prog w A R s hS => ?_
  obtain ⟨hx, h2, hz, h⟩ := hS
  rw [encode_eq, narrow_eq hx h2 hz]
  exact wpAny_bind (wpAny_bind (wpAny_pure (wpAny_mkBytes (wpAny_pure ⟨_, rfl, h⟩) (by simpa using hz))))
section
variable {prog : Program} {w : World} {A : Around} {E : Value → Shared → Prop} {s : Shared} {b : Array UInt8} {t u : Tok} {x : Str} {Q : Value → Shared → Prop}
theorem hex_rule (hsz : (hexCps b).size ≤ sizeLine) (h : Q (.str ⟨hexCps b⟩ s.toks) { s with toks := s.toks + 1 }) : wpAny (model prog w) A (call (.builtin "bytes.hex") [.bytes b t]) Q E s :=
  call_meets FB.slot_bytes_hex (typeIs_bytes _ _ _) FB.entry_bytes_hex (FB.args_bytes_hex_1 _) (meets_hex b t) ⟨hsz, h⟩
theorem upper_rule (hsz : b.size ≤ sizeLine) (h : Q (.bytes (b.toList.map Bytes.toUpper).toArray s.toks) { s with toks := s.toks + 1 }) : wpAny (model prog w) A (call (.builtin "bytes.upper") [.bytes b t]) Q E s :=
  call_meets slot_upper (typeIs_bytes _ _ _) entry_upper (args_upper _) (meets_upper b t) ⟨hsz, h⟩
theorem encode_rule (hx : ∀ c ∈ x.cps, c < 128) (h2 : 2 ≤ x.cps.size) (hz : x.cps.size ≤ sizeLine) (h : Q (.bytes (x.cps.toList.map (·.toUInt8)).toArray s.toks) { s with toks := s.toks + 1 }) :
    wpAny (model prog w) A (call (.builtin "str.encode") [.str x t, .str (Str.ofString "ascii") u]) Q E s :=
  call_meets F.slot_str_encode (typeIs_str _ _ _) F.entry_str_encode (F.args_str_encode_2 _ _) (meets_encode x t u) ⟨hx, h2, hz, h⟩
theorem method_hex {pl : Sem Bool} {Q : Value × List Value → Shared → Prop} (h : Q (.builtin "bytes.hex", [.bytes b t]) s) : wpAny (model prog w) A (getMethod (.bytes b t) (Str.ofString "hex") pl) Q E s := by
  with_reducible exact KBd.method_of (.bytes b t) (typeIs_bytes _ _ _) FB.slot_bytes_hex FB.type_bytes_hex KBd.noRef h
theorem method_upper {pl : Sem Bool} {Q : Value × List Value → Shared → Prop} (h : Q (.builtin "bytes.upper", [.bytes b t]) s) : wpAny (model prog w) A (getMethod (.bytes b t) (Str.ofString "upper") pl) Q E s := by
  with_reducible exact KBd.method_of (.bytes b t) (typeIs_bytes _ _ _) slot_upper type_upper KBd.noRef h
theorem method_encode {pl : Sem Bool} {Q : Value × List Value → Shared → Prop} (h : Q (.builtin "str.encode", [.str x t]) s) : wpAny (model prog w) A (getMethod (.str x t) (Str.ofString "encode") pl) Q E s :=
  getMethod_builtin (typeIs_str _ _ _) F.plainAttrs_str F.slot_str_encode F.type_str_encode (fun _ e => nomatch e) h
theorem type_bytes (h : Q (.type "bytes") s) : wpAny (model prog w) A (call (.type "type") [.bytes b t]) Q E s := call_type_of (Tx := "bytes") rfl (by decide +kernel) h
end
end Mine
end
section
open PySem PySem.W PySem.Calls PyProof.Rows
namespace Mine

local macro_rules | `(tactic| walk_at "call type:type") => `(tactic| (refine type_bytes ?_))
local macro_rules | `(tactic| walk_at "getMethod bytes") => `(tactic| (first | refine method_hex ?_ | refine method_upper ?_))
local macro_rules | `(tactic| walk_at "getMethod str") => `(tactic| (refine method_encode ?_))
set_option maxRecDepth 100000 in
set_option maxHeartbeats 16000000 in
theorem buffer_spec {w : World} {p : Program} {loose : List Str} {mean : ExcName → Option Value} {mg mb : Str → Option Value} {dp un : Nat} {gd : Option (List Code)} {cn : Str} {cs : Scope} {a : Addr} {ccd : Value} {cl : List (Str × Addr)} {outer : List Env} {A₀ : Around} {base h₀ : Heap} {L : Addr} {m : Str → Option Value} {s : Shared} {Q E : Value → Shared → Prop}
    (B : Below A₀ base outer h₀) (F : Fr h₀ L s.heap m) (X : (hd.heap_39 w.params).In h₀) (T : Top p loose mean mg mb h₀) (hk : cs.kind = .function) (hd : dp + 1 < recursionLimit) (hu : un + 8 < cLine)
    {b : Array UInt8} {t1 : Tok}
    (ret : ∀ (h' : Heap) (tk' : Nat), (∀ b o, s.heap.get? b = some o → h'.get? b = some o) → Q (.bytes b t1) { s with heap := h', toks := tk' }) :
    wpAny (model PySem.Challenge.rw_nb0068_01.row.prog w) (ktrTop dp un gd cn cs L a ccd cl outer) (call (.ref 42) [.bytes b t1]) Q E s := by
  revert B F X T hk hd hu  ret
  k_fill
  intro B F X T hk hd hu  ret
  refine' enter_own B F X T ?kA ?kF ?kK ?k6 ?k7 ?k8 ?k9 ?kB ?_ ?c2 ?c3 ?c4 ?c5
  case kA => exact rfl
  case kF => exact rfl
  case kK => assumption
  case k6 => k_is
  case k7 => k_is
  case k8 => ktr_room
  case k9 => first | exact BindsTo.of_eq rfl | exact binds_K (by k_in) rfl (by k_is) rfl rfl rfl
  case c5 => decide
  case kB => exact locs rfl
  case c2 => exact rfl
  case c3 => exact rfl
  case c4 => exact rfl
  k_whole
  intro L' h' tk F' N' B' X' T'
  try dsimp only
  try k_fold
  clear F B X T
  w_top on
  k_with_none
  k_steps
  rename_i h5 F5 N5
  dsimp only
  show Back Q _ _
  exact ret _ _ F5.keep
set_option maxRecDepth 100000 in
set_option maxHeartbeats 16000000 in
theorem hex_spec {w : World} {p : Program} {loose : List Str} {mean : ExcName → Option Value} {mg mb : Str → Option Value} {dp un : Nat} {gd : Option (List Code)} {cn : Str} {cs : Scope} {a : Addr} {ccd : Value} {cl : List (Str × Addr)} {outer : List Env} {A₀ : Around} {base h₀ : Heap} {L : Addr} {m : Str → Option Value} {s : Shared} {Q E : Value → Shared → Prop}
    (B : Below A₀ base outer h₀) (F : Fr h₀ L s.heap m) (X : (hd.heap_39 w.params).In h₀) (T : Top p loose mean mg mb h₀) (hk : cs.kind = .function) (hd : dp + 2 < recursionLimit) (hu : un + 20 < cLine)
    {b : Array UInt8} {t1 : Tok} (hb : 3 ≤ b.size) (hlen : b.size ≤ 24)
    (ret : ∀ (t : Tok) (h' : Heap) (tk' : Nat), (∀ b o, s.heap.get? b = some o → h'.get? b = some o) → Q (.bytes (((hexCps b).toList.map (·.toUInt8)).toArray) t) { s with heap := h', toks := tk' }) :
    wpAny (model PySem.Challenge.rw_nb0068_01.row.prog w) (ktrTop dp un gd cn cs L a ccd cl outer) (call (.ref 66) [.bytes b t1]) Q E s := by
  revert B F X T hk hd hu hb hlen ret
  k_fill
  intro B F X T hk hd hu hb hlen ret
  refine' enter_own B F X T ?kA ?kF ?kK ?k6 ?k7 ?k8 ?k9 ?kB ?_ ?c2 ?c3 ?c4 ?c5
  case kA => exact rfl
  case kF => exact rfl
  case kK => assumption
  case k6 => k_is
  case k7 => k_is
  case k8 => ktr_room
  case k9 => first | exact BindsTo.of_eq rfl | exact binds_K (by k_in) rfl (by k_is) rfl rfl rfl
  case c5 => decide
  case kB => exact locs rfl
  case c2 => exact rfl
  case c3 => exact rfl
  case c4 => exact rfl
  k_whole
  intro L' h' tk F' N' B' X' T'
  try dsimp only
  try k_fold
  clear F B X T
  w_top on
  k_with_none
  k_steps
  refine buffer_spec B' F' X' T' rfl ?_ ?_ ?_
  · omega
  · show un + 3 + 8 < cLine
    omega
  intro h5 tk5 hk5
  have F5 := F'.keeps hk5
  clear F' N'
  have N5 : News s.heap L' h5 [] := News.nil
  k_steps
  (show wpAny _ _ (call (.builtin "bytes.hex") [Value.bytes b t1]) _ _ _)
  refine hex_rule (by rw [hexCps_size, sizeLine_eq]; omega) ?_
  k_steps
  (show wpAny _ _ (call (.builtin "str.encode") [Value.str ⟨hexCps b⟩ _, Value.str (Str.ofString "ascii") _]) _ _ _)
  refine encode_rule (hexCps_ascii b) (by show 2 ≤ (hexCps b).size; rw [hexCps_size]; omega) (by show (hexCps b).size ≤ _; rw [hexCps_size, sizeLine_eq]; omega) ?_
  k_steps
  dsimp only
  show Back Q _ _
  exact retB (s := s) ret (Fr.keep (by assumption)) rfl
set_option maxRecDepth 100000 in
set_option maxHeartbeats 16000000 in
theorem b16_spec {w : World} {p : Program} {loose : List Str} {mean : ExcName → Option Value} {mg mb : Str → Option Value} {dp un : Nat} {gd : Option (List Code)} {cn : Str} {cs : Scope} {a : Addr} {ccd : Value} {cl : List (Str × Addr)} {outer : List Env} {A₀ : Around} {base h₀ : Heap} {L : Addr} {m : Str → Option Value} {s : Shared} {Q E : Value → Shared → Prop}
    (B : Below A₀ base outer h₀) (F : Fr h₀ L s.heap m) (X : (hd.heap_39 w.params).In h₀) (T : Top p loose mean mg mb h₀) (hk : cs.kind = .function) (hd : dp + 3 < recursionLimit) (hu : un + 30 < cLine)
    {b : Array UInt8} {t1 : Tok} (hb : 3 ≤ b.size) (hlen : b.size ≤ 24)
    (ret : ∀ (t : Tok) (h' : Heap) (tk' : Nat), (∀ b o, s.heap.get? b = some o → h'.get? b = some o) → Q (.bytes ((((hexCps b).toList.map (·.toUInt8)).map Builtin.Bytes.toUpper).toArray) t) { s with heap := h', toks := tk' }) :
    wpAny (model PySem.Challenge.rw_nb0068_01.row.prog w) (ktrTop dp un gd cn cs L a ccd cl outer) (call (.ref 81) [.bytes b t1]) Q E s := by
  revert B F X T hk hd hu hb hlen ret
  k_fill
  intro B F X T hk hd hu hb hlen ret
  refine' enter_own B F X T ?kA ?kF ?kK ?k6 ?k7 ?k8 ?k9 ?kB ?_ ?c2 ?c3 ?c4 ?c5
  case kA => exact rfl
  case kF => exact rfl
  case kK => assumption
  case k6 => k_is
  case k7 => k_is
  case k8 => ktr_room
  case k9 => first | exact BindsTo.of_eq rfl | exact binds_K (by k_in) rfl (by k_is) rfl rfl rfl
  case c5 => decide
  case kB => exact locs rfl
  case c2 => exact rfl
  case c3 => exact rfl
  case c4 => exact rfl
  k_whole
  intro L' h' tk F' N' B' X' T'
  try dsimp only
  try k_fold
  clear F B X T
  w_top on
  k_with_none
  k_steps
  refine hex_spec B' F' X' T' rfl ?_ ?_ hb hlen ?_
  · omega
  · show un + 3 + 20 < cLine
    omega
  intro t5 h5 tk5 hk5
  have F5 := F'.keeps hk5
  clear F' N'
  have N5 : News s.heap L' h5 [] := News.nil
  k_steps
  (show wpAny _ _ (call (.builtin "bytes.upper") [Value.bytes ((hexCps b).toList.map (·.toUInt8)).toArray _]) _ _ _)
  refine upper_rule (by simp; rw [hexCps_size, sizeLine_eq]; omega) ?_
  k_steps
  try dsimp only
  show Back Q _ _
  exact retB (s := s) ret (Fr.keep (by assumption)) rfl
end Mine
end
section
open PySem PySem.W PySem.Calls PyProof.Rows
namespace Mine

local macro_rules | `(tactic| walk_at "call type:type") => `(tactic| (refine type_bytes ?_))

/-- base64's state: the signs told, the bits left, the char left -/
def chStep (ch n : Int) : Int := Builtin.bitAnd (Builtin.bitOr (ch * 2 ^ (8 : Int).toNat) n) 65535
def sx (ch k : Int) : Int := signs6.getD (Builtin.bitAnd (ch.fdiv (2 ^ k.toNat)) 63).toNat 0
def b64Step (st : List Int × Int × Int) (n : Int) : List Int × Int × Int :=
  if st.2.1 = 0 then (st.1 ++ [sx (chStep st.2.2 n) 2], 2, chStep st.2.2 n)
  else if st.2.1 = 2 then (st.1 ++ [sx (chStep st.2.2 n) 4], 4, chStep st.2.2 n)
  else (st.1 ++ [sx (chStep st.2.2 n) 6, sx (chStep st.2.2 n) 0], 0, chStep st.2.2 n)
def b64St (ns : List Int) : List Int × Int × Int := ns.foldl b64Step ([], 0, 0)
theorem b64St_snoc (pre : List Int) (n : Int) : b64St (pre ++ [n]) = b64Step (b64St pre) n := by simp [b64St]
theorem chStep_bd (ch n : Int) : 0 ≤ chStep ch n ∧ chStep ch n ≤ 65535 := bitAnd_range _ (by decide)
theorem sx_bd (ch k : Int) : 0 ≤ sx ch k ∧ sx ch k < 256 := KBw.getD_in (by decide +kernel)
structure B64Ok (n : Nat) (st : List Int × Int × Int) : Prop where
  bits : st.2.1 = 0 ∨ st.2.1 = 2 ∨ st.2.1 = 4
  clo : 0 ≤ st.2.2
  chi : st.2.2 ≤ 65535
  len : st.1.length ≤ 2 * n
  inn : ∀ x ∈ st.1, 0 ≤ x ∧ x < 256
theorem b64Ok_step {n : Nat} {st : List Int × Int × Int} (x : Int) (h : B64Ok n st) : B64Ok (n + 1) (b64Step st x) := by
  have hb := chStep_bd st.2.2 x
  have hl := h.len
  unfold b64Step
  split
  · refine ⟨.inr (.inl rfl), hb.1, hb.2, by simp; omega, fun y hy => ?_⟩
    rcases List.mem_append.mp hy with hy | hy
    · exact h.inn y hy
    · rw [List.mem_singleton.mp hy]; exact sx_bd _ _
  · split
    · refine ⟨.inr (.inr rfl), hb.1, hb.2, by simp; omega, fun y hy => ?_⟩
      rcases List.mem_append.mp hy with hy | hy
      · exact h.inn y hy
      · rw [List.mem_singleton.mp hy]; exact sx_bd _ _
    · refine ⟨.inl rfl, hb.1, hb.2, by simp; omega, fun y hy => ?_⟩
      rcases List.mem_append.mp hy with hy | hy
      · exact h.inn y hy
      · rcases List.mem_cons.mp hy with rfl | hy
        · exact sx_bd _ _
        · rw [List.mem_singleton.mp hy]; exact sx_bd _ _
theorem b64Ok (ns : List Int) : B64Ok ns.length (b64St ns) := by
  have : ∀ (ns : List Int) (k : Nat) (st : List Int × Int × Int), B64Ok k st → B64Ok (k + ns.length) (ns.foldl b64Step st) := by
    intro ns
    induction ns with
    | nil => intro k st h; exact h
    | cons x r ih => intro k st h; have := ih (k + 1) _ (b64Ok_step x h); rw [List.foldl_cons, List.length_cons]; rw [show k + (r.length + 1) = k + 1 + r.length by omega]; exact this
  have h := this ns 0 ([], 0, 0) ⟨.inl rfl, by decide, by decide, by simp, fun _ h => nomatch h⟩
  simpa [b64St] using h
set_option maxRecDepth 100000 in
set_option maxHeartbeats 16000000 in
theorem truth_spec {w : World} {p : Program} {loose : List Str} {mean : ExcName → Option Value} {mg mb : Str → Option Value} {dp un : Nat} {gd : Option (List Code)} {cn : Str} {cs : Scope} {a : Addr} {ccd : Value} {cl : List (Str × Addr)} {outer : List Env} {A₀ : Around} {base h₀ : Heap} {L : Addr} {m : Str → Option Value} {s : Shared} {Q E : Value → Shared → Prop}
    (B : Below A₀ base outer h₀) (F : Fr h₀ L s.heap m) (X : (hd.heap_39 w.params).In h₀) (T : Top p loose mean mg mb h₀) (hk : cs.kind = .function) (hd : dp + 1 < recursionLimit) (hu : un + 8 < cLine)
    
    (ret : ∀ (h' : Heap) (tk' : Nat), (∀ b o, s.heap.get? b = some o → h'.get? b = some o) → Q (.bool false) { s with heap := h', toks := tk' }) :
    wpAny (model PySem.Challenge.rw_nb0068_01.row.prog w) (ktrTop dp un gd cn cs L a ccd cl outer) (call (.ref 49) [.bool false]) Q E s := by
  revert B F X T hk hd hu  ret
  k_fill
  intro B F X T hk hd hu  ret
  refine' enter_own B F X T ?kA ?kF ?kK ?k6 ?k7 ?k8 ?k9 ?kB ?_ ?c2 ?c3 ?c4 ?c5
  case kA => exact rfl
  case kF => exact rfl
  case kK => assumption
  case k6 => k_is
  case k7 => k_is
  case k8 => ktr_room
  case k9 => first | exact BindsTo.of_eq rfl | exact binds_K (by k_in) rfl (by k_is) rfl rfl rfl
  case c5 => decide
  case kB => exact locs rfl
  case c2 => exact rfl
  case c3 => exact rfl
  case c4 => exact rfl
  k_whole
  intro L' h' tk F' N' B' X' T'
  try dsimp only
  try k_fold
  clear F B X T
  w_top on
  k_with_none
  k_steps
  dsimp only
  show Back Q _ _
  exact ret _ _ (Fr.keep (by assumption))
set_option maxRecDepth 100000 in
set_option maxHeartbeats 16000000 in
theorem b2a_spec {w : World} {p : Program} {loose : List Str} {mean : ExcName → Option Value} {mg mb : Str → Option Value} {dp un : Nat} {gd : Option (List Code)} {cn : Str} {cs : Scope} {a : Addr} {ccd : Value} {cl : List (Str × Addr)} {outer : List Env} {A₀ : Around} {base h₀ : Heap} {L : Addr} {m : Str → Option Value} {s : Shared} {Q E : Value → Shared → Prop}
    (B : Below A₀ base outer h₀) (F : Fr h₀ L s.heap m) (X : (hd.heap_39 w.params).In h₀) (T : Top p loose mean mg mb h₀) (hk : cs.kind = .function) (hd : dp + 2 < recursionLimit) (hu : un + 20 < cLine)
    {b : Array UInt8} {t1 : Tok} {ns : List Int} (hb : KBw.bInts b = ns) (hlen : ns.length ≤ 24) (h3 : (b64St ns).2.1 = 0)
    (ret : ∀ (t : Tok) (h' : Heap) (tk' : Nat), (∀ b o, s.heap.get? b = some o → h'.get? b = some o) → Q (.bytes (byteArr (b64St ns).1) t) { s with heap := h', toks := tk' }) :
    wpAny (model PySem.Challenge.rw_nb0068_01.row.prog w) (ktrTop dp un gd cn cs L a ccd cl outer) (call (.ref 57) [.bytes b t1] [(Str.ofString "newline", .bool false)]) Q E s := by
  revert B F X T hk hd hu hb hlen h3 ret
  k_fill
  intro B F X T hk hd hu hb hlen h3 ret
  refine' enter_own B F X T ?kA ?kF ?kK ?k6 ?k7 ?k8 ?k9 ?kB ?_ ?c2 ?c3 ?c4 ?c5
  case kA => exact rfl
  case kF => exact rfl
  case kK => assumption
  case k6 => k_is
  case k7 => k_is
  case k8 => ktr_room
  case k9 => first | exact BindsTo.of_eq rfl | exact binds_K (by k_in) rfl (by k_is) rfl rfl rfl
  case c5 => decide
  case kB => exact locs rfl
  case c2 => exact rfl
  case c3 => exact rfl
  case c4 => exact rfl
  k_whole
  intro L' h' tk F' N' B' X' T'
  try dsimp only
  try k_fold
  clear F B X T
  w_top on
  k_with_none
  k_steps
  refine buffer_spec B' F' X' T' rfl ?_ ?_ ?_
  · omega
  · show un + 3 + 8 < cLine
    omega
  intro h5 tk5 hk5
  have F5 := F'.keeps hk5
  clear F' N'
  have N5 : News s.heap L' h5 [] := News.nil
  k_steps
  rename_i h6 F6 N6
  refine truth_spec B' F6 X' T' rfl ?_ ?_ ?_
  · omega
  · show un + 3 + 8 < cLine
    omega
  intro h7 tk7 hk7
  have F7 := F6.keeps hk7
  clear F6 N6
  have N7 : News s.heap L' h7 [] := News.nil
  repeat' (first | ((fail_if_success (with_reducible show wpAny _ _ (pyIter _) _ _ _)); first | (k_unfold; (try dsimp only)) | walk1 | (dsimp only; walk1)) | fail "stop")
  rename_i l1 h8 _ h9 h10 h11 F8 N8
  refine KStb.kst_bytes (σ := List Value × Nat × Int × Tok × Int × Tok) (fun c => [(l1, W.listOf c.1.toArray c.2.1)]) (fun c => [(Str.ofString "leftchar", Value.int c.2.2.2.2.1 c.2.2.2.2.2), (Str.ofString "leftbits", Value.int c.2.2.1 c.2.2.2.1)]) (fun _ => True) [] (fun pre c => IntsAre c.1 (b64St pre).1 ∧ c.2.2.1 = (b64St pre).2.1 ∧ c.2.2.2.2.1 = (b64St pre).2.2) ([], 0, 0, _, 0, _) hb rfl rfl F8 N8 trivial (List.forall_mem_cons.mpr ⟨rfl, List.forall_mem_cons.mpr ⟨rfl, fun _ h => nomatch h⟩⟩) ⟨.nil, rfl, rfl⟩ ?_ ?_
  · intro c pre post n t u h tk own hsp hltn hn0 hn1 hoff hf hp F9 N9
    dsimp only [kstB, List.cons_append, List.nil_append] at F9 N9
    obtain ⟨cv, cn, cb, tb, cc, tc⟩ := c
    dsimp only at hp F9 N9 hoff
    obtain ⟨hp1, hp2, hp3⟩ := hp
    clear F8 N8
    have hok := b64Ok pre
    have hl1 := hp1.length
    obtain ⟨ok1, ok2, ok3, ok4, _⟩ := hok
    rw [← hp2] at ok1
    rw [← hp3] at ok2 ok3
    have hst : b64St pre = ((b64St pre).1, cb, cc) := by rw [hp2, hp3]
    rcases ok1 with rfl | rfl | rfl
    · k_steps
      refine KBw.item_K (ks := signs6) (by decide +kernel) (by decide) (bitAnd_range _ (by decide)).1 (Int.lt_of_le_of_lt (bitAnd_range _ (by decide)).2 (by decide)) ?_
      intro _ _ _ _
      k_steps
      refine append_K (by assumption) (by assumption) (Upd.head (hoff.ne (by simp))) ?_ (by simp only [List.size_toArray, List.length_append, List.length_cons, List.length_nil, sizeLine_eq]; omega)
      intro h20 F20 N20
      rw [List.push_toArray] at N20
      k_steps
      have e : b64Step ((b64St pre).1, 0, cc) n = ((b64St pre).1 ++ [sx (chStep cc n) 2], 2, chStep cc n) := rfl
      refine kst_end (cv ++ [_], cn + 1, 2, _, chStep cc n, _) (by assumption) (by assumption) (List.forall_mem_cons.mpr ⟨.head _, fun _ h => nomatch h⟩) (fun p hp => .tail _ hp) rfl trivial (List.forall_mem_cons.mpr ⟨rfl, List.forall_mem_cons.mpr ⟨rfl, fun _ h => nomatch h⟩⟩) ?_ ?_
      · kst_same
      · rw [b64St_snoc, hst, e]
        exact ⟨hp1.append (.cons _ _ .nil), rfl, rfl⟩
    · k_steps
      refine KBw.item_K (ks := signs6) (by decide +kernel) (by decide) (bitAnd_range _ (by decide)).1 (Int.lt_of_le_of_lt (bitAnd_range _ (by decide)).2 (by decide)) ?_
      intro _ _ _ _
      k_steps
      refine append_K (by assumption) (by assumption) (Upd.head (hoff.ne (by simp))) ?_ (by simp only [List.size_toArray, List.length_append, List.length_cons, List.length_nil, sizeLine_eq]; omega)
      intro h20 F20 N20
      rw [List.push_toArray] at N20
      k_steps
      have e : b64Step ((b64St pre).1, 2, cc) n = ((b64St pre).1 ++ [sx (chStep cc n) 4], 4, chStep cc n) := rfl
      refine kst_end (cv ++ [_], cn + 1, 4, _, chStep cc n, _) (by assumption) (by assumption) (List.forall_mem_cons.mpr ⟨.head _, fun _ h => nomatch h⟩) (fun p hp => .tail _ hp) rfl trivial (List.forall_mem_cons.mpr ⟨rfl, List.forall_mem_cons.mpr ⟨rfl, fun _ h => nomatch h⟩⟩) ?_ ?_
      · kst_same
      · rw [b64St_snoc, hst, e]
        exact ⟨hp1.append (.cons _ _ .nil), rfl, rfl⟩
    · k_steps
      refine KBw.item_K (ks := signs6) (by decide +kernel) (by decide) (bitAnd_range _ (by decide)).1 (Int.lt_of_le_of_lt (bitAnd_range _ (by decide)).2 (by decide)) ?_
      intro _ _ _ _
      k_steps
      refine append_K (by assumption) (by assumption) (Upd.head (hoff.ne (by simp))) ?_ (by simp only [List.size_toArray, List.length_append, List.length_cons, List.length_nil, sizeLine_eq]; omega)
      intro h20 F20 N20
      rw [List.push_toArray] at N20
      k_steps
      refine KBw.item_K (ks := signs6) (by decide +kernel) (by decide) (bitAnd_range _ (by decide)).1 (Int.lt_of_le_of_lt (bitAnd_range _ (by decide)).2 (by decide)) ?_
      intro _ _ _ _
      k_steps
      refine append_K (by assumption) (by assumption) (Upd.head (hoff.ne (by simp))) ?_ (by simp only [List.size_toArray, List.length_append, List.length_cons, List.length_nil, sizeLine_eq]; omega)
      intro h21 F21 N21
      rw [List.push_toArray] at N21
      k_steps
      have e : b64Step ((b64St pre).1, 4, cc) n = ((b64St pre).1 ++ [sx (chStep cc n) 6, sx (chStep cc n) 0], 0, chStep cc n) := rfl
      refine kst_end (cv ++ [_] ++ [_], cn + 1 + 1, 0, _, chStep cc n, _) (by assumption) (by assumption) (List.forall_mem_cons.mpr ⟨.head _, fun _ h => nomatch h⟩) (fun p hp => .tail _ hp) rfl trivial (List.forall_mem_cons.mpr ⟨rfl, List.forall_mem_cons.mpr ⟨rfl, fun _ h => nomatch h⟩⟩) ?_ ?_
      · kst_same
      · rw [b64St_snoc, hst, e]
        exact ⟨by rw [List.append_assoc]; exact hp1.append (.cons _ _ (.cons _ _ .nil)), rfl, rfl⟩
  · intro c u h tk _ hf hp F9 N9
    dsimp only [kstB] at F9 N9
    obtain ⟨cv, cn, cb, tb, cc, tc⟩ := c
    dsimp only at hp F9 N9
    obtain ⟨hp1, hp2, hp3⟩ := hp
    rw [h3] at hp2
    subst hp2
    clear F8 N8
    have hok := b64Ok ns
    have hl1 := hp1.length
    obtain ⟨_, _, _, ok4, ok5⟩ := hok
    repeat' (first | ((fail_if_success (with_reducible show wpAny _ _ (call (Value.type "bytes") _) _ _ _)); first | (k_unfold; (try dsimp only)) | walk1 | (dsimp only; walk1)) | fail "stop")
    refine KBa.make_K (by assumption) (by assumption) rfl (News.isList (by assumption) (.head _)) hp1 ok5 (by omega) ?_
    intro h6 t6 k6 F6 N6 _
    try dsimp only
    show Back Q _ _
    exact retB (s := s) ret F6.keep rfl
end Mine
end
section
open PySem PySem.W PySem.Calls PyProof.Rows
namespace Mine
set_option maxRecDepth 100000 in
set_option maxHeartbeats 16000000 in
theorem b64_spec {w : World} {p : Program} {loose : List Str} {mean : ExcName → Option Value} {mg mb : Str → Option Value} {dp un : Nat} {gd : Option (List Code)} {cn : Str} {cs : Scope} {a : Addr} {ccd : Value} {cl : List (Str × Addr)} {outer : List Env} {A₀ : Around} {base h₀ : Heap} {L : Addr} {m : Str → Option Value} {s : Shared} {Q E : Value → Shared → Prop}
    (B : Below A₀ base outer h₀) (F : Fr h₀ L s.heap m) (X : (hd.heap_39 w.params).In h₀) (T : Top p loose mean mg mb h₀) (hk : cs.kind = .function) (hd : dp + 3 < recursionLimit) (hu : un + 30 < cLine)
    {b : Array UInt8} {t1 : Tok} {ns : List Int} (hb : KBw.bInts b = ns) (hlen : ns.length ≤ 24) (h3 : (b64St ns).2.1 = 0)
    (ret : ∀ (t : Tok) (h' : Heap) (tk' : Nat), (∀ b o, s.heap.get? b = some o → h'.get? b = some o) → Q (.bytes (byteArr (b64St ns).1) t) { s with heap := h', toks := tk' }) :
    wpAny (model PySem.Challenge.rw_nb0068_01.row.prog w) (ktrTop dp un gd cn cs L a ccd cl outer) (call (.ref 74) [.bytes b t1]) Q E s := by
  revert B F X T hk hd hu hb hlen h3 ret
  k_fill
  intro B F X T hk hd hu hb hlen h3 ret
  refine' enter_own B F X T ?kA ?kF ?kK ?k6 ?k7 ?k8 ?k9 ?kB ?_ ?c2 ?c3 ?c4 ?c5
  case kA => exact rfl
  case kF => exact rfl
  case kK => assumption
  case k6 => k_is
  case k7 => k_is
  case k8 => ktr_room
  case k9 => first | exact BindsTo.of_eq rfl | exact binds_K (by k_in) rfl (by k_is) rfl rfl rfl
  case c5 => decide
  case kB => exact locs rfl
  case c2 => exact rfl
  case c3 => exact rfl
  case c4 => exact rfl
  k_whole
  intro L' h' tk F' N' B' X' T'
  try dsimp only
  try k_fold
  clear F B X T
  w_top on
  k_with_none
  k_steps
  refine b2a_spec B' F' X' T' rfl ?_ ?_ hb hlen h3 ?_
  · omega
  · show un + 3 + 20 < cLine
    omega
  intro t5 h5 tk5 hk5
  have F5 := F'.keeps hk5
  clear F' N'
  have N5 : News s.heap L' h5 [] := News.nil
  k_steps
  dsimp only
  show Back Q _ _
  exact retB (s := s) ret (Fr.keep (by assumption)) rfl
end Mine
end
section
open PySem PySem.W PySem.Calls PyProof.Rows
namespace Mine
section
variable {prog : Program} {w : World} {A₀ A : Around} {s : Shared} {base h₀ : Heap} {outer : List Env} {L : Addr} {m mg mb : Str → Option Value} {env : Env} {K : Frag} {Q E : Value → Shared → Prop}
  {p : Program} {loose : List Str} {mean : ExcName → Option Value} {hid : List (Addr × Obj)} {cl : List (Str × Addr)} {fo : Obj}
  {name qual : Str} {params : Arguments} {body : List Stmt} {scope : Scope} {dV kV doc pm cdv ct oc : Value} {an od : Option Addr} {osl : Array (Option Value)} {f : Addr} {vs : List Value} {kw : List (Str × Value)} {binds : List (Str × Value)}

/-- the ground of a call: the heap with some objects of the caller's ledger hid, for they may turn -/
abbrev grd (h : Heap) (hid : List (Addr × Obj)) : Heap := hideAll h (hid.map (·.1))

theorem enter_hid (B : Below A₀ base outer h₀) (F : Fr h₀ L s.heap m) (N : News h₀ L s.heap hid) (hlim : h₀.NoLimit) (hA : A.frames = some (env :: outer)) (hf : env.frame = some L) (hke : env.scope.kind = .function)
    (ho : s.heap.get? f = some fo) (hd : fo.data = .func (fnX name qual params body scope cl dV kV doc pm an cdv ct)) (hcd : s.heap.CodeRec cdv qual) (hroom : A.depth < recursionLimit)
    (hbind : BindsTo s (fnX name qual params body scope cl dV kV doc pm an cdv ct) ⟨vs, kw⟩ binds) (hloc : ∀ y ∈ binds, scope.names.lookup y.1 = some .local)
    (h : ∀ L' h₁ tk, Fr (grd s.heap hid) L' h₁ (fun y => binds.reverse.lookup y) → News (grd s.heap hid) L' h₁ hid → Below A base (env :: outer) (grd s.heap hid) → h₀.StaysIn (grd s.heap hid) → Fr h₀ L (grd s.heap hid) m →
      wpAny (model prog w) (A.deeper (envX qual scope L' f cdv cl)) (execs body (envX qual scope L' f cdv cl))
        (fun fl s' => Back Q (match fl with | .ret v => v | _ => .none) s') (fun _ _ => False)
        { s with heap := h₁, toks := tk })
    (hcell : ∀ x ∈ scope.names, x.2 ≠ .cell) (hco : scope.isCoroutine = false := by rfl) (hgen : scope.isGenerator = false := by rfl) (hk : scope.kind = .function := by rfl) : wpAny (model prog w) A (call (.ref f) vs kw) Q E s := by
  refine wpAny_call ?_
  obtain ⟨FG, BG, st, _⟩ := groundX (R := fun _ _ => True) B F N hA hf hke
  refine codeAny_call_def (fd := fnX name qual params body scope cl dV kV doc pm an cdv ct) (body := body) (binds := binds) hroom ho hd (hlim.keeps F.keep) hcd rfl hbind hcell hloc (fun h₁ hns hk₁ => ?_) hco hgen hk
  exact wpAny_mono (h s.heap.objs.size h₁ _ ⟨hns, fun b o e => hk₁ b o (of_hideAll _ e), Nat.le_of_eq (hideAll_size _ _)⟩
    (fun p hp => ⟨hk₁ _ _ (N p hp).1, Nat.ne_of_lt (Heap.lt_size (N p hp).1), hideAll_none _ (List.mem_map_of_mem hp)⟩) BG st FG) (fun fl s' hq => hq) fun _ _ y => y.elim

theorem enter_hidC (B : Below A₀ base outer h₀) (F : Fr h₀ L s.heap m) (N : News h₀ L s.heap hid) (hlim : h₀.NoLimit) (hA : A.frames = some (env :: outer)) (hf : env.frame = some L) (hke : env.scope.kind = .function)
    (ho : s.heap.get? f = some fo) (hd : fo.data = .func (fnX name qual params body scope [] dV kV doc pm an cdv ct)) (hcd : s.heap.CodeRec cdv qual) (hroom : A.depth < recursionLimit)
    (hbind : BindsTo s (fnX name qual params body scope [] dV kV doc pm an cdv ct) ⟨vs, kw⟩ binds) (hkind : (binds.all fun y => scope.names.lookup y.1 == some .local || scope.names.lookup y.1 == some .cell) = true)
    (hnd : ((cellsFrom 0 scope.names []).map (·.1)).Nodup)
    (h : ∀ L' h₁ tk cells, Fr (grd s.heap hid) L' h₁ (bindL (envOfC qual scope L' f cdv).kindOf binds fun _ => none) → News (grd s.heap hid) L' h₁ (cells ++ hid) →
      CellsAre (bindC (envOfC qual scope L' f cdv).kindOf binds fun _ => none) (cellsFrom (L' + 1) scope.names []) cells → Below A base (env :: outer) (grd s.heap hid) → h₀.StaysIn (grd s.heap hid) → Fr h₀ L (grd s.heap hid) m → (∀ p ∈ hid, p.1 < L') →
      wpAny (model prog w) (A.deeper (envOfC qual scope L' f cdv)) (execs body (envOfC qual scope L' f cdv))
        (fun fl s' => Back Q (match fl with | .ret v => v | _ => .none) s') (fun _ _ => False)
        { s with heap := h₁, toks := tk })
    (hco : scope.isCoroutine = false := by rfl) (hgen : scope.isGenerator = false := by rfl) (hk : scope.kind = .function := by rfl) : wpAny (model prog w) A (call (.ref f) vs kw) Q E s := by
  refine wpAny_call ?_
  obtain ⟨FG, BG, st, _⟩ := groundX (R := fun _ _ => True) B F N hA hf hke
  refine codeAny_call_function hroom ho hd hco hgen rfl hcd (hbind _ _ _ _ ?_)
  refine wpAny_newFunctionEnv_cells hk (kindsX hkind _) fun env' he s' x => ?_
  subst he
  refine ⟨(hlim.keeps F.keep).keeps x.toInCall.keep, codeAny_func ?_⟩
  obtain ⟨h₁, tk, rfl, _⟩ := x.done
  have hk₁ := x.toInCall.keep
  obtain ⟨cells, NC, Y⟩ := Cl.news (h₀ := s.heap) (Nat.le_refl _) fun n c hm => ⟨x.cell n c (lookup_of_mem_nodup (cellsFrom_names scope.names 0 (s.heap.objs.size + 1) [] [] rfl ▸ hnd) hm), x.above n c hm⟩
  refine wpAny_mono (h s.heap.objs.size h₁ tk cells ⟨x.toInCall.ns, fun b o e => hk₁ b o (of_hideAll _ e), Nat.le_of_eq (hideAll_size _ _)⟩ (fun p hp => ?_) Y BG st FG (fun p hp => Heap.lt_size (N p hp).1)) (fun fl s' hq => hq) fun _ _ y => y.elim
  rcases List.mem_append.mp hp with hp | hp
  · refine ⟨(NC p hp).1, (NC p hp).2.1, ?_⟩
    cases q : (grd s.heap hid).get? p.1 with
    | none => rfl
    | some o => have := of_hideAll _ q; rw [(NC p hp).2.2] at this; cases this
  · exact ⟨hk₁ _ _ (N p hp).1, Nat.ne_of_lt (Heap.lt_size (N p hp).1), hideAll_none _ (List.mem_map_of_mem hp)⟩

theorem enter_hidCK (B : Below A₀ base outer h₀) (F : Fr h₀ L s.heap m) (X₀ : K.In h₀) (N : News h₀ L s.heap hid) (T : Top p loose mean mg mb h₀) (hA : A.frames = some (env :: outer)) (hf : env.frame = some L) (hke : env.scope.kind = .function)
    (ho : K.lookup f = some ⟨oc, od, .func (fnOf name qual params body scope dV kV doc pm an cdv ct), osl⟩) (hcd : codeIn K cdv qual = true) (hroom : A.depth < recursionLimit)
    (hbind : BindsTo s (fnOf name qual params body scope dV kV doc pm an cdv ct) ⟨vs, kw⟩ binds) (hkind : (binds.all fun y => scope.names.lookup y.1 == some .local || scope.names.lookup y.1 == some .cell) = true)
    (hnd : ((cellsFrom 0 scope.names []).map (·.1)).Nodup)
    (h : ∀ L' h₁ tk cells, Fr (grd s.heap hid) L' h₁ (bindL (envOfC qual scope L' f cdv).kindOf binds fun _ => none) → News (grd s.heap hid) L' h₁ (cells ++ hid) →
      CellsAre (bindC (envOfC qual scope L' f cdv).kindOf binds fun _ => none) (cellsFrom (L' + 1) scope.names []) cells → Below A base (env :: outer) (grd s.heap hid) → h₀.StaysIn (grd s.heap hid) → Fr h₀ L (grd s.heap hid) m → (∀ p ∈ hid, p.1 < L') →
      wpAny (model prog w) (A.deeper (envOfC qual scope L' f cdv)) (execs body (envOfC qual scope L' f cdv))
        (fun fl s' => Back Q (match fl with | .ret v => v | _ => .none) s') (fun _ _ => False)
        { s with heap := h₁, toks := tk })
    (hco : scope.isCoroutine = false) (hgen : scope.isGenerator = false) (hk : scope.kind = .function) : wpAny (model prog w) A (call (.ref f) vs kw) Q E s :=
  enter_hidC B F N T.nolimit hA hf hke ((X₀.keeps F.keep) _ _ ho) rfl (codeRec_of (X₀.keeps F.keep) hcd) hroom hbind hkind hnd h hco hgen hk

theorem nameX_FB {M : Model} {cn : Str} {cs : Scope} {a : Addr} {ccd : Value} {x : Str} {pos : Pos} {v : Value} {c : Addr} (F : Fr h₀ L s.heap m) (hc : cl.lookup x = some c) (hv : h₀.IsCell c (some v)) (h : Q v s)
    (hk : cs.kind = .function := by rfl) (hx : (envX cn cs L a ccd cl).kindOf x = some .free := by rfl) (hb : (x == ("__debug__" : Str)) = false := by decide) (hn : (x == ("__classdict__" : Str)) = false := by decide) :
    wpAny M A (eval (.Name x pos) (envX cn cs L a ccd cl)) Q E s :=
  let ⟨o, e, hd⟩ := hv
  wpAny_Name (wpAny_loadName_free hk hx hc ⟨o, F.keep _ _ e, hd⟩ h hn) hb
end

theorem grd_list {h : Heap} {P l : Addr} {ps : Array Value} {its : Array Value} (hP : h.get? P = some (tabObj ps)) (x : h.IsList l its) : (grd h [(P, tabObj ps)]).IsList l its := by
  obtain ⟨o, e, hc, r⟩ := x
  refine ⟨o, hideAll_get _ e ?_, hc, r⟩
  intro hm
  rw [List.mem_singleton.mp hm, hP] at e
  cases e
  cases hc

theorem fnAt_base {h₀ h : Heap} {L f : Addr} {m : Str → Option Value} {oc : Value} {od : Option Addr} {fd : FuncData} {sl : Array (Option Value)} (F : Fr h₀ L h m) (e : h₀.get? f = some ⟨oc, od, .func fd, sl⟩) : FnAt f h := ⟨oc, od, fd, sl, F.keep _ _ e⟩
theorem split_def {M : Model} {A : Around} {Q : Flow → Shared → Prop} {E : Value → Shared → Prop} {s : Shared} {name bind : Str} {params : Arguments} {body rest : List Stmt} {scope : Scope} {pos : Pos} {env : Env} (P : Arguments → List Stmt → Scope → Prop)
    (inner : P params body scope) (h : P params body scope → wpAny M A (execs (.FunctionDef name params body [] none [] scope none bind pos :: rest) env) Q E s) : wpAny M A (execs (.FunctionDef name params body [] none [] scope none bind pos :: rest) env) Q E s := h inner

theorem codeRec_hide {h : Heap} {P c : Addr} {q : Str} (x : h.CodeRec (.ref c) q) (hne : c ≠ P) : (hideAll h [P]).CodeRec (.ref c) q := by
  obtain ⟨c₂, o, vs, t, e, ho, r⟩ := x
  cases e
  exact ⟨c, o, vs, t, rfl, hideAll_get _ ho (by simpa using hne), r⟩
theorem codeRec_ne {h : Heap} {P c : Addr} {q : Str} (x : (hideAll h [P]).CodeRec (.ref c) q) : c ≠ P := by
  obtain ⟨c₂, o, vs, t, e, ho, r⟩ := x
  cases e
  rintro rfl
  rw [hideAll_none _ (by simp)] at ho
  cases ho

/-- a def's table of inner codes: none yet, or the one inner def's -/
def TabOk (h : Heap) (qual : Str) (line col : Nat) (ps : Array Value) : Prop := ps = #[] ∨ ∃ c', ps = #[rawInt line, rawInt col, .ref c'] ∧ h.CodeRec (.ref c') qual
section
variable {M : Model} {A : Around} {E : Value → Shared → Prop} {s : Shared} {h₀ : Heap} {L a c P : Addr} {m mg mb : Str → Option Value} {cn : Str} {cs : Scope} {ccd : Value} {cl : List (Str × Addr)} {news : List (Addr × Obj)} {g : Obj → List (Addr × Obj)}
  {p : Program} {loose : List Str} {mean : ExcName → Option Value} {name qual : Str} {params : Arguments} {body : List Stmt} {scope : Scope} {ps : Array Value} {pos : Pos} {firstLine : Nat} {clos : List (Str × Addr)}
theorem nest_any {Q : Value → Shared → Prop} (F : Fr h₀ L s.heap m) (N : News h₀ L s.heap news) (T : Top p loose mean mg mb h₀) (C : CodeHd h₀ c P) (hcd : ccd = .ref c) (U : UpdF P (tabObj ps) news g) (ht : TabOk h₀ qual pos.line pos.col ps)
    (hcl : closureFor scope (envX cn cs L a ccd cl) = pure clos)
    (h : ∀ f c' ctv doc h' tk, Fr h₀ L h' m → News h₀ L h' ((f, fnMade name qual params body scope clos doc ((mg "__name__").getD .none) c' ctv) :: g (tabObj #[rawInt pos.line, rawInt pos.col, .ref c'])) →
      h'.CodeRec (.ref c') qual → (∀ q ∈ news, q.1 < f) → c' ≠ P → Q (.ref f) { s with heap := h', toks := tk }) :
    wpAny M A (makeFunction name qual params (.stmts body) scope (envX cn cs L a ccd cl) [] [] [] pos firstLine) Q E s := by
  have hPm : (P, tabObj ps) ∈ news := by
    obtain ⟨own, rest, e, _⟩ := U.split
    rw [e]
    exact List.mem_append_right _ (.head _)
  rcases ht with rfl | ⟨c', rfl, hc'⟩
  · refine nest_K F N T C hcd U (by simp [TriplesOk]) (by simp [codeAmong]) hcl fun f c' oc vs t ctv doc h' tk F' N' hd hv hlt hcf => ?_
    refine h f c' ctv doc h' tk F' (fun q hq => N' q ?_) ⟨c', oc, vs, t, rfl, (N' (c', oc) (by simp)).1, hd, hv⟩ (fun q hq => Nat.lt_trans (hlt q hq) hcf) (Nat.ne_of_gt (hlt _ hPm))
    rcases List.mem_cons.mp hq with rfl | hq
    · exact .head _
    · exact List.mem_cons_of_mem _ (List.mem_cons_of_mem _ (by simpa using hq))
  · have hPn : c' ≠ P := by
      rintro rfl
      obtain ⟨c₂, oc, vs, t, e, ho, _⟩ := hc'
      cases e
      have := (N _ hPm).2.2
      rw [show (c', tabObj #[rawInt pos.line, rawInt pos.col, .ref c']).1 = c' from rfl, ho] at this
      cases this
    refine nestHit_K (c' := c') F N T C hcd hPm (by simp [TriplesOk, rawInt]) (by simp [codeAmong, rawInt]) hcl fun f ctv doc h' tk F' N' hlt => ?_
    obtain ⟨own, rest, e, hg, _⟩ := U.split
    refine h f c' ctv doc h' tk F' ?_ (hc'.keeps F'.keep) hlt hPn
    rw [hg, ← e]
    exact N'
end

/-- a call left the table as it was, or it holds a code that the call made -/
def TabNew (h : Heap) (ps ps' : Array Value) : Prop := ps' = ps ∨ ∃ a b c, ps' = #[a, b, .ref c] ∧ h.get? c = none
theorem grd_none {h : Heap} {P c : Addr} {o : Obj} (e : (grd h [(P, o)]).get? c = none) (hne : c ≠ P) : h.get? c = none := by
  cases q : h.get? c with
  | none => rfl
  | some x => rw [show (grd h [(P, o)]).get? c = some x from hideAll_get _ q (by simpa using hne)] at e; cases e
/-- a table's words, over the heap without the two tables -/
def TB (h : Heap) (qual : Str) (line col : Nat) (ps : Array Value) : Prop := TabOk (hideAll h [30, 23]) qual line col ps
theorem TabOk.keeps {h h' : Heap} {q : Str} {l c : Nat} {ps : Array Value} (x : TabOk h q l c ps) (k : ∀ b o, h.get? b = some o → h'.get? b = some o) : TabOk h' q l c ps :=
  x.imp id fun ⟨c', e, r⟩ => ⟨c', e, r.keeps k⟩
theorem hide2_up {h h' : Heap} (hk : ∀ b o, b ≠ 30 → b ≠ 23 → h.get? b = some o → h'.get? b = some o) : ∀ b o, (hideAll h [30, 23]).get? b = some o → (hideAll h' [30, 23]).get? b = some o := by
  intro b o e
  have h1 : b ∉ [30, 23] := fun hm => by rw [hideAll_none _ hm] at e; cases e
  have h2 : b ≠ 30 ∧ b ≠ 23 := by simpa using h1
  exact hideAll_get _ (hk b o h2.1 h2.2 (of_hideAll _ e)) h1
theorem TB.up {h h' : Heap} {q : Str} {l c : Nat} {ps : Array Value} (x : TB h q l c ps) (hk : ∀ b o, b ≠ 30 → b ≠ 23 → h.get? b = some o → h'.get? b = some o) : TB h' q l c ps := TabOk.keeps x (hide2_up hk)
theorem TB.at30 {h : Heap} {q : Str} {l c : Nat} {ps : Array Value} (x : TB h q l c ps) : TabOk (hideAll h [30]) q l c ps := TabOk.keeps x fun b o e => by
  have h1 : b ∉ [30, 23] := fun hm => by rw [hideAll_none _ hm] at e; cases e
  exact hideAll_get _ (of_hideAll _ e) (fun hm => h1 (by simp at hm; simp [hm]))
theorem TB.at23 {h : Heap} {q : Str} {l c : Nat} {ps : Array Value} (x : TB h q l c ps) : TabOk (hideAll h [23]) q l c ps := TabOk.keeps x fun b o e => by
  have h1 : b ∉ [30, 23] := fun hm => by rw [hideAll_none _ hm] at e; cases e
  exact hideAll_get _ (of_hideAll _ e) (fun hm => h1 (by simp at hm; simp [hm]))
theorem TB.nil {h : Heap} {q : Str} {l c : Nat} : TB h q l c #[] := .inl rfl
theorem rec_no_tab {h : Heap} {P c' : Addr} {q q2 : Str} {h2 : Heap} {l c : Nat} {ps : Array Value} (r : h.CodeRec (.ref c') q) (hP : h.get? P = some (tabObj ps)) (t : TabOk h2 q2 l c ps) : c' ≠ P := by
  rintro rfl
  obtain ⟨c₂, o, vs, tk, e, ho, hd, hv⟩ := r
  cases e
  rw [hP] at ho
  cases ho
  cases hd
  rcases t with rfl | ⟨c3, rfl, _⟩
  · simp at hv
  · simp [rawInt] at hv
theorem TB.of30 {h : Heap} {q q2 : Str} {l c l2 c2 : Nat} {ps qs : Array Value} (x : TabOk (hideAll h [30]) q l c ps) (h23 : h.get? 23 = some (tabObj qs)) (t : TB h q2 l2 c2 qs) : TB h q l c ps := by
  rcases x with rfl | ⟨c', rfl, r⟩
  · exact .inl rfl
  · have r' : h.CodeRec (.ref c') q := r.keeps fun b o e => of_hideAll _ e
    have n1 := codeRec_ne r
    have n2 := rec_no_tab r' h23 t
    obtain ⟨c₂, o, vs, tk, e, ho, rr⟩ := r'
    cases e
    exact .inr ⟨c', rfl, c', o, vs, tk, rfl, hideAll_get _ ho (by simp; exact ⟨n1, n2⟩), rr⟩
theorem TB.of23 {h : Heap} {q q2 : Str} {l c l2 c2 : Nat} {ps qs : Array Value} (x : TabOk (hideAll h [23]) q l c ps) (h30 : h.get? 30 = some (tabObj qs)) (t : TB h q2 l2 c2 qs) : TB h q l c ps := by
  rcases x with rfl | ⟨c', rfl, r⟩
  · exact .inl rfl
  · have r' : h.CodeRec (.ref c') q := r.keeps fun b o e => of_hideAll _ e
    have n1 := codeRec_ne r
    have n2 := rec_no_tab r' h30 t
    obtain ⟨c₂, o, vs, tk, e, ho, rr⟩ := r'
    cases e
    exact .inr ⟨c', rfl, c', o, vs, tk, rfl, hideAll_get _ ho (by simp; exact ⟨n2, n1⟩), rr⟩
end Mine
end
section
open PySem PySem.W PySem.Calls PyProof.Rows
namespace Mine

def dQual : Str := Str.ofString "_digits2int" ++ Str.ofString ".<locals>." ++ Str.ofString "inner"
/-- the whole number that the figures from a to b are -/
def dval (n : Int) (ns : List Int) : Nat → Nat → Int
  | _, 0 => 0
  | a, k + 1 => ns.getD a 0 + dval n ns (a + 1) k * 2 ^ n.toNat
theorem dval_add (n : Int) (ns : List Int) : ∀ (j a k : Nat), dval n ns a (j + k) = dval n ns (a + j) k * 2 ^ (j * n.toNat) + dval n ns a j
  | 0, a, k => by simp [dval]
  | j + 1, a, k => by
    rw [show j + 1 + k = (j + k) + 1 by omega]
    simp only [dval]
    rw [dval_add n ns j (a + 1) k, show a + (j + 1) = a + 1 + j by omega, show (j + 1) * n.toNat = j * n.toNat + n.toNat by rw [Nat.add_mul]; omega, Int.pow_add, Int.add_mul]
    generalize dval n ns (a + 1 + j) k = A
    generalize dval n ns (a + 1) j = B
    generalize (2 : Int) ^ n.toNat = C
    generalize (2 : Int) ^ (j * n.toNat) = D
    rw [Int.mul_assoc A D C]
    omega
theorem dval_bd {n : Int} {ns : List Int} (hn : n ≤ 8) (hb : ∀ z ∈ ns, 0 ≤ z ∧ z < 16777216) : ∀ (k a : Nat), 0 ≤ dval n ns a k ∧ dval n ns a k < 2 ^ (24 + 9 * k)
  | 0, a => by simp [dval]
  | k + 1, a => by
    have ih := dval_bd hn hb k (a + 1)
    have hz : 0 ≤ ns.getD a 0 ∧ ns.getD a 0 < 16777216 := by
      rw [List.getD_eq_getElem?_getD]
      cases h : ns[a]? with
      | none => simp
      | some z => exact hb z (List.mem_of_getElem? h)
    have hp : (0 : Int) < 2 ^ n.toNat := pow2_pos _
    have h8 : (2 : Int) ^ n.toNat ≤ 2 ^ 8 := pow2_le (by omega)
    simp only [dval]
    have h1 : 0 ≤ dval n ns (a + 1) k * 2 ^ n.toNat := Int.mul_nonneg ih.1 (by omega)
    have h2 : dval n ns (a + 1) k * 2 ^ n.toNat ≤ (2 ^ (24 + 9 * k) - 1) * 2 ^ 8 := Int.mul_le_mul (by omega) h8 (by omega) (by have := pow2_pos (24 + 9 * k); omega)
    have h3 : (2 : Int) ^ (24 + 9 * (k + 1)) = 2 ^ (24 + 9 * k) * 512 := by rw [show 24 + 9 * (k + 1) = (24 + 9 * k) + 9 by omega, Int.pow_add]; rfl
    have h4 : (16777216 : Int) ≤ 2 ^ (24 + 9 * k) := by
      have := pow2_le (a := 24) (b := 24 + 9 * k) (by omega)
      exact this
    have h5 : (2 : Int) ^ 8 = 256 := by decide
    rw [h5] at h2
    rw [h3]
    omega
theorem half_bd {x y : Int} (h : x < y) (h1 : x + 1 ≠ y) (h0 : 0 ≤ x) : x < (x + y).fdiv (2 ^ Int.toNat 1) ∧ (x + y).fdiv (2 ^ Int.toNat 1) < y := by
  rw [show ((2 : Int) ^ Int.toNat 1) = 2 from rfl, Int.fdiv_eq_ediv_of_nonneg _ (by decide)]
  omega
theorem dval_half {n : Int} {ns : List Int} {x M y : Int} (hn : 0 ≤ n) (h0 : 0 ≤ x) (h1 : x < M) (h2 : M < y) : dval n ns M.toNat (y - M).toNat * 2 ^ ((M - x) * n).toNat + dval n ns x.toNat (M - x).toNat = dval n ns x.toNat (y - x).toNat := by
  have e : (y - x).toNat = (M - x).toNat + (y - M).toNat := by omega
  have e2 : x.toNat + (M - x).toNat = M.toNat := by omega
  have e3 : ((M - x) * n).toNat = (M - x).toNat * n.toNat := by rw [Int.toNat_mul (by omega) hn]
  rw [e, dval_add, e2, e3]
theorem shift_bd {M x n : Int} (h1 : 0 ≤ M - x) (h2 : M - x ≤ 24) (h3 : 0 ≤ n) (h4 : n ≤ 8) : 0 ≤ (M - x) * n ∧ (M - x) * n ≤ 192 := by
  refine ⟨Int.mul_nonneg h1 h3, ?_⟩
  have := Int.mul_le_mul h2 h4 h3 (by omega)
  omega
theorem bits_dval {n : Int} {ns : List Int} {a k : Nat} {sh : Int} (hn : n ≤ 8) (hb : ∀ z ∈ ns, 0 ≤ z ∧ z < 16777216) (hk : k ≤ 24) (h1 : sh ≤ 192) : (Builtin.Int.intBits (dval n ns a k) : Int) + sh ≤ 2 ^ 27 := by
  have h := dval_bd (n := n) (ns := ns) hn hb k a
  have := bits_le h.1 h.2
  have e : (2 : Int) ^ 27 = 134217728 := by decide
  rw [e]
  omega

def InnerD (w : World) (p : Program) (loose : List Str) (mean : ExcName → Option Value) (mg mb : Str → Option Value) (n : Int) (ns : List Int) (vs : List Value) (params : Arguments) (body : List Stmt) (scope : Scope) : Prop :=
  ∀ (k : Nat) (qual : Str) (f c' cD cI cN l : Addr) (ctv doc pm : Value) (tn ta tb : Tok) (clos : List (Str × Addr)) (x y : Int)
    (dp un : Nat) (gd : Option (List Code)) (cn : Str) (cs : Scope) (a : Addr) (ccd : Value) (cl : List (Str × Addr)) (outer : List Env) (A₀ : Around) (base h₀ : Heap) (L : Addr) (m : Str → Option Value) (s : Shared) (Q E : Value → Shared → Prop),
    Below A₀ base outer h₀ → Fr h₀ L s.heap m → (hd.heap_39 w.params).In h₀ → Top p loose mean mg mb h₀ → cs.kind = .function → dp + k + 1 < recursionLimit → un + 10 * (k + 1) < cLine →
    s.heap.get? f = some (fnMade (Str.ofString "inner") qual params body scope clos doc pm c' ctv) → s.heap.CodeRec (.ref c') qual → clos.lookup (Str.ofString "digits") = some cD → clos.lookup (Str.ofString "inner") = some cI → clos.lookup (Str.ofString "n") = some cN →
    s.heap.IsCell cD (some (.ref l)) → s.heap.IsCell cI (some (.ref f)) → s.heap.IsCell cN (some (.int n tn)) → s.heap.IsList l vs.toArray → 0 ≤ x → x < y → y ≤ (ns.length : Int) → (y - x).toNat ≤ k →
    (∀ (t : Tok) (h' : Heap) (tk' : Nat), (∀ b o, s.heap.get? b = some o → h'.get? b = some o) → Q (.int (dval n ns x.toNat (y - x).toNat) t) { s with heap := h', toks := tk' }) →
    wpAny (model PySem.Challenge.rw_nb0068_01.row.prog w) (ktrTop dp un gd cn cs L a ccd cl outer) (call (.ref f) [.int x ta, .int y tb]) Q E s
local macro_rules | `(tactic| walk_at "eval Name") => `(tactic| (refine' nameX_FB ?F ?c ?m ?_ ?a ?b; (case a => rfl); (case b => rfl); (case F => assumption); (case c => assumption); (case m => assumption)))
local macro_rules | `(tactic| walk_at "callWith ref") => `(tactic| (refine' callWith_F ?k1 ?_; (case k1 => exact fnAt_base (by assumption) (by assumption))))
local macro_rules | `(tactic| walk_at "FnAt") => `(tactic| exact fnAt_base (by assumption) (by assumption))
set_option maxRecDepth 100000 in
set_option maxHeartbeats 16000000 in
theorem d2i_spec {w : World} {p : Program} {loose : List Str} {mean : ExcName → Option Value} {mg mb : Str → Option Value} {dp un : Nat} {gd : Option (List Code)} {cn : Str} {cs : Scope} {a : Addr} {ccd : Value} {cl : List (Str × Addr)} {outer : List Env} {A₀ : Around} {base h₀ : Heap} {L : Addr} {m : Str → Option Value} {s : Shared} {Q E : Value → Shared → Prop}
    (B : Below A₀ base outer h₀) (F : Fr h₀ L s.heap m) (X : (hd.heap_39 w.params).In h₀) (T : Top p loose mean mg mb h₀) (hk : cs.kind = .function) (hd : dp + 30 < recursionLimit) (hu : un + 300 < cLine)
    {l : Addr} {vs : List Value} {ns : List Int} {n : Int} {tn : Tok} {ps : Array Value} (hl : s.heap.IsList l vs.toArray) (hi : IntsAre vs ns) (hlen : ns.length ≤ 24) (hpos : 1 ≤ ns.length) (hn0 : 0 ≤ n) (hn8 : n ≤ 8) (hbit : ∀ z ∈ ns, 0 ≤ z ∧ z < 16777216) (NP : News h₀ L s.heap [(30, tabObj ps)]) (C : CodeHd h₀ 34 30) (ht : TabOk (grd s.heap [(30, tabObj ps)]) dQual 23 4 ps)
    (ret : ∀ (t : Tok) (h' : Heap) (tk' : Nat) (ps' : Array Value), (∀ b o, b ≠ 30 → s.heap.get? b = some o → h'.get? b = some o) → h'.get? 30 = some (tabObj ps') → TabOk (hideAll h' [30]) dQual 23 4 ps' ∧ TabNew s.heap ps ps' → Q (.int (dval n ns 0 ns.length) t) { s with heap := h', toks := tk' }) :
    wpAny (model PySem.Challenge.rw_nb0068_01.row.prog w) (ktrTop dp un gd cn cs L a ccd cl outer) (call (.ref 35) [.ref l, .int n tn]) Q E s := by
  revert B F X T hk hd hu hl hi hlen hpos hn0 hn8 hbit NP C ht ret
  k_fill
  intro B F X T hk hd hu hl hi hlen hpos hn0 hn8 hbit NP C ht ret
  refine' enter_hidCK (hid := [(30, tabObj ps)]) B F X NP T ?kA ?kF ?kK ?k6 ?k7 ?k8 ?k9 ?kB ?kN ?_ ?c2 ?c3 ?c4
  case kA => exact rfl
  case kF => exact rfl
  case kK => assumption
  case k6 => k_is
  case k7 => k_is
  case k8 => ktr_room
  case k9 => exact BindsTo.of_eq rfl
  case kB => exact rfl
  case kN => decide +kernel
  case c2 => exact rfl
  case c3 => exact rfl
  case c4 => exact rfl
  k_whole
  intro L' h' tk cells F' N' Y' B' st' FG' lt'
  have X' := X.keeps st'
  have T' := T.keeps st'
  have C' := C.keeps st'
  k_lt lt'
  have hY := PyProof.Rows.CellsAre.three Y'
  obtain ⟨o1, o2, o3, hE, d1', d2', d3'⟩ := hY
  subst hE
  clear Y'
  (try simp only [List.cons_append, List.nil_append] at N')
  try dsimp only
  try k_fold
  w_top on
  k_with_none
  refine split_def (InnerD w p loose mean mg mb n ns vs) ?inn ?_
  case inn =>
    clear ret FG' C' ht NP hl st' lt' N' F' X' T' B' F B X T C
    clear hu hd hk
    intro k
    induction k with
    | zero => intro qual f c' cD cI cN l ctv doc pm tn ta tb clos x y dp un gd cn cs a ccd cl outer A₀ base h₀ L m s Q E B F X T hk hd hu hfo hrec k1 k2 k3 i1 i2 i3 hl hx hxy hy hk; omega
    | succ k ih =>
      intro qual f c' cD cI cN l ctv doc pm tn ta tb clos x y dp un gd cn cs a ccd cl outer A₀ base h₀ L m s Q E B F X T hk hd hu hfo hrec k1 k2 k3 i1 i2 i3 hl hx hxy hy hkk ret
      refine' enter_hid (hid := []) B F News.nil T.nolimit ?kA ?kF ?kK hfo rfl hrec ?k8 ?k9 ?kB ?_ ?c5 ?c2 ?c3 ?c4
      case kA => exact rfl
      case kF => exact rfl
      case kK => assumption
      case k8 => show dp < recursionLimit; omega
      case k9 => exact BindsTo.of_eq rfl
      case c5 => decide
      case kB => exact locs rfl
      case c2 => exact rfl
      case c3 => exact rfl
      case c4 => exact rfl
      k_whole
      intro L' h' tk F' N' B' st' FG'
      have X' := X.keeps F.keep
      have T' := T.keeps F.keep
      try dsimp only
      try k_fold
      clear F B X T FG' st'
      k_steps
      · dsimp only
        show Back Q _ _
        refine retI (s := s) ret (Fr.keep (by assumption)) ?_
        rename_i hxy1
        rw [show (y - x).toNat = 1 by omega]
        simp [dval]
      · rename_i hne h6 h7 F7 N7
        obtain ⟨hM1, hM2⟩ := half_bd hxy hne hx
        generalize hM : (x + y).fdiv (2 ^ Int.toNat 1) = M at *
        obtain ⟨hs1, hs2⟩ := shift_bd (M := M) (x := x) (n := n) (by omega) (by omega) hn0 hn8
        refine ih qual f c' cD cI cN l ctv doc pm tn _ _ clos M y _ _ _ _ _ _ _ _ _ _ _ _ L' _ _ _ _ B' F7 X' T' rfl ?_ ?_ (F7.keep _ _ hfo) (hrec.keeps F7.keep) k1 k2 k3 (i1.keeps F7.keep) (i2.keeps F7.keep) (i3.keeps F7.keep) (hl.at fun o e => F7.keep l o e) (by omega) hM2 hy (by omega) ?_
        · show dp + 1 + k + 1 < recursionLimit
          omega
        · show un + 3 + 10 * (k + 1) < cLine
          omega
        intro t8 h8 tk8 hk8
        have F8 := F7.keeps hk8
        have N8 : News s.heap L' h8 [] := News.nil
        clear F7 N7
        repeat' (first | ((fail_if_success (with_reducible show wpAny _ _ (binaryOp Operator.LShift _ _) _ _ _)); first | (k_unfold; (try dsimp only)) | walk1 | (dsimp only; walk1)) | fail "stop")
        refine lshift_int hs1 (bits_dval hn8 hbit (by omega) hs2) ?_
        repeat' (first | ((fail_if_success (with_reducible show wpAny _ _ (call (Value.ref _) _) _ _ _)); first | (k_unfold; (try dsimp only)) | walk1 | (dsimp only; walk1)) | fail "stop")
        refine ih qual f c' cD cI cN l ctv doc pm tn _ _ clos x M _ _ _ _ _ _ _ _ _ _ _ _ L' _ _ _ _ B' F8 X' T' rfl ?_ ?_ (F8.keep _ _ hfo) (hrec.keeps F8.keep) k1 k2 k3 (i1.keeps F8.keep) (i2.keeps F8.keep) (i3.keeps F8.keep) (hl.at fun o e => F8.keep l o e) hx hM1 (by omega) (by omega) ?_
        · show dp + 1 + k + 1 < recursionLimit
          omega
        · show un + 3 + 10 * (k + 1) < cLine
          omega
        intro t9 h9 tk9 hk9
        have F9 := F8.keeps hk9
        clear F8 N8
        k_steps
        try dsimp only
        show Back Q _ _
        exact retI (s := s) ret F9.keep (dval_half hn0 hx hM1 hM2)
  intro hInner
  (with_reducible refine wpAny_execs_cons ?_)
  k_dflt (refine' nestDef_K ?d0 ?k0 ?a0 ?_; (case d0 => exact rfl); (case k0 => exact rfl); (case a0 => exact rfl))
  have hlg := grd_list (NP _ (.head _)).1 hl
  rcases ht with rfl | ⟨c', rfl, hrec⟩
  · k_dflt (refine' nest_K ?F ?N ?T ?C ?cd ?U ?t ?n ?cl ?_; (case F => exact F'); (case N => exact N'); (case T => exact T'); (case cd => exact rfl); (case C => exact C'); (case U => k_updF); (case t => kn_triples); (case n => kn_among); (case cl => exact rfl))
    intro f c' oc vs' t' ctv doc h5 tk5 F5 N5 d1 d2 lt1 lt2
    (try dsimp only at N5)
    k_lt lt1
    try k_lt2 lt2
    clear N' F' F B X T C
    repeat' (first | ((fail_if_success (with_reducible show wpAny _ _ (call (Value.ref _) _) _ _ _)); first | (k_unfold; (try dsimp only)) | walk1 | (dsimp only; walk1)) | fail "stop")
    rename_i o6 h6 F6 N6 d6
    (try simp only [List.nil_append] at *)
    refine hInner 24 _ f c' (L' + 1) (L' + 1 + 1 + 1) (L' + 1 + 1) l ctv doc _ tn _ _ _ 0 (ns.length : Int) _ _ _ _ _ _ _ _ _ _ _ _ L' _ _ _ _ B' F6 X' T' rfl ?_ ?_ (N6 _ (.head _)).1 ?_ rfl rfl rfl ?_ ?_ ?_ (hlg.at fun o e => F6.keep l o e) (by omega) (by omega) (by omega) (by omega) ?_
    · show dp + 1 + 24 + 1 < recursionLimit
      omega
    · show un + 3 + 10 * (24 + 1) < cLine
      omega
    · exact codeRec_news N6 (.tail _ (.head _)) d1 d2
    · exact ⟨_, (N6 (L' + 1, _) (by k_mem)).1, d3'⟩
    · exact ⟨_, (N6 (L' + 1 + 1 + 1, _) (by k_mem)).1, d6⟩
    · exact ⟨_, (N6 (L' + 1 + 1, _) (by k_mem)).1, d2'⟩
    intro t9 h9 tk9 hk9
    show Back Q _ _
    refine ret t9 h9 tk9 _ (fun b o hb e => hk9 _ _ (F6.keep b o (hideAll_get _ e (by simpa using hb)))) (hk9 _ _ (N6 (30, _) (by k_mem)).1) ⟨.inr ⟨c', rfl, ?_⟩, .inr ⟨_, _, c', rfl, grd_none (N6 _ (.tail _ (.head _))).2.2 (Nat.ne_of_gt lt1.2.2.2)⟩⟩
    exact codeRec_hide ((codeRec_news N6 (.tail _ (.head _)) d1 d2).keeps hk9) (Nat.ne_of_gt lt1.2.2.2)
  · k_dflt (refine' nestHit_K ?F ?N ?T ?C ?cd ?mem ?t ?n ?cl ?_; (case F => exact F'); (case N => exact N'); (case T => exact T'); (case cd => exact rfl); (case C => exact C'); (case mem => k_mem); (case t => kn_triples); (case n => kn_hit); (case cl => exact rfl))
    intro f ctv doc h5 tk5 F5 N5 lt1
    k_lt lt1
    clear N' F' F B X T C
    repeat' (first | ((fail_if_success (with_reducible show wpAny _ _ (call (Value.ref _) _) _ _ _)); first | (k_unfold; (try dsimp only)) | walk1 | (dsimp only; walk1)) | fail "stop")
    rename_i o6 h6 F6 N6 d6
    (try simp only [List.nil_append] at *)
    refine hInner 24 _ f c' (L' + 1) (L' + 1 + 1 + 1) (L' + 1 + 1) l ctv doc _ tn _ _ _ 0 (ns.length : Int) _ _ _ _ _ _ _ _ _ _ _ _ L' _ _ _ _ B' F6 X' T' rfl ?_ ?_ (N6 _ (.head _)).1 ?_ rfl rfl rfl ?_ ?_ ?_ (hlg.at fun o e => F6.keep l o e) (by omega) (by omega) (by omega) (by omega) ?_
    · show dp + 1 + 24 + 1 < recursionLimit
      omega
    · show un + 3 + 10 * (24 + 1) < cLine
      omega
    · exact hrec.keeps F6.keep
    · exact ⟨_, (N6 (L' + 1, _) (by k_mem)).1, d3'⟩
    · exact ⟨_, (N6 (L' + 1 + 1 + 1, _) (by k_mem)).1, d6⟩
    · exact ⟨_, (N6 (L' + 1 + 1, _) (by k_mem)).1, d2'⟩
    intro t9 h9 tk9 hk9
    show Back Q _ _
    refine ret t9 h9 tk9 _ (fun b o hb e => hk9 _ _ (F6.keep b o (hideAll_get _ e (by simpa using hb)))) (hk9 _ _ (N6 (30, _) (by k_mem)).1) ⟨.inr ⟨c', rfl, ?_⟩, .inl rfl⟩
    exact codeRec_hide ((hrec.keeps F6.keep).keeps hk9) (codeRec_ne hrec)
end Mine
end
section
open PySem PySem.W PySem.Calls PyProof.Rows
namespace Mine
/-- the figures of x to the base 2^n laid from place a on -/
def writeDig (n : Int) : Nat → Nat → Int → List Int → List Int
  | 0, _, _, ns => ns
  | k + 1, a, x, ns => writeDig n k (a + 1) (x / 2 ^ n.toNat) (ns.set a (x % 2 ^ n.toNat))
theorem pow2_cast (k : Nat) : (2 : Int) ^ k = ((2 ^ k : Nat) : Int) := by push_cast; rfl
theorem mod_div {x : Int} (hx : 0 ≤ x) (a b : Nat) : x % 2 ^ (a + b) / 2 ^ a = x / 2 ^ a % 2 ^ b := by
  obtain ⟨m, rfl⟩ := Int.eq_ofNat_of_zero_le hx
  rw [Int.pow_add, pow2_cast, pow2_cast b]
  norm_cast
  exact Nat.mod_mul_right_div_self m (2 ^ a) (2 ^ b)
theorem mod_mod {x : Int} (a b : Nat) : x % 2 ^ (a + b) % 2 ^ a = x % 2 ^ a := by
  rw [Int.pow_add]
  exact Int.emod_emod_of_dvd x (Int.dvd_mul_right _ _)
theorem div_div {x : Int} (a b : Nat) : x / 2 ^ a / 2 ^ b = x / 2 ^ (a + b) := by
  rw [Int.pow_add, Int.ediv_ediv_of_nonneg (Int.le_of_lt (pow2_pos a))]
theorem writeDig_add (n : Int) : ∀ (j a k : Nat) (x : Int) (ns : List Int), 0 ≤ x → writeDig n (j + k) a x ns = writeDig n k (a + j) (x / 2 ^ (j * n.toNat)) (writeDig n j a (x % 2 ^ (j * n.toNat)) ns)
  | 0, a, k, x, ns, hx => by simp [writeDig]
  | j + 1, a, k, x, ns, hx => by
    rw [show j + 1 + k = (j + k) + 1 by omega]
    simp only [writeDig]
    have hd : 0 ≤ x / 2 ^ n.toNat := Int.ediv_nonneg hx (Int.le_of_lt (pow2_pos _))
    rw [writeDig_add n j (a + 1) k _ _ hd, show (j + 1) * n.toNat = n.toNat + j * n.toNat by rw [Nat.add_mul]; omega, mod_div hx, mod_mod, div_div, show a + (j + 1) = a + 1 + j by omega]
theorem writeDig_len (n : Int) : ∀ (k a : Nat) (x : Int) (ns : List Int), (writeDig n k a x ns).length = ns.length
  | 0, _, _, _ => rfl
  | k + 1, a, x, ns => by simp only [writeDig]; rw [writeDig_len n k]; simp
theorem and_high (m s : Nat) : m &&& (m / 2 ^ s * 2 ^ s) = m / 2 ^ s * 2 ^ s := by
  apply Nat.eq_of_testBit_eq
  intro i
  rw [Nat.testBit_and, Nat.testBit_mul_two_pow, Nat.testBit_div_two_pow]
  by_cases h : s ≤ i
  · simp [h]
  · simp [h]
theorem xor_low {x : Int} {s : Nat} (hx : 0 ≤ x) : Builtin.bitXor x (x.fdiv (2 ^ s) * 2 ^ s) = x % 2 ^ s := by
  have hp := pow2_pos s
  rw [Int.fdiv_eq_ediv_of_nonneg _ (Int.le_of_lt hp), bitXor_and]
  have ha : Builtin.bitAnd x (x / 2 ^ s * 2 ^ s) = x / 2 ^ s * 2 ^ s := by
    obtain ⟨m, rfl⟩ := Int.eq_ofNat_of_zero_le hx
    rw [pow2_cast]
    have e : ((m : Int) / ((2 ^ s : Nat) : Int)) * ((2 ^ s : Nat) : Int) = ((m / 2 ^ s * 2 ^ s : Nat) : Int) := by push_cast; rfl
    rw [e]
    have h1 : (0 : Int) ≤ (m : Int) := by omega
    have h2 : (0 : Int) ≤ ((m / 2 ^ s * 2 ^ s : Nat) : Int) := by omega
    unfold Builtin.bitAnd
    simp only [h1, h2, decide_true]
    rw [Int.toNat_natCast, Int.toNat_natCast, and_high]
  rw [ha]
  have := Int.mul_ediv_add_emod x (2 ^ s)
  rw [Int.mul_comm] at this
  omega
end Mine
end
section
open PySem PySem.W PySem.Calls PyProof.Rows
namespace Mine

def iQual : Str := Str.ofString "_int2digits" ++ Str.ofString ".<locals>." ++ Str.ofString "inner"
theorem count_bd {b : Nat} {n : Int} (h1 : 1 ≤ n) (hb : b ≤ 192) : 0 ≤ ((b : Int) + n - 1).fdiv n ∧ ((b : Int) + n - 1).fdiv n ≤ 200 := by
  rw [Int.fdiv_eq_ediv_of_nonneg _ (by omega)]
  have hq : 0 ≤ ((b : Int) + n - 1) / n := Int.ediv_nonneg (by omega) (by omega)
  refine ⟨hq, ?_⟩
  exact Int.le_trans (Int.ediv_le_of_le_mul (b := 192) (by omega) (by omega)) (by decide)
theorem count_ge {x n : Int} (h1 : 1 ≤ n) (hx : 0 ≤ x) : x < 2 ^ ((((Builtin.Int.intBits x : Int) + n - 1).fdiv n - 0).toNat * n.toNat) := by
  rw [Int.fdiv_eq_ediv_of_nonneg _ (by omega)]
  have h := Int.mul_ediv_add_emod ((Builtin.Int.intBits x : Int) + n - 1) n
  have hr := Int.emod_lt_of_pos ((Builtin.Int.intBits x : Int) + n - 1) (show 0 < n by omega)
  have hq : 0 ≤ ((Builtin.Int.intBits x : Int) + n - 1) / n := Int.ediv_nonneg (by omega) (by omega)
  generalize ((Builtin.Int.intBits x : Int) + n - 1) / n = q at *
  have hb : (Builtin.Int.intBits x : Int) ≤ n * q := by omega
  have hb2 : Builtin.Int.intBits x ≤ (q - 0).toNat * n.toNat := by
    rw [Int.sub_zero, ← Int.toNat_mul hq (by omega), Int.mul_comm]
    omega
  have h2 := intBits_le_iff.mp hb2
  have : ((x.natAbs : Nat) : Int) < ((2 ^ ((q - 0).toNat * n.toNat) : Nat) : Int) := Int.ofNat_lt.mpr h2
  rw [Int.natAbs_of_nonneg hx] at this
  rw [pow2_cast]
  exact this
theorem count_pos {x n : Int} (h1 : 1 ≤ n) (hx : x ≠ 0) : 0 < ((Builtin.Int.intBits x : Int) + n - 1).fdiv n := by
  rw [Int.fdiv_eq_ediv_of_nonneg _ (by omega)]
  have hb : 1 ≤ Builtin.Int.intBits x := by
    unfold Builtin.Int.intBits
    rw [if_neg (by simpa using hx)]
    omega
  exact Int.le_ediv_of_mul_le (by omega) (by omega)
theorem count_zero {n : Int} (h1 : 1 ≤ n) : ((Builtin.Int.intBits 0 : Int) + n - 1).fdiv n = 0 := by
  rw [Int.fdiv_eq_ediv_of_nonneg _ (by omega)]
  exact Int.ediv_eq_zero_of_lt (by show 0 ≤ (0 : Int) + n - 1; omega) (by show (0 : Int) + n - 1 < n; omega)
theorem half_bd0 {x y : Int} (h : x < y) (h0 : 0 ≤ x) : x ≤ (x + y).fdiv (2 ^ Int.toNat 1) ∧ (x + y).fdiv (2 ^ Int.toNat 1) < y := by
  rw [show ((2 : Int) ^ Int.toNat 1) = 2 from rfl, Int.fdiv_eq_ediv_of_nonneg _ (by decide)]
  omega
theorem half_bd2 {x y : Int} (h : x < y) (h1 : x + 1 ≠ y) (h0 : 0 ≤ x) : x < (x + y).fdiv (2 ^ Int.toNat 1) ∧ (x + y).fdiv (2 ^ Int.toNat 1) < y := by
  rw [show ((2 : Int) ^ Int.toNat 1) = 2 from rfl, Int.fdiv_eq_ediv_of_nonneg _ (by decide)]
  omega
theorem shift_bd2 {M x n : Int} (h1 : 0 ≤ M - x) (h2 : M - x ≤ 200) (h3 : 0 ≤ n) (h4 : n ≤ 8) : 0 ≤ (M - x) * n ∧ (M - x) * n ≤ 1600 := by
  refine ⟨Int.mul_nonneg h1 h3, ?_⟩
  have := Int.mul_le_mul h2 h4 h3 (by omega)
  omega
theorem upper_bits {x : Int} {k s : Nat} {sh : Int} (h0 : 0 ≤ x) (h1 : x < 2 ^ k) (hk : k ≤ 1600) (hs : sh ≤ 1600) : (Builtin.Int.intBits (x.fdiv (2 ^ s)) : Int) + sh ≤ 2 ^ 27 := by
  have hb := bits_le h0 h1
  have h2 : Builtin.Int.intBits (x.fdiv (2 ^ s)) ≤ k := intBits_fdiv_le hb
  have e : (2 : Int) ^ 27 = 134217728 := by decide
  rw [e]
  omega
theorem hide_up {h h' : Heap} {D : Addr} (hk : ∀ b o, b ≠ D → h.get? b = some o → h'.get? b = some o) : ∀ b o, (hideAll h [D]).get? b = some o → (hideAll h' [D]).get? b = some o := by
  intro b o e
  have hb : b ≠ D := by
    rintro rfl
    rw [hideAll_none _ (by simp)] at e
    cases e
  exact hideAll_get _ (hk b o hb (of_hideAll _ e)) (by simpa using hb)
theorem split_def1 {M : Model} {A : Around} {Q : Flow → Shared → Prop} {E : Value → Shared → Prop} {s : Shared} {name bind : Str} {params : Arguments} {body : List Stmt} {scope : Scope} {pos : Pos} {env : Env} (P : Arguments → List Stmt → Scope → Prop)
    (inner : P params body scope) (h : P params body scope → wpAny M A (exec (.FunctionDef name params body [] none [] scope none bind pos) env) Q E s) : wpAny M A (exec (.FunctionDef name params body [] none [] scope none bind pos) env) Q E s := h inner
theorem low_bd {x : Int} {s : Nat} (hx : 0 ≤ x) : 0 ≤ Builtin.bitXor x (x.fdiv (2 ^ s) * 2 ^ s) ∧ Builtin.bitXor x (x.fdiv (2 ^ s) * 2 ^ s) < 2 ^ s := by
  rw [xor_low hx]
  exact ⟨Int.emod_nonneg _ (pow2_ne s), Int.emod_lt_of_pos _ (pow2_pos s)⟩
theorem up_bd {x : Int} {i j : Nat} (hx : 0 ≤ x) (h : x < 2 ^ (i + j)) : 0 ≤ x.fdiv (2 ^ i) ∧ x.fdiv (2 ^ i) < 2 ^ j := by
  rw [Int.fdiv_eq_ediv_of_nonneg _ (Int.le_of_lt (pow2_pos i))]
  refine ⟨Int.ediv_nonneg hx (Int.le_of_lt (pow2_pos i)), ?_⟩
  refine Int.ediv_lt_of_lt_mul (pow2_pos i) ?_
  rw [Int.mul_comm, ← Int.pow_add]
  exact h
theorem writeDig_one {n x : Int} {a b : Int} {ns : List Int} (hab : a + 1 = b) (h0 : 0 ≤ x) (h1 : x < 2 ^ ((b - a).toNat * n.toNat)) : ns.set a.toNat x = writeDig n (b - a).toNat a.toNat x ns := by
  have e : (b - a).toNat = 1 := by omega
  rw [e] at h1 ⊢
  rw [Nat.one_mul] at h1
  simp only [writeDig]
  rw [Int.emod_eq_of_lt h0 h1]
theorem writeDig_half {n x a M b : Int} {ns : List Int} (hn : 0 ≤ n) (h0 : 0 ≤ x) (ha : 0 ≤ a) (h1 : a < M) (h2 : M < b) :
    writeDig n (b - M).toNat M.toNat (x.fdiv (2 ^ ((M - a) * n).toNat)) (writeDig n (M - a).toNat a.toNat (Builtin.bitXor x (x.fdiv (2 ^ ((M - a) * n).toNat) * 2 ^ ((M - a) * n).toNat)) ns) = writeDig n (b - a).toNat a.toNat x ns := by
  rw [xor_low h0, Int.fdiv_eq_ediv_of_nonneg _ (Int.le_of_lt (pow2_pos _)), Int.toNat_mul (by omega) hn, show (b - a).toNat = (M - a).toNat + (b - M).toNat by omega, writeDig_add n _ _ _ _ _ h0, show a.toNat + (M - a).toNat = M.toNat by omega]
theorem grd_up {g h : Heap} {D L : Addr} {m : Str → Option Value} (F : Fr g L h m) (hD : g.get? D = none) : ∀ b o, g.get? b = some o → (hideAll h [D]).get? b = some o := fun b o q =>
  hideAll_get _ (F.keep b o q) (by
    intro hm
    rw [List.mem_singleton.mp hm, hD] at q
    cases q)
theorem notIn1 {a D : Nat} (h : a ≠ D) : a ∉ [D] := by simpa using h
def InnerI (w : World) (p : Program) (loose : List Str) (mean : ExcName → Option Value) (mg mb : Str → Option Value) (n : Int) (params : Arguments) (body : List Stmt) (scope : Scope) : Prop :=
  ∀ (k : Nat) (qual : Str) (f c' cA cI cN D : Addr) (ctv doc pm : Value) (tn tx ta tb : Tok) (clos : List (Str × Addr)) (x a b : Int) (cv : List Value) (ns : List Int) (e : Nat)
    (dp un : Nat) (gd : Option (List Code)) (cn : Str) (cs : Scope) (ac : Addr) (ccd : Value) (cl : List (Str × Addr)) (outer : List Env) (A₀ : Around) (base h₀ : Heap) (L : Addr) (m : Str → Option Value) (s : Shared) (Q E : Value → Shared → Prop),
    Below A₀ base outer h₀ → Fr h₀ L s.heap m → (hd.heap_39 w.params).In h₀ → News h₀ L s.heap [(D, W.listOf cv.toArray e)] → Top p loose mean mg mb h₀ → cs.kind = .function → dp + k + 1 < recursionLimit → un + 10 * (k + 1) < cLine →
    (hideAll s.heap [D]).get? f = some (fnMade (Str.ofString "inner") qual params body scope clos doc pm c' ctv) → (hideAll s.heap [D]).CodeRec (.ref c') qual → clos.lookup (Str.ofString "a_digits") = some cA → clos.lookup (Str.ofString "inner") = some cI → clos.lookup (Str.ofString "n") = some cN →
    (hideAll s.heap [D]).IsCell cA (some (.ref D)) → (hideAll s.heap [D]).IsCell cI (some (.ref f)) → (hideAll s.heap [D]).IsCell cN (some (.int n tn)) → IntsAre cv ns → 0 ≤ a → a < b → b ≤ (ns.length : Int) → (b - a).toNat ≤ k → ns.length ≤ 200 → 0 ≤ x → x < 2 ^ ((b - a).toNat * n.toNat) →
    (∀ (h' : Heap) (tk' : Nat) (cv' : List Value), (∀ b o, b ≠ D → s.heap.get? b = some o → h'.get? b = some o) → h'.get? D = some (W.listOf cv'.toArray e) → IntsAre cv' (writeDig n (b - a).toNat a.toNat x ns) → Q .none { s with heap := h', toks := tk' }) →
    wpAny (model PySem.Challenge.rw_nb0068_01.row.prog w) (ktrTop dp un gd cn cs L ac ccd cl outer) (call (.ref f) [.int x tx, .int a ta, .int b tb]) Q E s
local macro_rules | `(tactic| walk_at "eval Name") => `(tactic| (refine' nameX_FB ?F ?c ?m ?_ ?a ?b; (case a => rfl); (case b => rfl); (case F => assumption); (case c => assumption); (case m => assumption)))
local macro_rules | `(tactic| walk_at "callWith ref") => `(tactic| (refine' callWith_F ?k1 ?_; (case k1 => exact fnAt_base (by assumption) (by assumption))))
local macro_rules | `(tactic| walk_at "FnAt") => `(tactic| exact fnAt_base (by assumption) (by assumption))
set_option maxRecDepth 100000 in
set_option maxHeartbeats 16000000 in
theorem i2d_spec {w : World} {p : Program} {loose : List Str} {mean : ExcName → Option Value} {mg mb : Str → Option Value} {dp un : Nat} {gd : Option (List Code)} {cn : Str} {cs : Scope} {a : Addr} {ccd : Value} {cl : List (Str × Addr)} {outer : List Env} {A₀ : Around} {base h₀ : Heap} {L : Addr} {m : Str → Option Value} {s : Shared} {Q E : Value → Shared → Prop}
    (B : Below A₀ base outer h₀) (F : Fr h₀ L s.heap m) (X : (hd.heap_39 w.params).In h₀) (T : Top p loose mean mg mb h₀) (hk : cs.kind = .function) (hd : dp + 230 < recursionLimit) (hu : un + 2300 < cLine)
    {x n : Int} {tx tn : Tok} {ps : Array Value} (hx : 0 ≤ x) (hn0 : 1 ≤ n) (hn8 : n ≤ 8) (hbits : Builtin.Int.intBits x ≤ 192) (NP : News h₀ L s.heap [(23, tabObj ps)]) (C : CodeHd h₀ 27 23) (ht : TabOk (grd s.heap [(23, tabObj ps)]) iQual 8 4 ps)
    (ret : ∀ (r : Addr) (ws : List Value) (e : Nat) (h' : Heap) (tk' : Nat) (ps' : Array Value), (∀ b o, b ≠ 23 → s.heap.get? b = some o → h'.get? b = some o) → h'.get? 23 = some (tabObj ps') → TabOk (hideAll h' [23]) iQual 8 4 ps' ∧ TabNew s.heap ps ps' → s.heap.get? r = none → h'.get? r = some (W.listOf ws.toArray e) → IntsAre ws (writeDig n (((Builtin.Int.intBits x : Int) + n - 1).fdiv n).toNat 0 x (List.replicate (((Builtin.Int.intBits x : Int) + n - 1).fdiv n).toNat 0)) → Q (.ref r) { s with heap := h', toks := tk' }) :
    wpAny (model PySem.Challenge.rw_nb0068_01.row.prog w) (ktrTop dp un gd cn cs L a ccd cl outer) (call (.ref 28) [.int x tx, .int n tn]) Q E s := by
  revert B F X T hk hd hu hx hn0 hn8 hbits NP C ht ret
  k_fill
  intro B F X T hk hd hu hx hn0 hn8 hbits NP C ht ret
  refine' enter_hidCK (hid := [(23, tabObj ps)]) B F X NP T ?kA ?kF ?kK ?k6 ?k7 ?k8 ?k9 ?kB ?kN ?_ ?c2 ?c3 ?c4
  case kA => exact rfl
  case kF => exact rfl
  case kK => assumption
  case k6 => k_is
  case k7 => k_is
  case k8 => ktr_room
  case k9 => exact BindsTo.of_eq rfl
  case kB => exact rfl
  case kN => decide +kernel
  case c2 => exact rfl
  case c3 => exact rfl
  case c4 => exact rfl
  k_whole
  intro L' h' tk cells F' N' Y' B' st' FG' lt'
  have X' := X.keeps st'
  have T' := T.keeps st'
  have C' := C.keeps st'
  k_lt lt'
  have hY := PyProof.Rows.CellsAre.three Y'
  obtain ⟨o1, o2, o3, hE, d1', d2', d3'⟩ := hY
  subst hE
  clear Y'
  (try simp only [List.cons_append, List.nil_append] at N')
  try dsimp only
  try k_fold
  w_top on
  k_with_none
  repeat' (first | ((fail_if_success (with_reducible show wpAny _ _ (binaryOp Operator.Mult _ _) _ _ _)); first | (k_unfold; (try dsimp only)) | walk1 | (dsimp only; walk1)) | fail "stop")
  obtain ⟨hM0, hM1⟩ := count_bd hn0 hbits
  generalize hM : ((Builtin.Int.intBits x : Int) + n - 1).fdiv n = M at *
  repeat' (first | ((fail_if_success (with_reducible show wpAny _ _ (exec (Stmt.FunctionDef _ _ _ _ _ _ _ _ _ _) _) _ _ _)); first | (k_unfold; (try dsimp only)) | walk1 | (dsimp only; walk1)) | fail "stop")
  refine split_def1 (InnerI w p loose mean mg mb n) ?inn ?_
  case inn =>
    clear ret FG' C' ht NP st' lt' X' T' B' F B X T C
    clear hu hd hk hM hM0 hM1 hbits hx d1' d2' d3'
    intro k
    induction k with
    | zero => intro qual f c' cA cI cN D ctv doc pm tn tx ta tb clos x a b cv ns e dp un gd cn cs ac ccd cl outer A₀ base h₀ L m s Q E B F X N T hk hd hu hfo hrec k1 k2 k3 i1 i2 i3 hi hx hxy hy hk; omega
    | succ k ih =>
      intro qual f c' cA cI cN D ctv doc pm tn tx ta tb clos x a b cv ns e dp un gd cn cs ac ccd cl outer A₀ base h₀ L m s Q E B F X N T hk hd hu hfo hrec k1 k2 k3 i1 i2 i3 hi ha hab hb hkk hL hx0 hx1 ret
      have hgr : ∀ b o, (hideAll s.heap [D]).get? b = some o → s.heap.get? b = some o := fun b o q => of_hideAll _ q
      refine' enter_hid (hid := [(D, W.listOf cv.toArray e)]) B F N T.nolimit ?kA ?kF ?kK (hgr _ _ hfo) rfl (hrec.keeps hgr) ?k8 ?k9 ?kB ?_ ?c5 ?c2 ?c3 ?c4
      case kA => exact rfl
      case kF => exact rfl
      case kK => assumption
      case k8 => show dp < recursionLimit; omega
      case k9 => exact BindsTo.of_eq rfl
      case c5 => decide
      case kB => exact locs rfl
      case c2 => exact rfl
      case c3 => exact rfl
      case c4 => exact rfl
      k_whole
      intro L' h' tk F' N' B' st' FG'
      have X' := X.keeps st'
      have T' := T.keeps st'
      try dsimp only
      try k_fold
      clear F B X T FG' st' N
      obtain ⟨hM0, hM2⟩ := half_bd0 hab ha
      obtain ⟨hs1, hs2⟩ := shift_bd2 (M := (a + b).fdiv (2 ^ Int.toNat 1)) (x := a) (n := n) (by omega) (by omega) (by omega) hn8
      repeat' (first | ((fail_if_success (with_reducible show wpAny _ _ (binaryOp Operator.LShift _ _) _ _ _)); first | (k_unfold; (try dsimp only)) | walk1 | (dsimp only; walk1)) | fail "stop")
      · rename_i hab1 h7 F7 N7 hi7 _ _
        dsimp only
        show Back Q _ _
        refine ret _ _ _ (fun b o hb e => F7.keep b o (hideAll_get _ e (by simpa using hb))) (N7 _ (.head _)).1 ?_
        rw [← writeDig_one hab1 hx0 hx1]
        exact hi7
      · rename_i hab1 h5 h6 h7 F7 N7
        obtain ⟨hM1, _⟩ := half_bd2 hab hab1 ha
        generalize hMM : (a + b).fdiv (2 ^ Int.toNat 1) = M at *
        have hsz : (b - a).toNat * n.toNat ≤ 1600 := by
          have := Nat.mul_le_mul (show (b - a).toNat ≤ 200 by omega) (show n.toNat ≤ 8 by omega)
          omega
        have hsp : x < 2 ^ (((M - a) * n).toNat + (b - M).toNat * n.toNat) := by
          rw [Int.toNat_mul (by omega) (by omega), ← Nat.add_mul, show (M - a).toNat + (b - M).toNat = (b - a).toNat by omega]
          exact hx1
        obtain ⟨hu0, hu1⟩ := up_bd hx0 hsp
        obtain ⟨hl0, hl1⟩ := low_bd (s := ((M - a) * n).toNat) hx0
        have hl2 : Builtin.bitXor x (x.fdiv (2 ^ ((M - a) * n).toNat) * 2 ^ ((M - a) * n).toNat) < 2 ^ ((M - a).toNat * n.toNat) := by
          rw [← Int.toNat_mul (by omega : 0 ≤ M - a) (by omega : 0 ≤ n)]
          exact hl1
        clear hl1
        refine lshift_int hs1 (upper_bits hx0 hx1 hsz hs2) ?_
        repeat' (first | ((fail_if_success (with_reducible show wpAny _ _ (call (Value.ref _) _) _ _ _)); first | (k_unfold; (try dsimp only)) | walk1 | (dsimp only; walk1)) | fail "stop")
        rename_i h8 F8 N8
        have up8 := grd_up F8 (N8 _ (.head _)).2.2
        refine ih qual f c' cA cI cN D ctv doc pm tn _ _ _ clos _ a M cv ns e _ _ _ _ _ _ _ _ _ _ _ _ L' _ _ _ _ B' F8 X' N8 T' rfl ?_ ?_ (up8 _ _ hfo) (hrec.keeps up8) k1 k2 k3 (i1.keeps up8) (i2.keeps up8) (i3.keeps up8) hi ha hM1 (by omega) (by omega) hL hl0 hl2 ?_
        · show dp + 1 + k + 1 < recursionLimit
          omega
        · show un + 3 + 10 * (k + 1) < cLine
          omega
        intro h9 tk9 cv9 hk9 hD9 hi9
        have F9 := LCg.fr_but F8 (fun b o hb e => hk9 b o (by simpa using hb) e) (Ne.symm (N8 _ (.head _)).2.1) (N8 _ (.head _)).2.2
        have N9 : News (grd s.heap [(D, W.listOf cv.toArray e)]) L' h9 [(D, W.listOf cv9.toArray e)] := List.forall_mem_cons.mpr ⟨⟨hD9, (N8 _ (.head _)).2⟩, fun _ h => nomatch h⟩
        have hlw := writeDig_len n (M - a).toNat a.toNat (Builtin.bitXor x (x.fdiv (2 ^ ((M - a) * n).toNat) * 2 ^ ((M - a) * n).toNat)) ns
        clear F8 N8 hi
        repeat' (first | ((fail_if_success (with_reducible show wpAny _ _ (call (Value.ref _) _) _ _ _)); first | (k_unfold; (try dsimp only)) | walk1 | (dsimp only; walk1)) | fail "stop")
        have up9 := grd_up F9 (N9 _ (.head _)).2.2
        refine ih qual f c' cA cI cN D ctv doc pm tn _ _ _ clos _ M b cv9 _ e _ _ _ _ _ _ _ _ _ _ _ _ L' _ _ _ _ B' F9 X' N9 T' rfl ?_ ?_ (up9 _ _ hfo) (hrec.keeps up9) k1 k2 k3 (i1.keeps up9) (i2.keeps up9) (i3.keeps up9) hi9 (by omega) hM2 (by rw [hlw]; exact hb) (by omega) (by rw [hlw]; exact hL) hu0 hu1 ?_
        · show dp + 1 + k + 1 < recursionLimit
          omega
        · show un + 3 + 10 * (k + 1) < cLine
          omega
        intro h10 tk10 cv10 hk10 hD10 hi10
        k_steps
        try dsimp only
        show Back Q _ _
        rw [writeDig_half (by omega) hx0 ha hM1 hM2] at hi10
        exact ret _ _ _ (fun b o hb e => hk10 b o hb (F9.keep b o (hideAll_get _ e (by simpa using hb)))) hD10 hi10
  intro hInner
  k_dflt (refine' nestDef_K ?d0 ?k0 ?a0 ?_; (case d0 => exact rfl); (case k0 => exact rfl); (case a0 => exact rfl))
  rename_i l0 hA ltA D hD iD nD s1 e1 e2 e3 ltD h4 o4 F4 N4 d4
  have hI0 : IntsAre (List.replicate M.toNat [Value.int 0 tk]).flatten (List.replicate M.toNat 0) := by
    have e : (List.replicate M.toNat [(0 : Int)]).flatten = List.replicate M.toNat 0 := by simp
    exact e ▸ iD
  have hlen0 : (List.replicate M.toNat [Value.int 0 tk]).flatten.length = M.toNat := by rw [hI0.length]; simp
  rcases ht with rfl | ⟨c', rfl, hrec⟩
  · k_dflt (refine' nest_K ?qF ?qN ?qT ?qC ?qcd ?qU ?qt ?qn ?qcl ?_; (case qF => exact F4); (case qN => exact N4); (case qT => exact T'); (case qcd => exact rfl); (case qC => exact C'); (case qU => k_updF); (case qt => kn_triples); (case qn => kn_among); (case qcl => exact rfl))
    intro f c' oc vs' t' ctv doc h5 tk5 F5 N5 d1 d2 lt1 lt2
    (try dsimp only at N5)
    k_lt lt1
    k_lt2 lt2
    clear N4 F4 F B X T C
    repeat' (first | ((fail_if_success (with_reducible show wpAny _ _ (call (Value.ref _) _) _ _ _)); first | (k_unfold; (try dsimp only)) | walk1 | (dsimp only; walk1)) | fail "stop")
    · rename_i h6 o6 F6 N6 d6 hxn
      (try simp only [List.nil_append])
      have hnD : (nD : Int) = M := by have := e3 hM0; omega
      have hMp : 0 < M := hM ▸ count_pos hn0 hxn
      have hxb : x < 2 ^ (((nD : Int) - 0).toNat * n.toNat) := by rw [hnD, ← hM]; exact count_ge hn0 hx
      have ND : News (grd s.heap [(23, tabObj #[])]) L' h6 [(D, W.listOf (List.replicate M.toNat [Value.int 0 tk]).flatten.toArray 0)] := List.forall_mem_cons.mpr ⟨N6 _ (.tail _ (.tail _ (.head _))), fun _ h => nomatch h⟩
      have hgD : (grd s.heap [(23, tabObj #[])]).get? D = none := (ND _ (.head _)).2.2
      have hsD : s.heap.get? D = none := by
        cases q : s.heap.get? D with
        | none => rfl
        | some o => rw [show (grd s.heap [(23, tabObj #[])]).get? D = some o from hideAll_get _ q (notIn1 (D := 23) (a := D) (by omega))] at hgD; cases hgD
      have hcr : h6.CodeRec (.ref c') iQual := codeRec_news N6 (.tail _ (.head _)) d1 d2
      have hcD : c' ≠ D := Nat.ne_of_gt lt1.1
      have hcN := grd_none (N6 _ (.tail _ (.head _))).2.2 (Nat.ne_of_gt lt1.2.2.2.2.2)
      refine hInner 200 _ f c' (L' + 1 + 1) (L' + 1 + 1 + 1) (L' + 1) D ctv doc _ tn tx _ _ _ x 0 (nD : Int) _ _ 0 _ _ _ _ _ _ _ _ _ _ _ _ L' _ _ _ _ B' F6 X' ND T' rfl ?_ ?_ (hideAll_get _ (N6 _ (.head _)).1 (notIn1 (by omega))) (codeRec_hide hcr hcD) rfl rfl rfl
        ⟨_, hideAll_get _ (N6 _ (.tail _ (.tail _ (.tail _ (.tail _ (.tail _ (.head _))))))).1 (notIn1 (by omega)), d4⟩ ⟨_, hideAll_get _ (N6 _ (.tail _ (.tail _ (.tail _ (.tail _ (.head _)))))).1 (notIn1 (by omega)), d6⟩ ⟨_, hideAll_get _ (N6 _ (.tail _ (.tail _ (.tail _ (.tail _ (.tail _ (.tail _ (.head _)))))))).1 (notIn1 (by omega)), d3'⟩
        hI0 (by omega) (by omega) (by rw [List.length_replicate]; omega) (by omega) (by rw [List.length_replicate]; omega) hx hxb ?_
      · show dp + 1 + 200 + 1 < recursionLimit
        omega
      · show un + 3 + 10 * (200 + 1) < cLine
        omega
      intro h9 tk9 cv9 hk9 hD9 hi9
      have F9 := LCg.fr_but F6 (fun b o hb e => hk9 b o (by simpa using hb) e) (Ne.symm (ND _ (.head _)).2.1) hgD
      have N9 : News (grd s.heap [(23, tabObj #[])]) L' h9 [(L' + 1 + 1, o4)] := List.forall_mem_cons.mpr ⟨⟨hk9 _ _ (neN (by omega)) (N6 _ (.tail _ (.tail _ (.tail _ (.tail _ (.tail _ (.head _))))))).1, (N6 _ (.tail _ (.tail _ (.tail _ (.tail _ (.tail _ (.head _))))))).2⟩, fun _ h => nomatch h⟩
      have h23 := hk9 _ _ (neN (by omega)) (N6 _ (.tail _ (.tail _ (.tail _ (.tail _ (.tail _ (.tail _ (.tail _ (.head _))))))))).1
      have hcr9 : h9.CodeRec (.ref c') iQual := by
        obtain ⟨c2, oc2, vs2, t2, q1, q2, q3⟩ := hcr
        cases q1
        exact ⟨c', oc2, vs2, t2, rfl, hk9 _ _ hcD q2, q3⟩
      have hkeep : ∀ b o, b ≠ 23 → s.heap.get? b = some o → h9.get? b = some o := fun b o hb q => hk9 b o (fun e => by rw [e, hsD] at q; cases q) (F6.keep b o (hideAll_get _ q (by simpa using hb)))
      clear F6 N6
      k_steps
      try dsimp only
      show Back Q _ _
      rw [show ((nD : Int) - 0).toNat = M.toNat by omega] at hi9
      exact ret D cv9 0 h9 _ _ hkeep h23 ⟨.inr ⟨c', rfl, codeRec_hide hcr9 (Nat.ne_of_gt lt1.2.2.2.2.2)⟩, .inr ⟨_, _, c', rfl, hcN⟩⟩ hsD hD9 hi9
    · rename_i h6 o6 F6 N6 d6 hxn
      subst hxn
      have hMz : M = 0 := hM ▸ count_zero hn0
      have hgD : (grd s.heap [(23, tabObj #[])]).get? D = none := (N6 _ (.tail _ (.tail _ (.head _)))).2.2
      have hsD : s.heap.get? D = none := by
        cases q : s.heap.get? D with
        | none => rfl
        | some o => rw [show (grd s.heap [(23, tabObj #[])]).get? D = some o from hideAll_get _ q (notIn1 (D := 23) (a := D) (by omega))] at hgD; cases hgD
      have hcr : h6.CodeRec (.ref c') iQual := codeRec_news N6 (.tail _ (.head _)) d1 d2
      try dsimp only
      show Back Q _ _
      refine ret D _ 0 h6 _ _ (fun b o hb q => F6.keep b o (hideAll_get _ q (by simpa using hb))) (N6 _ (.tail _ (.tail _ (.tail _ (.tail _ (.tail _ (.tail _ (.tail _ (.head _))))))))).1 ⟨.inr ⟨c', rfl, codeRec_hide hcr (Nat.ne_of_gt lt1.2.2.2.2.2)⟩, .inr ⟨_, _, c', rfl, grd_none (N6 _ (.tail _ (.head _))).2.2 (Nat.ne_of_gt lt1.2.2.2.2.2)⟩⟩ hsD (N6 _ (.tail _ (.tail _ (.head _)))).1 ?_
      rw [hMz] at hI0 ⊢
      exact hI0
  · k_dflt (refine' nestHit_K ?qF ?qN ?qT ?qC ?qcd ?qmem ?qt ?qn ?qcl ?_; (case qF => exact F4); (case qN => exact N4); (case qT => exact T'); (case qcd => exact rfl); (case qC => exact C'); (case qmem => k_mem); (case qt => kn_triples); (case qn => kn_hit); (case qcl => exact rfl))
    intro f ctv doc h5 tk5 F5 N5 lt1
    k_lt lt1
    clear N4 F4 F B X T C
    repeat' (first | ((fail_if_success (with_reducible show wpAny _ _ (call (Value.ref _) _) _ _ _)); first | (k_unfold; (try dsimp only)) | walk1 | (dsimp only; walk1)) | fail "stop")
    · rename_i h6 o6 F6 N6 d6 hxn
      (try simp only [List.nil_append])
      have hnD : (nD : Int) = M := by have := e3 hM0; omega
      have hMp : 0 < M := hM ▸ count_pos hn0 hxn
      have hxb : x < 2 ^ (((nD : Int) - 0).toNat * n.toNat) := by rw [hnD, ← hM]; exact count_ge hn0 hx
      have ND : News (grd s.heap [(23, tabObj #[rawInt (8 : Nat), rawInt (4 : Nat), .ref c'])]) L' h6 [(D, W.listOf (List.replicate M.toNat [Value.int 0 tk]).flatten.toArray 0)] := List.forall_mem_cons.mpr ⟨N6 _ (.tail _ (.head _)), fun _ h => nomatch h⟩
      have hgD : (grd s.heap [(23, tabObj #[rawInt (8 : Nat), rawInt (4 : Nat), .ref c'])]).get? D = none := (ND _ (.head _)).2.2
      have hsD : s.heap.get? D = none := by
        cases q : s.heap.get? D with
        | none => rfl
        | some o => rw [show (grd s.heap [(23, tabObj #[rawInt (8 : Nat), rawInt (4 : Nat), .ref c'])]).get? D = some o from hideAll_get _ q (notIn1 (D := 23) (a := D) (by omega))] at hgD; cases hgD
      have hcr : h6.CodeRec (.ref c') iQual := hrec.keeps F6.keep
      have hcD : c' ≠ D := fun e => by obtain ⟨c2, oc2, vs2, t2, q1, q2, q3⟩ := hrec; cases q1; rw [show (grd s.heap [(23, tabObj #[rawInt (8 : Nat), rawInt (4 : Nat), .ref c'])]).get? c' = none from e ▸ hgD] at q2; cases q2
      refine hInner 200 _ f c' (L' + 1 + 1) (L' + 1 + 1 + 1) (L' + 1) D ctv doc _ tn tx _ _ _ x 0 (nD : Int) _ _ 0 _ _ _ _ _ _ _ _ _ _ _ _ L' _ _ _ _ B' F6 X' ND T' rfl ?_ ?_ (hideAll_get _ (N6 _ (.head _)).1 (notIn1 (by omega))) (codeRec_hide hcr hcD) rfl rfl rfl
        ⟨_, hideAll_get _ (N6 _ (.tail _ (.tail _ (.tail _ (.tail _ (.head _)))))).1 (notIn1 (by omega)), d4⟩ ⟨_, hideAll_get _ (N6 _ (.tail _ (.tail _ (.tail _ (.head _))))).1 (notIn1 (by omega)), d6⟩ ⟨_, hideAll_get _ (N6 _ (.tail _ (.tail _ (.tail _ (.tail _ (.tail _ (.head _))))))).1 (notIn1 (by omega)), d3'⟩
        hI0 (by omega) (by omega) (by rw [List.length_replicate]; omega) (by omega) (by rw [List.length_replicate]; omega) hx hxb ?_
      · show dp + 1 + 200 + 1 < recursionLimit
        omega
      · show un + 3 + 10 * (200 + 1) < cLine
        omega
      intro h9 tk9 cv9 hk9 hD9 hi9
      have F9 := LCg.fr_but F6 (fun b o hb e => hk9 b o (by simpa using hb) e) (Ne.symm (ND _ (.head _)).2.1) hgD
      have N9 : News (grd s.heap [(23, tabObj #[rawInt (8 : Nat), rawInt (4 : Nat), .ref c'])]) L' h9 [(L' + 1 + 1, o4)] := List.forall_mem_cons.mpr ⟨⟨hk9 _ _ (neN (by omega)) (N6 _ (.tail _ (.tail _ (.tail _ (.tail _ (.head _)))))).1, (N6 _ (.tail _ (.tail _ (.tail _ (.tail _ (.head _)))))).2⟩, fun _ h => nomatch h⟩
      have h23 := hk9 _ _ (neN (by omega)) (N6 _ (.tail _ (.tail _ (.tail _ (.tail _ (.tail _ (.tail _ (.head _)))))))).1
      have hcr9 : h9.CodeRec (.ref c') iQual := by
        obtain ⟨c2, oc2, vs2, t2, q1, q2, q3⟩ := hcr
        cases q1
        exact ⟨c', oc2, vs2, t2, rfl, hk9 _ _ hcD q2, q3⟩
      have hkeep : ∀ b o, b ≠ 23 → s.heap.get? b = some o → h9.get? b = some o := fun b o hb q => hk9 b o (fun e => by rw [e, hsD] at q; cases q) (F6.keep b o (hideAll_get _ q (by simpa using hb)))
      clear F6 N6
      k_steps
      try dsimp only
      show Back Q _ _
      rw [show ((nD : Int) - 0).toNat = M.toNat by omega] at hi9
      exact ret D cv9 0 h9 _ _ hkeep h23 ⟨.inr ⟨c', rfl, codeRec_hide hcr9 (codeRec_ne hrec)⟩, .inl rfl⟩ hsD hD9 hi9
    · rename_i h6 o6 F6 N6 d6 hxn
      subst hxn
      have hMz : M = 0 := hM ▸ count_zero hn0
      have hgD : (grd s.heap [(23, tabObj #[rawInt (8 : Nat), rawInt (4 : Nat), .ref c'])]).get? D = none := (N6 _ (.tail _ (.head _))).2.2
      have hsD : s.heap.get? D = none := by
        cases q : s.heap.get? D with
        | none => rfl
        | some o => rw [show (grd s.heap [(23, tabObj #[rawInt (8 : Nat), rawInt (4 : Nat), .ref c'])]).get? D = some o from hideAll_get _ q (notIn1 (D := 23) (a := D) (by omega))] at hgD; cases hgD
      have hcr : h6.CodeRec (.ref c') iQual := hrec.keeps F6.keep
      try dsimp only
      show Back Q _ _
      refine ret D _ 0 h6 _ _ (fun b o hb q => F6.keep b o (hideAll_get _ q (by simpa using hb))) (N6 _ (.tail _ (.tail _ (.tail _ (.tail _ (.tail _ (.tail _ (.head _)))))))).1 ⟨.inr ⟨c', rfl, codeRec_hide hcr (codeRec_ne hrec)⟩, .inl rfl⟩ hsD (N6 _ (.tail _ (.head _))).1 ?_
      rw [hMz] at hI0 ⊢
      exact hI0
end Mine
end
section
open PySem PySem.W PySem.Calls PyProof.Rows
namespace Mine
/-- what a call made joins the ledger -/
theorem news_more {h₀ h h' : Heap} {L r : Addr} {m : Str → Option Value} {o : Obj} {news : List (Addr × Obj)} (F : Fr h₀ L h m) (N : News h₀ L h news) (hk : ∀ b o, h.get? b = some o → h'.get? b = some o) (hr : h.get? r = none) (hg : h'.get? r = some o) : News h₀ L h' ((r, o) :: news) := by
  intro p hp
  rcases List.mem_cons.mp hp with rfl | hp
  · refine ⟨hg, ?_, ?_⟩
    · rintro rfl
      obtain ⟨ob, es, ep, e, _⟩ := F.ns
      rw [e] at hr
      cases hr
    · cases q : h₀.get? r with
      | none => rfl
      | some x => have := F.keep _ _ q; rw [hr] at this; cases this
  · exact ⟨hk _ _ (N p hp).1, (N p hp).2⟩
/-- the same where the ledger has moved already -/
theorem news_add {h₀ h h' : Heap} {L r : Addr} {m : Str → Option Value} {o : Obj} {news : List (Addr × Obj)} (F : Fr h₀ L h m) (N : News h₀ L h' news) (hr : h.get? r = none) (hg : h'.get? r = some o) : News h₀ L h' ((r, o) :: news) := by
  intro p hp
  rcases List.mem_cons.mp hp with rfl | hp
  · refine ⟨hg, ?_, ?_⟩
    · rintro rfl
      obtain ⟨ob, es, ep, e, _⟩ := F.ns
      rw [e] at hr
      cases hr
    · cases q : h₀.get? r with
      | none => rfl
      | some x => have := F.keep _ _ q; rw [hr] at this; cases this
  · exact N p hp
/-- one object of the ledger turned by a call -/
theorem news_turn {h₀ h h' : Heap} {L P : Addr} {o o' : Obj} {pre post : List (Addr × Obj)} (N : News h₀ L h (pre ++ (P, o) :: post)) (hk : ∀ b x, b ≠ P → h.get? b = some x → h'.get? b = some x) (hP : h'.get? P = some o') (hne : ∀ p ∈ pre ++ post, p.1 ≠ P) : News h₀ L h' (pre ++ (P, o') :: post) := by
  intro p hp
  rcases List.mem_append.mp hp with q | q
  · have n := N p (List.mem_append_left _ q)
    exact ⟨hk _ _ (hne p (List.mem_append_left _ q)) n.1, n.2⟩
  · rcases List.mem_cons.mp q with rfl | q
    · exact ⟨hP, (N (P, o) (List.mem_append_right _ (.head _))).2⟩
    · have n := N p (List.mem_append_right _ (.tail _ q))
      exact ⟨hk _ _ (hne p (List.mem_append_right _ q)) n.1, n.2⟩
def NoTab (o : Obj) : Prop := ∀ h q l c ps, TabOk h q l c ps → o ≠ tabObj ps
theorem noTab_list {its : Array Value} {n : Nat} : NoTab (W.listOf its n) := fun _ _ _ _ ps _ e => by cases e
theorem noTab_cell {o : Obj} {v : Option Value} (hd : o.data = .cell v) : NoTab o := fun _ _ _ _ ps _ e => by
  rw [e] at hd
  cases hd
/-- the ledger of the law: what it made, then the two tables -/
structure Led (h₀ : Heap) (L : Addr) (h : Heap) (m : Str → Option Value) (pre : List (Addr × Obj)) (p q : Array Value) : Prop where
  F : Fr h₀ L h m
  N : News h₀ L h (pre ++ [(30, tabObj p), (23, tabObj q)])
  np : ∀ x ∈ pre, NoTab x.2
  t30 : TB h dQual 23 4 p
  t23 : TB h iQual 8 4 q
theorem Led.ne30 {h₀ h : Heap} {L : Addr} {m : Str → Option Value} {pre : List (Addr × Obj)} {p q : Array Value} (Z : Led h₀ L h m pre p q) : ∀ x ∈ pre ++ [(23, tabObj q)], x.1 ≠ 30 := by
  intro x hx e
  rcases List.mem_append.mp hx with hx | hx
  · have h1 := (Z.N x (List.mem_append_left _ hx)).1
    have h2 := (Z.N (30, tabObj p) (by simp)).1
    rw [e] at h1
    rw [h1] at h2
    exact Z.np x hx _ _ _ _ p Z.t30 (Option.some.inj h2)
  · rw [List.mem_singleton.mp hx] at e
    cases e
theorem Led.ne23 {h₀ h : Heap} {L : Addr} {m : Str → Option Value} {pre : List (Addr × Obj)} {p q : Array Value} (Z : Led h₀ L h m pre p q) : ∀ x ∈ (pre ++ [(30, tabObj p)]) ++ [], x.1 ≠ 23 := by
  intro x hx e
  rw [List.append_nil] at hx
  rcases List.mem_append.mp hx with hx | hx
  · have h1 := (Z.N x (List.mem_append_left _ hx)).1
    have h2 := (Z.N (23, tabObj q) (by simp)).1
    rw [e] at h1
    rw [h1] at h2
    exact Z.np x hx _ _ _ _ q Z.t23 (Option.some.inj h2)
  · rw [List.mem_singleton.mp hx] at e
    cases e
/-- a contract that only grows the heap -/
theorem Led.more {h₀ h h' : Heap} {L r : Addr} {m : Str → Option Value} {pre : List (Addr × Obj)} {p q : Array Value} {o : Obj} (Z : Led h₀ L h m pre p q) (ho : NoTab o) (hk : ∀ b o, h.get? b = some o → h'.get? b = some o) (hr : h.get? r = none) (hg : h'.get? r = some o) : Led h₀ L h' m ((r, o) :: pre) p q :=
  ⟨Z.F.keeps hk, news_more Z.F Z.N hk hr hg, List.forall_mem_cons.mpr ⟨ho, Z.np⟩, Z.t30.up fun b o _ _ => hk b o, Z.t23.up fun b o _ _ => hk b o⟩
theorem Led.grown {h₀ h h' : Heap} {L : Addr} {m : Str → Option Value} {pre : List (Addr × Obj)} {p q : Array Value} (Z : Led h₀ L h m pre p q) (hk : ∀ b o, h.get? b = some o → h'.get? b = some o) : Led h₀ L h' m pre p q :=
  ⟨Z.F.keeps hk, Z.N.grown hk, Z.np, Z.t30.up fun b o _ _ => hk b o, Z.t23.up fun b o _ _ => hk b o⟩
theorem Led.turn30 {h₀ h h' : Heap} {L : Addr} {m : Str → Option Value} {pre : List (Addr × Obj)} {p q p' : Array Value} (Z : Led h₀ L h m pre p q) (hL : L ≠ 30) (hk : ∀ b x, b ≠ 30 → h.get? b = some x → h'.get? b = some x) (hP : h'.get? 30 = some (tabObj p')) (ht : TabOk (hideAll h' [30]) dQual 23 4 p') : Led h₀ L h' m pre p' q := by
  have n30 := (Z.N (30, tabObj p) (by simp)).2.2
  have N' : News h₀ L h' (pre ++ [(30, tabObj p'), (23, tabObj q)]) := news_turn Z.N hk hP Z.ne30
  have t23 : TB h' iQual 8 4 q := Z.t23.up fun b o h1 _ => hk b o h1
  exact ⟨LCg.fr_but Z.F (fun b o hb e => hk b o (by simpa using hb) e) hL n30, N', Z.np, .of30 ht (N' (23, tabObj q) (by simp)).1 t23, t23⟩
theorem Led.turn23 {h₀ h h' : Heap} {L : Addr} {m : Str → Option Value} {pre : List (Addr × Obj)} {p q q' : Array Value} (Z : Led h₀ L h m pre p q) (hL : L ≠ 23) (hk : ∀ b x, b ≠ 23 → h.get? b = some x → h'.get? b = some x) (hP : h'.get? 23 = some (tabObj q')) (ht : TabOk (hideAll h' [23]) iQual 8 4 q') : Led h₀ L h' m pre p q' := by
  have n23 := (Z.N (23, tabObj q) (by simp)).2.2
  have N0 : News h₀ L h ((pre ++ [(30, tabObj p)]) ++ (23, tabObj q) :: []) := by
    have := Z.N
    rwa [show pre ++ [(30, tabObj p), (23, tabObj q)] = (pre ++ [(30, tabObj p)]) ++ (23, tabObj q) :: [] by simp] at this
  have N' : News h₀ L h' (pre ++ [(30, tabObj p), (23, tabObj q')]) := by
    have := news_turn N0 hk hP Z.ne23
    rwa [show (pre ++ [(30, tabObj p)]) ++ (23, tabObj q') :: [] = pre ++ [(30, tabObj p), (23, tabObj q')] by simp] at this
  have t30 : TB h' dQual 23 4 p := Z.t30.up fun b o _ h1 => hk b o h1
  exact ⟨LCg.fr_but Z.F (fun b o hb e => hk b o (by simpa using hb) e) hL n23, N', Z.np, t30, .of23 ht (N' (30, tabObj p) (by simp)).1 t30⟩
theorem d2i_law {w : World} {p : Program} {loose : List Str} {mean : ExcName → Option Value} {mg mb : Str → Option Value} {dp un : Nat} {gd : Option (List Code)} {cn : Str} {cs : Scope} {a : Addr} {ccd : Value} {cl : List (Str × Addr)} {outer : List Env} {A₀ : Around} {base h₀ : Heap} {L : Addr} {m : Str → Option Value} {s : Shared} {Q E : Value → Shared → Prop}
    (B : Below A₀ base outer h₀) (X : (hd.heap_39 w.params).In h₀) (T : Top p loose mean mg mb h₀) (hk : cs.kind = .function) (hd : dp + 30 < recursionLimit) (hu : un + 300 < cLine)
    {l : Addr} {vs : List Value} {ns : List Int} {n : Int} {t : Tok} {p30 p23 : Array Value} {pre : List (Addr × Obj)} {e : Nat} (Z : Led h₀ L s.heap m pre p30 p23) (hl : (l, W.listOf vs.toArray e) ∈ pre) (hi : IntsAre vs ns) (hlen : ns.length ≤ 24) (h1 : 1 ≤ ns.length) (hn0 : 0 ≤ n) (hn8 : n ≤ 8) (hbit : ∀ z ∈ ns, 0 ≤ z ∧ z < 16777216) (C : CodeHd h₀ 34 30) (hL : 30 < L)
    (ret : ∀ (t : Tok) (h' : Heap) (tk' : Nat) (p' : Array Value), Led h₀ L h' m pre p' p23 → TabNew s.heap p30 p' → Q (.int (dval n ns 0 ns.length) t) { s with heap := h', toks := tk' }) :
    wpAny (model PySem.Challenge.rw_nb0068_01.row.prog w) (ktrTop dp un gd cn cs L a ccd cl outer) (call (.ref 35) [.ref l, .int n t]) Q E s := by
  have n30 := Z.N (30, tabObj p30) (by simp)
  refine d2i_spec B Z.F X T hk hd hu (PySem.IsL.isList (n := e) (Z.N _ (List.mem_append_left _ hl)).1) hi hlen h1 hn0 hn8 hbit (kst_newsOf Z.N (by simp)) C Z.t30.at30 ?_
  intro t9 h9 tk9 ps9 hk9 hP9 ht9
  exact ret t9 h9 tk9 ps9 (Z.turn30 (Nat.ne_of_gt hL) hk9 hP9 ht9.1) ht9.2
theorem i2d_law {w : World} {p : Program} {loose : List Str} {mean : ExcName → Option Value} {mg mb : Str → Option Value} {dp un : Nat} {gd : Option (List Code)} {cn : Str} {cs : Scope} {a : Addr} {ccd : Value} {cl : List (Str × Addr)} {outer : List Env} {A₀ : Around} {base h₀ : Heap} {L : Addr} {m : Str → Option Value} {s : Shared} {Q E : Value → Shared → Prop}
    (B : Below A₀ base outer h₀) (X : (hd.heap_39 w.params).In h₀) (T : Top p loose mean mg mb h₀) (hk : cs.kind = .function) (hd : dp + 230 < recursionLimit) (hu : un + 2300 < cLine)
    {x n : Int} {tx tn : Tok} {p30 p23 : Array Value} {pre : List (Addr × Obj)} (Z : Led h₀ L s.heap m pre p30 p23) (hx : 0 ≤ x) (hn0 : 1 ≤ n) (hn8 : n ≤ 8) (hbits : Builtin.Int.intBits x ≤ 192) (C : CodeHd h₀ 27 23) (hL : 23 < L)
    (ret : ∀ (r : Addr) (ws : List Value) (e : Nat) (h' : Heap) (tk' : Nat) (q' : Array Value), Led h₀ L h' m ((r, W.listOf ws.toArray e) :: pre) p30 q' → TabNew s.heap p23 q' → IntsAre ws (writeDig n (((Builtin.Int.intBits x : Int) + n - 1).fdiv n).toNat 0 x (List.replicate (((Builtin.Int.intBits x : Int) + n - 1).fdiv n).toNat 0)) → Q (.ref r) { s with heap := h', toks := tk' }) :
    wpAny (model PySem.Challenge.rw_nb0068_01.row.prog w) (ktrTop dp un gd cn cs L a ccd cl outer) (call (.ref 28) [.int x tx, .int n tn]) Q E s := by
  refine i2d_spec B Z.F X T hk hd hu hx hn0 hn8 hbits (kst_newsOf Z.N (by simp)) C Z.t23.at23 ?_
  intro r ws e h9 tk9 ps9 hk9 hP9 ht9 hr hg hi
  have Z' := Z.turn23 (Nat.ne_of_gt hL) hk9 hP9 ht9.1
  refine ret r ws e h9 tk9 ps9 ⟨Z'.F, news_add Z.F Z'.N hr hg, List.forall_mem_cons.mpr ⟨noTab_list, Z'.np⟩, Z'.t30, Z'.t23⟩ ht9.2 hi
def Kept (o : Obj) : Prop := NoTab o ∧ ∀ v, o.data ≠ .cell v
theorem kept_list {its : Array Value} {n : Nat} : Kept (W.listOf its n) := ⟨noTab_list, fun v e => by cases e⟩
/-- what a table says of its code's object, whatever else the heap holds -/
def Rp (h₀ : Heap) (c : Addr) (o : Obj) (q : Str) (l col : Nat) (ps : Array Value) : Prop := ∀ h : Heap, (∀ b o, h₀.get? b = some o → h.get? b = some o) → h.get? c = some o → TB h q l col ps
theorem Rp.nil {h₀ : Heap} {c : Addr} {o : Obj} {q : Str} {l col : Nat} : Rp h₀ c o q l col #[] := fun _ _ _ => TB.nil
theorem Rp.made {h₀ h : Heap} {L k : Addr} {o : Obj} {m : Str → Option Value} {q : Str} {l col : Nat} {ps : Array Value} (F : Fr h₀ L h m) (N : News h₀ L h [(k, o)]) (ho : Kept o) (t : TB h q l col ps) : ∃ k' o', News h₀ L h [(k', o')] ∧ Kept o' ∧ Rp h₀ k' o' q l col ps ∧ (k' = k ∨ ∃ a b, ps = #[a, b, .ref k']) := by
  rcases t with rfl | ⟨c, rfl, c₂, oc, vs, tk, e, hg, hd, hv⟩
  · exact ⟨k, o, N, ho, fun _ _ _ => .inl rfl, .inl rfl⟩
  · cases e
    have h1 : c ∉ [30, 23] := fun hm => by rw [hideAll_none _ hm] at hg; cases hg
    have hg' := of_hideAll _ hg
    cases q0 : h₀.get? c with
    | some x =>
      have hx := F.keep _ _ q0
      rw [hg'] at hx
      cases hx
      exact ⟨k, o, N, ho, fun h2 hk _ => .inr ⟨c, rfl, c, oc, vs, tk, rfl, hideAll_get _ (hk _ _ q0) h1, hd, hv⟩, .inl rfl⟩
    | none =>
      refine ⟨c, oc, ?_, ?_, fun h2 hk e2 => .inr ⟨c, rfl, c, oc, vs, tk, rfl, hideAll_get _ e2 h1, hd, hv⟩, .inr ⟨_, _, rfl⟩⟩
      · intro x hx
        cases List.mem_singleton.mp hx
        refine ⟨hg', ?_, q0⟩
        rintro rfl
        obtain ⟨ob, es, ep, e, e2, _⟩ := F.ns
        rw [hg'] at e
        cases e
        rw [hd] at e2
        cases e2
      · refine ⟨fun _ _ _ _ qs t e => ?_, fun v e => by rw [hd] at e; cases e⟩
        rw [e] at hd
        cases hd
        rcases t with rfl | ⟨c3, rfl, _⟩
        · simp at hv
        · simp [rawInt] at hv
theorem d2i_lawR {w : World} {p : Program} {loose : List Str} {mean : ExcName → Option Value} {mg mb : Str → Option Value} {dp un : Nat} {gd : Option (List Code)} {cn : Str} {cs : Scope} {a : Addr} {ccd : Value} {cl : List (Str × Addr)} {outer : List Env} {A₀ : Around} {base h₀ : Heap} {L : Addr} {m : Str → Option Value} {s : Shared} {Q E : Value → Shared → Prop}
    (B : Below A₀ base outer h₀) (F : Fr h₀ L s.heap m) (X : (hd.heap_39 w.params).In h₀) (T : Top p loose mean mg mb h₀) (hk : cs.kind = .function) (hd : dp + 30 < recursionLimit) (hu : un + 300 < cLine)
    {l : Addr} {vs : List Value} {ns : List Int} {n : Int} {t : Tok} {p30 p23 : Array Value} {k1 k2 : Addr} {o1 o2 : Obj} {pre : List (Addr × Obj)} {e : Nat} (N : News h₀ L s.heap (pre ++ [(k1, o1), (k2, o2), (30, tabObj p30), (23, tabObj p23)])) (np : ∀ x ∈ pre, NoTab x.2) (n1 : Kept o1) (n2 : Kept o2) (R1 : Rp h₀ k1 o1 dQual 23 4 p30) (R2 : Rp h₀ k2 o2 iQual 8 4 p23)
    (hl : (l, W.listOf vs.toArray e) ∈ pre) (hi : IntsAre vs ns) (hlen : ns.length ≤ 24) (h1 : 1 ≤ ns.length) (hn0 : 0 ≤ n) (hn8 : n ≤ 8) (hbit : ∀ z ∈ ns, 0 ≤ z ∧ z < 16777216) (C : CodeHd h₀ 34 30) (hL : 30 < L)
    (ret : ∀ (t : Tok) (h' : Heap) (tk' : Nat) (p' : Array Value) (k' : Addr) (o' : Obj), Fr h₀ L h' m → News h₀ L h' (pre ++ [(k', o'), (k2, o2), (30, tabObj p'), (23, tabObj p23)]) → Kept o' → Rp h₀ k' o' dQual 23 4 p' → (∀ I o, s.heap.get? I = some o → k1 ≠ I → k2 ≠ I → k' ≠ I) → Q (.int (dval n ns 0 ns.length) t) { s with heap := h', toks := tk' }) :
    wpAny (model PySem.Challenge.rw_nb0068_01.row.prog w) (ktrTop dp un gd cn cs L a ccd cl outer) (call (.ref 35) [.ref l, .int n t]) Q E s := by
  have Z : Led h₀ L s.heap m (pre ++ [(k1, o1), (k2, o2)]) p30 p23 := ⟨F, kst_newsOf N (by simp; try grind), fun x hx => by
    rcases List.mem_append.mp hx with hx | hx
    · exact np x hx
    · rcases List.mem_cons.mp hx with rfl | hx
      · exact n1.1
      · cases List.mem_singleton.mp hx; exact n2.1, R1 _ F.keep (N (k1, o1) (by simp)).1, R2 _ F.keep (N (k2, o2) (by simp)).1⟩
  refine d2i_law B X T hk hd hu Z (List.mem_append_left _ hl) hi hlen h1 hn0 hn8 hbit C hL ?_
  intro t9 h9 tk9 p9 Z9 new9
  have key : ∃ k' o', News h₀ L h9 [(k', o')] ∧ Kept o' ∧ Rp h₀ k' o' dQual 23 4 p9 ∧ (∀ I o, s.heap.get? I = some o → k1 ≠ I → k2 ≠ I → k' ≠ I) := by
    rcases new9 with rfl | ⟨a, b, c, e9, hc⟩
    · exact ⟨k1, o1, kst_newsOf Z9.N (by simp), n1, R1, fun _ _ _ h _ => h⟩
    · obtain ⟨k', o', N', ho', R', w⟩ := Rp.made (k := k2) (o := o2) Z9.F (kst_newsOf Z9.N (by simp)) n2 Z9.t30
      refine ⟨k', o', N', ho', R', fun I o hI _ h2 => ?_⟩
      rcases w with rfl | ⟨a', b', e⟩
      · exact h2
      · rw [e9] at e
        have ec : c = k' := by injection e with e; injection e with _ e; injection e with _ e; injection e with e; injection e
        rintro rfl
        rw [← ec, hc] at hI
        cases hI
  obtain ⟨k', o', N', ho', R', fr⟩ := key
  refine ret t9 h9 tk9 p9 k' o' Z9.F ?_ ho' R' fr
  intro x hx
  have : x ∈ [(k', o')] ∨ x ∈ pre ++ [(k1, o1), (k2, o2)] ++ [(30, tabObj p9), (23, tabObj p23)] := by
    simp only [List.mem_append, List.mem_cons, List.not_mem_nil, or_false] at hx ⊢
    grind
  rcases this with h | h
  · exact N' x h
  · exact Z9.N x h
theorem i2d_lawR {w : World} {p : Program} {loose : List Str} {mean : ExcName → Option Value} {mg mb : Str → Option Value} {dp un : Nat} {gd : Option (List Code)} {cn : Str} {cs : Scope} {a : Addr} {ccd : Value} {cl : List (Str × Addr)} {outer : List Env} {A₀ : Around} {base h₀ : Heap} {L : Addr} {m : Str → Option Value} {s : Shared} {Q E : Value → Shared → Prop}
    (B : Below A₀ base outer h₀) (F : Fr h₀ L s.heap m) (X : (hd.heap_39 w.params).In h₀) (T : Top p loose mean mg mb h₀) (hk : cs.kind = .function) (hd : dp + 230 < recursionLimit) (hu : un + 2300 < cLine)
    {x n : Int} {tx tn : Tok} {p30 p23 : Array Value} {k1 k2 : Addr} {o1 o2 : Obj} {pre : List (Addr × Obj)} (N : News h₀ L s.heap (pre ++ [(k1, o1), (k2, o2), (30, tabObj p30), (23, tabObj p23)])) (np : ∀ x ∈ pre, NoTab x.2) (n1 : Kept o1) (n2 : Kept o2) (R1 : Rp h₀ k1 o1 dQual 23 4 p30) (R2 : Rp h₀ k2 o2 iQual 8 4 p23)
    (hx : 0 ≤ x) (hn0 : 1 ≤ n) (hn8 : n ≤ 8) (hbits : Builtin.Int.intBits x ≤ 192) (C : CodeHd h₀ 27 23) (hL : 23 < L)
    (ret : ∀ (r : Addr) (ws : List Value) (e : Nat) (h' : Heap) (tk' : Nat) (q' : Array Value) (k' : Addr) (o' : Obj), Fr h₀ L h' m → News h₀ L h' ((r, W.listOf ws.toArray e) :: (pre ++ [(k1, o1), (k', o'), (30, tabObj p30), (23, tabObj q')])) → Kept o' → Rp h₀ k' o' iQual 8 4 q' → (∀ I o, s.heap.get? I = some o → k1 ≠ I → k2 ≠ I → k' ≠ I) → IntsAre ws (writeDig n (((Builtin.Int.intBits x : Int) + n - 1).fdiv n).toNat 0 x (List.replicate (((Builtin.Int.intBits x : Int) + n - 1).fdiv n).toNat 0)) → Q (.ref r) { s with heap := h', toks := tk' }) :
    wpAny (model PySem.Challenge.rw_nb0068_01.row.prog w) (ktrTop dp un gd cn cs L a ccd cl outer) (call (.ref 28) [.int x tx, .int n tn]) Q E s := by
  have Z : Led h₀ L s.heap m (pre ++ [(k1, o1), (k2, o2)]) p30 p23 := ⟨F, kst_newsOf N (by simp; try grind), fun x hx => by
    rcases List.mem_append.mp hx with hx | hx
    · exact np x hx
    · rcases List.mem_cons.mp hx with rfl | hx
      · exact n1.1
      · cases List.mem_singleton.mp hx; exact n2.1, R1 _ F.keep (N (k1, o1) (by simp)).1, R2 _ F.keep (N (k2, o2) (by simp)).1⟩
  refine i2d_law B X T hk hd hu Z hx hn0 hn8 hbits C hL ?_
  intro r ws e h9 tk9 q9 Z9 new9 hi
  have key : ∃ k' o', News h₀ L h9 [(k', o')] ∧ Kept o' ∧ Rp h₀ k' o' iQual 8 4 q9 ∧ (∀ I o, s.heap.get? I = some o → k1 ≠ I → k2 ≠ I → k' ≠ I) := by
    rcases new9 with rfl | ⟨a, b, c, e9, hc⟩
    · exact ⟨k2, o2, kst_newsOf Z9.N (by simp), n2, R2, fun _ _ _ _ h => h⟩
    · obtain ⟨k', o', N', ho', R', w⟩ := Rp.made (k := k1) (o := o1) Z9.F (kst_newsOf Z9.N (by simp)) n1 Z9.t23
      refine ⟨k', o', N', ho', R', fun I o hI h1 _ => ?_⟩
      rcases w with rfl | ⟨a', b', e⟩
      · exact h1
      · rw [e9] at e
        have ec : c = k' := by injection e with e; injection e with _ e; injection e with _ e; injection e with e; injection e
        rintro rfl
        rw [← ec, hc] at hI
        cases hI
  obtain ⟨k', o', N', ho', R', fr⟩ := key
  refine ret r ws e h9 tk9 q9 k' o' Z9.F ?_ ho' R' fr hi
  intro x hx
  have : x ∈ [(k', o')] ∨ x ∈ (r, W.listOf ws.toArray e) :: (pre ++ [(k1, o1), (k2, o2)]) ++ [(30, tabObj p30), (23, tabObj q9)] := by
    simp only [List.mem_append, List.mem_cons, List.not_mem_nil, or_false] at hx ⊢
    grind
  rcases this with h | h
  · exact N' x h
  · exact Z9.N x h
end Mine
end
section
open PySem PySem.W PySem.Calls PyProof.Rows
namespace Mine
/-- a tuple on the ledger -/
def TupAt (ax : Addr) (its : Array Value) (news : List (Addr × Obj)) : Prop := ∃ o, (ax, o) ∈ news ∧ o.cls = .type "tuple" ∧ ∃ n, o.data = .seq its n
theorem TupAt.tuple {h₀ h : Heap} {L ax : Addr} {its : Array Value} {news : List (Addr × Obj)} (x : TupAt ax its news) (N : News h₀ L h news) : h.IsTuple ax its := by
  obtain ⟨o, hm, r⟩ := x
  exact ⟨o, (N _ hm).1, r⟩
section
variable {prog : Program} {w : World} {A : Around} {E : Value → Shared → Prop} {s : Shared} {h₀ : Heap} {L : Addr} {m : Str → Option Value} {env : Env}
theorem tup_st {ax I : Addr} {its : Array Value} : ∀ i (h h' : Heap) (o : Obj) (nw : List (Addr × Obj)), (h.IsTupleIter I ax i ∧ h.IsTuple ax its) → h.get? I = some o → h'.get? I = some o → (∀ b o, h₀.get? b = some o → h'.get? b = some o) → News h₀ L h' nw → TupAt ax its nw → (h'.IsTupleIter I ax i ∧ h'.IsTuple ax its) :=
  fun i h h' o nw st e e' k N S => ⟨by obtain ⟨o', q, r⟩ := st.1; rw [e] at q; cases q; exact ⟨o, e', r⟩, S.tuple N⟩
/-- a list comprehension over a tuple on the ledger -/
theorem ListComp_T {elt iter : Expr} {x : Str} {px : Pos} {scope : Scope} {cl : List (Str × Addr)} {pos : Pos} {Q : Value → Shared → Prop} (F₀ : Fr h₀ L s.heap m)
    (hclos : closureFor scope env = pure cl) (hcell : ∀ y ∈ scope.names, y.2 ≠ .cell) (hkind : scope.kind = .function)
    (hnames : ∀ y ∈ scope.names, y.2 = .local → scope.names.lookup y.1 = some .local) (hx : scope.names.lookup x = some .local)
    (h : wpAny (model prog w) A (eval iter env) (fun xv s₁ => ∃ (ax : Addr) (its : Array Value) (news : List (Addr × Obj)), xv = .ref ax ∧ A.handled = none ∧ Fr h₀ L s₁.heap m ∧ News h₀ L s₁.heap news ∧ TupAt ax its news ∧ its.size ≤ sizeLine ∧
      ∀ g, LCg.CompRest prog w A h₀ L m env elt x scope cl { s₁ with heap := g } (TupAt ax its) (fun i v => its[i]? = some v) (LCg.FinE h₀ L m { s₁ with heap := g } Q) its.size 0 [] news) E s)
    (hs : ∀ x, foldedSetIterable iter env x = pure x := by intro _; rfl) :
    wpAny (model prog w) A (eval (.ListComp elt [⟨.Name x px, iter, [], 0⟩] scope pos) env) Q E s := by
  rw [eval_ListComp]
  refine wpAny_comprehension_free (use := none) rfl hs hclos hkind hnames (wpAny_mono h (fun xv s₁ h₁ => ?_) fun _ _ e => e)
  obtain ⟨ax, its, news, rfl, hh, F, N, S, hsz, R⟩ := h₁
  have hl := S.tuple N
  have hlt : ax < s₁.heap.objs.size := by obtain ⟨_, e, _⟩ := hl; exact Heap.lt_size e
  refine wpAny_pyIter_tuple hl ?_
  have up : ∀ b o, s₁.heap.get? b = some o → (s₁.heap.push { cls := .type "tuple_iterator", data := .fields #[.ref ax, .int 0 0] }).get? b = some o := fun b o e => Heap.get?_push_of_some _ e
  refine LCg.block_U (Walks.tuple hh s₁.heap.objs.size ax (Nat.ne_of_lt hlt) its) hsz (fun i h st => by obtain ⟨o, e, _⟩ := st.1; exact ⟨o, e⟩) tup_st hcell hkind hx ⟨⟨_, Heap.get?_push_size _ rfl, rfl, rfl⟩, hl.push _⟩ (fun b hb => ?_)
    (F.keeps up) (N.grown up) (Nat.ne_of_lt F.ns.lt) (next_is_new F) (fun p hp => Nat.ne_of_lt (Heap.lt_size (N p hp).1)) S (R _) ?_
  · show b < (s₁.heap.push _).objs.size
    rw [Heap.size_push]
    rcases List.mem_cons.mp hb with rfl | hb
    · exact Nat.lt_succ_self _
    · rw [List.mem_singleton.mp hb]; exact Nat.lt_succ_of_lt hlt
  · intro D C h tk m' ys news' F' N' o1 hn hC₀ hD₀ hCL hDL hCD offC fin
    refine ⟨m', hn, fun h'' hs'' => fin D h'' tk (F'.change hs'' hCL hC₀) (fun p hp => ?_) o1⟩
    refine ⟨hs''.extBut _ _ ?_ (N' p hp).1, (N' p hp).2⟩
    rcases List.mem_cons.mp hp with rfl | hp
    · exact Ne.symm hCD
    · exact offC p hp
end
end Mine
end
section
open PySem PySem.W PySem.Calls PyProof.Rows PySem.SeqAt
namespace Mine
section
variable {A : Around} {s : Shared}
theorem eqAt_bytes (b : Array UInt8) (t u : Tok) : EqAt A s (.bytes b t) (.bytes b u) true := fun prog w E Q h => by
  unfold eqBool
  refine wpAny_holding ?_
  refine wpAny_ite_split (fun _ => ?_) (fun hab => ?_)
  · exact wpAny_bind (wpAny_rule (wpAny_pure h))
  · refine wpAny_bind ?_
    have e : wpAny (model prog w) A (compareOp .Eq (.bytes b t) (.bytes b u)) (fun v s' => wpAny (model prog w) A (truthOfDropped v) Q E s') E s :=
      eq_bytes (by rw [show (b.toList == b.toList) = true by simp]; exact wpAny_truthy_bool h)
    exact e
variable {prog : Program} {w : World} {E : Value → Shared → Prop} {Q : Value → Shared → Prop}
/-- two lists of the same three bytes -/
theorem ne_bytes3 {a c : Addr} {x y z x' y' z' : Array UInt8} {t1 t2 t3 u1 u2 u3 : Tok} (hl : s.heap.IsList a #[.bytes x t1, .bytes y t2, .bytes z t3]) (hl' : s.heap.IsList c #[.bytes x' u1, .bytes y' u2, .bytes z' u3]) (hu : A.units < cLine)
    (ex : x = x') (ey : y = y') (ez : z = z') (h : Q (.bool false) s) : wpAny (model prog w) A (compareOp .NotEq (.ref a) (.ref c)) Q E s := by
  subst ex ey ez
  refine RcNeAt.lists (e := fun _ => true) hl hl' rfl hu ?_ prog w E Q ?_
  · intro j h1 h2
    have h1' : j < 3 := h1
    match j, h1' with
    | 0, _ => exact eqAt_bytes x t1 u1
    | 1, _ => exact eqAt_bytes y t2 u2
    | 2, _ => exact eqAt_bytes z t3 u3
  · exact h
end
end Mine
end
section
open PySem PySem.W PySem.Calls PyProof.Rows
namespace Mine
/-- a row of octets: three or six -/
structure RowOk (A : List Int) : Prop where
  len : A.length = 3 ∨ A.length = 6
  bd : ∀ x ∈ A, 0 ≤ x ∧ x < 256
theorem filled_ok {ns : List Int} (h1 : 1 ≤ ns.length) (h6 : ns.length ≤ 6) : RowOk (filled ns) := by
  constructor
  · have e : (filled ns).length = ((-(ns.length : Int)).fmod 3).toNat + ns.length := by simp [filled]
    rw [e, Int.fmod_eq_emod_of_nonneg _ (by decide)]
    omega
  · intro x hx
    rcases List.mem_append.mp hx with hx | hx
    · rw [List.eq_of_mem_replicate hx]; decide
    · obtain ⟨y, _, rfl⟩ := List.mem_map.mp hx
      rw [Int.fmod_eq_emod_of_nonneg _ (by decide)]
      omega
theorem pick_all {ns : List Int} : ∀ {l : List Nat}, (∀ j ∈ l, j < ns.length) → (l.filterMap (ns[·]?)).length = l.length
  | [], _ => rfl
  | j :: r, h => by
    have hj := h j (.head _)
    rw [List.filterMap_cons_some (b := ns[j]) (by simp [hj])]
    rw [List.length_cons, List.length_cons, pick_all fun k hk => h k (.tail _ hk)]
theorem pick_len {ns : List Int} {a : Nat} (ha : a ≤ 1) (h1 : a < ns.length) : 1 ≤ (pickNums ns (some (a : Int)) (some 12) (some 2)).length ∧ (pickNums ns (some (a : Int)) (some 12) (some 2)).length ≤ 6 := by
  have e : sliceBounds (some (a : Int)) (some 12) (some 2) ns.length = ((a : Int), min 12 (ns.length : Int), 2) := by
    unfold sliceBounds
    simp only [Option.getD_some]
    have h1' : ¬ ((a : Int) < 0) := by omega
    have h2' : ¬ ((12 : Int) < 0) := by decide
    have h3' : (2 : Int) > 0 := by decide
    simp only [h1', h2', h3', if_false, if_true]
    refine Prod.ext ?_ (Prod.ext ?_ rfl)
    · show max 0 (min (a : Int) ns.length) = a
      omega
    · show max 0 (min 12 (ns.length : Int)) = min 12 (ns.length : Int)
      omega
  unfold pickNums
  rw [e]
  dsimp only
  have hc : (sliceRange (a : Int) (min 12 (ns.length : Int)) 2).length = (((min 12 (ns.length : Int)) - a + 2 - 1) / 2).toNat := by
    unfold sliceRange
    simp only [show (2 : Int) > 0 by decide, if_true]
    rw [if_pos (by omega), List.length_map, List.length_range]
  rw [pick_all, hc]
  · omega
  · intro j hj
    unfold sliceRange at hj
    simp only [show (2 : Int) > 0 by decide, if_true] at hj
    rw [if_pos (by omega)] at hj
    obtain ⟨k, hk, rfl⟩ := List.mem_map.mp hj
    have := List.mem_range.mp hk
    omega
theorem worth_lt {A : List Int} (h : ∀ x ∈ A, 0 ≤ x ∧ x < 256) : 0 ≤ worth A ∧ worth A < 2 ^ (8 * A.length) := by
  have : ∀ (A : List Int) (w : Int) (k : Nat), (∀ x ∈ A, 0 ≤ x ∧ x < 256) → 0 ≤ w → w < 2 ^ k → 0 ≤ A.foldl (fun w n => w * 256 + n) w ∧ A.foldl (fun w n => w * 256 + n) w < 2 ^ (k + 8 * A.length) := by
    intro A
    induction A with
    | nil => intro w k _ h0 h1; exact ⟨h0, by simpa using h1⟩
    | cons x r ih =>
      intro w k hb h0 h1
      have hx := hb x (.head _)
      have h2 := ih (w * 256 + x) (k + 8) (fun y hy => hb y (.tail _ hy)) (by omega) (by rw [Int.pow_add]; generalize (2 : Int) ^ k = P at *; omega)
      rw [List.foldl_cons, List.length_cons, show k + 8 * (r.length + 1) = k + 8 + 8 * r.length by omega]
      exact h2
  have h1 := this A 0 0 h (by decide) (by decide)
  rw [Nat.zero_add] at h1
  exact h1
theorem worth_bd {A : List Int} (h : RowOk A) : 0 ≤ worth A ∧ worth A < 2 ^ 48 := by
  have h1 := worth_lt h.bd
  refine ⟨h1.1, Int.lt_of_lt_of_le h1.2 (pow2_le ?_)⟩
  have := h.len
  omega
end Mine
end
section
open PySem PySem.W PySem.Calls PyProof.Rows
namespace Mine
/-- the whole number that a row of figures is, the least first -/
def ev (P : Int) : List Int → Int
  | [] => 0
  | x :: r => x + ev P r * P
/-- the figures of a whole number, the least first -/
def digs (P : Int) : Nat → Int → List Int
  | 0, _ => []
  | k + 1, x => x % P :: digs P k (x / P)
theorem digs_len (P : Int) : ∀ (k : Nat) (x : Int), (digs P k x).length = k
  | 0, _ => rfl
  | k + 1, x => by rw [digs, List.length_cons, digs_len P k]
theorem digs_bd {P : Int} (hP : 0 < P) : ∀ (k : Nat) (x : Int), ∀ z ∈ digs P k x, 0 ≤ z ∧ z < P
  | 0, _, z, h => nomatch h
  | k + 1, x, z, h => by
    rcases List.mem_cons.mp h with rfl | h
    · exact ⟨Int.emod_nonneg _ (by omega), Int.emod_lt_of_pos _ hP⟩
    · exact digs_bd hP k _ z h
theorem digs_ev {P : Int} (hP : 0 < P) : ∀ (ds : List Int), (∀ z ∈ ds, 0 ≤ z ∧ z < P) → digs P ds.length (ev P ds) = ds
  | [], _ => rfl
  | d :: r, h => by
    have hd := h d (.head _)
    have hr := digs_ev hP r fun z hz => h z (.tail _ hz)
    rw [List.length_cons, digs, ev]
    have h1 : (d + ev P r * P) % P = d := by rw [Int.add_mul_emod_self_right, Int.emod_eq_of_lt hd.1 hd.2]
    have h2 : (d + ev P r * P) / P = ev P r := by rw [Int.add_mul_ediv_right _ _ (by omega), Int.ediv_eq_zero_of_lt hd.1 hd.2, Int.zero_add]
    rw [h1, h2, hr]
theorem ev_bd {P : Int} (hP : 0 < P) : ∀ (ds : List Int), (∀ z ∈ ds, 0 ≤ z ∧ z < P) → 0 ≤ ev P ds ∧ ev P ds < P ^ ds.length
  | [], _ => by simp [ev]
  | d :: r, h => by
    have hd := h d (.head _)
    have hr := ev_bd hP r fun z hz => h z (.tail _ hz)
    rw [ev, List.length_cons, Int.pow_succ]
    have h1 : 0 ≤ ev P r * P := Int.mul_nonneg hr.1 (by omega)
    have h2 : ev P r * P ≤ (P ^ r.length - 1) * P := Int.mul_le_mul_of_nonneg_right (by omega) (by omega)
    rw [Int.sub_mul, Int.one_mul] at h2
    omega
theorem ev_snoc (P : Int) (d : Int) : ∀ (ds : List Int), ev P (ds ++ [d]) = ev P ds + d * P ^ ds.length
  | [] => by simp [ev]
  | x :: r => by
    rw [List.cons_append, ev, ev_snoc P d r, ev, List.length_cons, Int.pow_succ, Int.add_mul, Int.mul_assoc]
    omega
theorem ev_zero (P : Int) : ∀ k, ev P (List.replicate k 0) = 0
  | 0 => rfl
  | k + 1 => by rw [List.replicate_succ, ev, ev_zero P k]; simp
theorem ev_set (P v : Int) : ∀ (ns : List Int) (k : Nat), k < ns.length → ev P (ns.set k (ns.getD k 0 + v)) = ev P ns + v * P ^ k
  | [], k, h => absurd h (Nat.not_lt_zero _)
  | x :: r, 0, h => by
    simp [ev]
    omega
  | x :: r, k + 1, h => by
    rw [List.set_cons_succ, List.getD_cons_succ, ev, ev_set P v r k (by simpa using h), ev, Int.pow_succ, Int.add_mul, Int.mul_assoc]
    omega
/-- the sum of the first figures -/
def ps (P : Int) (ns : List Int) : Nat → Int
  | 0 => 0
  | k + 1 => ps P ns k + ns.getD k 0 * P ^ k
theorem ps_cons (P x : Int) (r : List Int) : ∀ k, ps P (x :: r) (k + 1) = x + ps P r k * P
  | 0 => by simp [ps]
  | k + 1 => by
    rw [ps, ps_cons P x r k, ps, List.getD_cons_succ, Int.pow_succ, Int.add_mul, Int.mul_assoc]
    omega
theorem ps_all (P : Int) : ∀ (ns : List Int), ps P ns ns.length = ev P ns
  | [] => rfl
  | x :: r => by rw [List.length_cons, ps_cons, ps_all P r, ev]
theorem rangeKs_snoc (n : Nat) : rangeKs 0 (n + 1) = rangeKs 0 n ++ [(n : Int)] := by
  simp [rangeKs, List.range_succ]
theorem foldRow {P : Int} {one two : List Int} {i : Nat} (cols : List Int) : ∀ n, n ≤ two.length → i + two.length ≤ cols.length →
    ev P ((rangeKs 0 n).foldl (colIn one two (i : Int)) cols) = ev P cols + one.getD i 0 * P ^ i * ps P two n
  | 0, _, _ => by simp [rangeKs, ps]
  | n + 1, h, hl => by
    have ih := foldRow (P := P) (one := one) (two := two) (i := i) cols n (by omega) hl
    rw [rangeKs_snoc, List.foldl_append, List.foldl_cons, List.foldl_nil]
    generalize hc : (rangeKs 0 n).foldl (colIn one two (i : Int)) cols = c at ih
    have hcl : c.length = cols.length := by rw [← hc]; exact foldl_len (fun _ _ => colIn_len _ _ _ _ _) _ _
    unfold colIn
    rw [show ((i : Int) + (n : Int)).toNat = i + n by omega, Int.toNat_natCast, Int.toNat_natCast, ev_set _ _ _ _ (by omega), ih, ps, Int.mul_add, Int.pow_add]
    have : one.getD i 0 * P ^ i * (two.getD n 0 * P ^ n) = one.getD i 0 * two.getD n 0 * (P ^ i * P ^ n) := by
      simp only [Int.mul_assoc, Int.mul_comm, Int.mul_left_comm]
    omega
theorem colRow_ev {P : Int} {one two : List Int} {i : Nat} (cols : List Int) (h : i + two.length ≤ cols.length) : ev P (colRow one two cols (i : Int)) = ev P cols + one.getD i 0 * P ^ i * ev P two := by
  unfold colRow
  rw [foldRow cols two.length (Nat.le_refl _) h, ps_all]
theorem foldCols {P : Int} {one two : List Int} (cols : List Int) : ∀ n, n ≤ one.length → one.length + two.length ≤ cols.length →
    ev P ((rangeKs 0 n).foldl (colRow one two) cols) = ev P cols + ps P one n * ev P two
  | 0, _, _ => by simp [rangeKs, ps]
  | n + 1, h, hl => by
    have ih := foldCols (P := P) (one := one) (two := two) cols n (by omega) hl
    rw [rangeKs_snoc, List.foldl_append, List.foldl_cons, List.foldl_nil]
    generalize hc : (rangeKs 0 n).foldl (colRow one two) cols = c at ih
    have hcl : c.length = cols.length := by rw [← hc]; exact foldl_len (fun _ _ => colRow_len _ _ _ _) _ _
    rw [colRow_ev c (by omega), ih, ps, Int.add_mul]
    omega
theorem columns_ev (P : Int) (one two : List Int) : ev P (columns one two) = ev P one * ev P two := by
  unfold columns
  rw [foldCols _ one.length (Nat.le_refl _) (by simp), ps_all, ev_zero]
  simp
/-- each column is within bounds -/
def Within (K : Int) (ns : List Int) : Prop := ∀ z ∈ ns, 0 ≤ z ∧ z ≤ K
theorem within_set {K v : Int} {ns : List Int} (h : Within K ns) (h0 : 0 ≤ K) (hv : 0 ≤ v ∧ v ≤ 65025) (k : Nat) : Within (K + 65025) (ns.set k (ns.getD k 0 + v)) := by
  have hg : 0 ≤ ns.getD k 0 ∧ ns.getD k 0 ≤ K := by
    rw [List.getD_eq_getElem?_getD]
    cases e : ns[k]? with
    | none => simpa using h0
    | some z => exact h z (List.mem_of_getElem? e)
  intro z hz
  rcases List.mem_or_eq_of_mem_set hz with h1 | rfl
  · have := h z h1
    omega
  · omega
theorem getD_mul {one two : List Int} (h1 : ∀ x ∈ one, 0 ≤ x ∧ x < 256) (h2 : ∀ x ∈ two, 0 ≤ x ∧ x < 256) (i j : Nat) : 0 ≤ one.getD i 0 * two.getD j 0 ∧ one.getD i 0 * two.getD j 0 ≤ 65025 := by
  have a := getD_bd h1 i
  have b := getD_bd h2 j
  refine ⟨Int.mul_nonneg a.1 b.1, ?_⟩
  have := Int.mul_le_mul (show one.getD i 0 ≤ 255 by omega) (show two.getD j 0 ≤ 255 by omega) b.1 (by omega)
  omega
theorem within_row {one two : List Int} (h1 : ∀ x ∈ one, 0 ≤ x ∧ x < 256) (h2 : ∀ x ∈ two, 0 ≤ x ∧ x < 256) (i : Int) {K : Int} (h0 : 0 ≤ K) (cols : List Int) (hc : Within K cols) : ∀ n : Nat, Within (K + n * 65025) ((rangeKs 0 n).foldl (colIn one two i) cols)
  | 0 => by simpa [rangeKs] using hc
  | n + 1 => by
    have ih := within_row h1 h2 i h0 cols hc n
    rw [rangeKs_snoc, List.foldl_append, List.foldl_cons, List.foldl_nil]
    unfold colIn
    have := within_set ih (by omega) (getD_mul h1 h2 i.toNat (n : Int).toNat) (i + (n : Int)).toNat
    intro z hz
    have := this z hz
    omega
theorem within_cols {one two : List Int} (h1 : ∀ x ∈ one, 0 ≤ x ∧ x < 256) (h2 : ∀ x ∈ two, 0 ≤ x ∧ x < 256) (l2 : two.length ≤ 12) (cols : List Int) (hc : Within 0 cols) : ∀ n : Nat, Within (n * 780300) ((rangeKs 0 n).foldl (colRow one two) cols)
  | 0 => by simpa [rangeKs] using hc
  | n + 1 => by
    have ih := within_cols h1 h2 l2 cols hc n
    rw [rangeKs_snoc, List.foldl_append, List.foldl_cons, List.foldl_nil]
    have := within_row h1 h2 (n : Int) (by omega) _ ih two.length
    unfold colRow
    intro z hz
    have := this z hz
    omega
theorem columns_bd {one two : List Int} (h1 : ∀ x ∈ one, 0 ≤ x ∧ x < 256) (h2 : ∀ x ∈ two, 0 ≤ x ∧ x < 256) (l1 : one.length ≤ 12) (l2 : two.length ≤ 12) : ∀ z ∈ columns one two, 0 ≤ z ∧ z < 16777216 := by
  intro z hz
  have := within_cols h1 h2 l2 (List.replicate (one.length + two.length) 0) (fun z hz => by rw [List.eq_of_mem_replicate hz]; omega) one.length z hz
  omega
theorem columns_len (one two : List Int) : (columns one two).length = one.length + two.length := by
  unfold columns
  rw [foldl_len (fun _ _ => colRow_len _ _ _ _), List.length_replicate]
/-- the carries -/
theorem car_fold {P : Int} (hP : 0 < P) : ∀ (ns : List Int) (st : List Int × Int), (∀ z ∈ st.1, 0 ≤ z ∧ z < P) →
    (∀ z ∈ (ns.foldl (carStep P) st).1, 0 ≤ z ∧ z < P) ∧ ev P (ns.foldl (carStep P) st).1 + (ns.foldl (carStep P) st).2 * P ^ (ns.foldl (carStep P) st).1.length = ev P st.1 + (st.2 + ev P ns) * P ^ st.1.length
  | [], st, h => by simp [ev]; exact h
  | x :: r, st, h => by
    have h1 : ∀ z ∈ (carStep P st x).1, 0 ≤ z ∧ z < P := by
      intro z hz
      rcases List.mem_append.mp hz with hz | hz
      · exact h z hz
      · rw [List.mem_singleton.mp hz, Int.fmod_eq_emod_of_nonneg _ (by omega)]
        exact ⟨Int.emod_nonneg _ (by omega), Int.emod_lt_of_pos _ hP⟩
    have ih := car_fold hP r (carStep P st x) h1
    rw [List.foldl_cons]
    refine ⟨ih.1, ih.2.trans ?_⟩
    unfold carStep
    dsimp only
    rw [ev_snoc, List.length_append, List.length_singleton, Int.pow_succ, ev, Int.fmod_eq_emod_of_nonneg _ (by omega), Int.fdiv_eq_ediv_of_nonneg _ (by omega)]
    have e := Int.mul_ediv_add_emod (st.2 + x) P
    generalize (st.2 + x) / P = q at *
    generalize (st.2 + x) % P = m at *
    generalize P ^ st.1.length = W at *
    have e2 : st.2 + (x + ev P r * P) = m + (q + ev P r) * P := by
      rw [Int.add_mul, Int.mul_comm q P]
      omega
    rw [e2, Int.add_mul m, Int.mul_assoc, Int.mul_comm W P]
    omega
theorem car_digs {P : Int} (hP : 0 < P) (ns : List Int) (h0 : 0 ≤ ev P ns) (h1 : ev P ns < P ^ ns.length) : (carSt P ns).1 = digs P ns.length (ev P ns) := by
  have h := car_fold hP ns ([], 0) (fun _ h => nomatch h)
  have hl := carSt_len P ns
  change (∀ z ∈ (carSt P ns).1, 0 ≤ z ∧ z < P) ∧ ev P (carSt P ns).1 + (carSt P ns).2 * P ^ (carSt P ns).1.length = _ at h
  rw [hl] at h
  simp only [ev, List.length_nil, Int.pow_zero, Int.mul_one, Int.zero_add] at h
  have hb := ev_bd hP _ h.1
  rw [hl] at hb
  generalize (carSt P ns).2 = q at *
  have hW : 0 < P ^ ns.length := Int.pow_pos hP
  have hq : q = 0 := by
    have e := h.2
    generalize P ^ ns.length = W at *
    have l1 : ¬ 1 ≤ q := by
      intro hq
      have := Int.mul_le_mul_of_nonneg_right hq (Int.le_of_lt hW)
      omega
    have l2 : ¬ q ≤ -1 := by
      intro hq
      have := Int.mul_le_mul_of_nonneg_right hq (Int.le_of_lt hW)
      omega
    omega
  have e : ev P (carSt P ns).1 = ev P ns := by
    have := h.2
    rw [hq, Int.zero_mul] at this
    omega
  have := digs_ev hP _ h.1
  rw [hl, e] at this
  exact this.symm
theorem dval_cons (n x : Int) (r : List Int) : ∀ (k a : Nat), dval n (x :: r) (a + 1) k = dval n r a k
  | 0, _ => rfl
  | k + 1, a => by rw [dval, dval, dval_cons n x r k (a + 1), List.getD_cons_succ]
theorem dval_ev (n : Int) : ∀ (ns : List Int), dval n ns 0 ns.length = ev (2 ^ n.toNat) ns
  | [] => rfl
  | x :: r => by rw [List.length_cons, dval, dval_cons, dval_ev n r, ev]; rfl
end Mine
end
section
open PySem PySem.W PySem.Calls PyProof.Rows
namespace Mine
theorem kll_cons0 (a : Int) (n : Nat) : rangeKs a (n + 1) = a :: rangeKs (a + 1) n := kll_cons a n
/-- the figures are the digits -/
theorem figs_go {x n : Int} (hx : 0 ≤ x) (hn : 0 ≤ n) : ∀ (k : Nat) (i : Nat), (rangeKs (i : Int) k).map (figAt x n) = digs (2 ^ n.toNat) k (x / 2 ^ (n.toNat * i))
  | 0, i => by simp [rangeKs, digs]
  | k + 1, i => by
    have ih := figs_go hx hn k (i + 1)
    rw [kll_cons, List.map_cons, digs]
    have e : ((i : Int) + 1) = ((i + 1 : Nat) : Int) := by omega
    rw [e, ih, div_div, show n.toNat * i + n.toNat = n.toNat * (i + 1) by rw [Nat.mul_add, Nat.mul_one]]
    congr 1
    unfold figAt
    have h1 : (n * (i : Int)).toNat = n.toNat * i := by rw [Int.toNat_mul hn (by omega), Int.toNat_natCast]
    rw [h1, Int.fmod_eq_emod_of_nonneg _ (Int.le_of_lt (pow2_pos _)), Int.fdiv_eq_ediv_of_nonneg _ (Int.le_of_lt (pow2_pos _))]
theorem figures_digs {x n c : Int} (hx : 0 ≤ x) (hn : 0 ≤ n) : figures x n c = digs (2 ^ n.toNat) c.toNat x := by
  unfold figures
  have := figs_go hx hn c.toNat 0
  rw [Nat.mul_zero, Int.pow_zero, Int.ediv_one] at this
  exact this
theorem ev_digs {P : Int} (hP : 0 < P) : ∀ (k : Nat) (x : Int), 0 ≤ x → x < P ^ k → ev P (digs P k x) = x
  | 0, x, h0, h1 => by simp at h1; simp [digs, ev]; omega
  | k + 1, x, h0, h1 => by
    rw [digs, ev, ev_digs hP k (x / P) (Int.ediv_nonneg h0 (by omega)) (Int.ediv_lt_of_lt_mul hP (by rwa [Int.pow_succ] at h1))]
    have := Int.mul_ediv_add_emod x P
    rw [Int.mul_comm] at this
    omega
theorem worth_ev : ∀ (A : List Int), worth A = ev 256 A.reverse := by
  have : ∀ (A : List Int) (w : Int), A.foldl (fun w n => w * 256 + n) w = ev 256 A.reverse + w * 256 ^ A.length := by
    intro A
    induction A with
    | nil => intro w; simp [ev]
    | cons x r ih =>
      intro w
      rw [List.foldl_cons, ih, List.reverse_cons, ev_snoc, List.length_reverse, List.length_cons, Int.pow_succ, Int.add_mul, Int.mul_assoc, Int.mul_comm 256]
      omega
  intro A
  have h := this A 0
  rw [Int.zero_mul, Int.add_zero] at h
  exact h
/-- writeDig lays the digits -/
theorem writeDig_app (n : Int) : ∀ (k : Nat) (x : Int) (pre tail : List Int), writeDig n k pre.length x (pre ++ List.replicate k 0 ++ tail) = pre ++ digs (2 ^ n.toNat) k x ++ tail
  | 0, x, pre, tail => by simp [writeDig, digs]
  | k + 1, x, pre, tail => by
    rw [writeDig, digs]
    have h := writeDig_app n k (x / 2 ^ n.toNat) (pre ++ [x % 2 ^ n.toNat]) tail
    rw [List.length_append, List.length_singleton] at h
    have e : (pre ++ List.replicate (k + 1) 0 ++ tail).set pre.length (x % 2 ^ n.toNat) = pre ++ [x % 2 ^ n.toNat] ++ List.replicate k 0 ++ tail := by
      rw [List.replicate_succ]
      simp
    rw [e, h]
    simp
theorem writeDig_digs (n : Int) (k : Nat) (x : Int) : writeDig n k 0 x (List.replicate k 0) = digs (2 ^ n.toNat) k x := by
  have := writeDig_app n k x [] []
  simpa using this
theorem digs_getD {P : Int} (hP : 0 < P) : ∀ (m j : Nat) (x : Int), j < m → (digs P m x).getD j 0 = x / P ^ j % P
  | 0, j, x, h => absurd h (Nat.not_lt_zero _)
  | m + 1, 0, x, h => by simp [digs]
  | m + 1, j + 1, x, h => by
    rw [digs, List.getD_cons_succ, digs_getD hP m j _ (by omega), Int.ediv_ediv_of_nonneg (Int.le_of_lt hP), Int.pow_succ, Int.mul_comm]
theorem digs_take (P : Int) : ∀ (k m : Nat) (x : Int), k ≤ m → (digs P m x).take k = digs P k x
  | 0, m, x, h => by simp [digs]
  | k + 1, 0, x, h => absurd h (by omega)
  | k + 1, m + 1, x, h => by rw [digs, List.take_succ_cons, digs_take P k m _ (by omega), digs]
theorem pow_mono {P : Int} (hP : 0 < P) {a b : Nat} (h : a ≤ b) : P ^ a ≤ P ^ b := by
  rw [show b = a + (b - a) by omega, Int.pow_add]
  have h1 : 0 < P ^ a := Int.pow_pos hP
  have h2 : 0 < P ^ (b - a) := Int.pow_pos hP
  have := Int.mul_le_mul_of_nonneg_left (show (1 : Int) ≤ P ^ (b - a) by omega) (Int.le_of_lt h1)
  omega
theorem bareN_digs {P : Int} (hP : 0 < P) {x : Int} {k m : Nat} (h0 : 0 ≤ x) (hk : x < P ^ k) (hk1 : 0 < k → P ^ (k - 1) ≤ x) : ∀ j, j ≤ m → x < P ^ j → bareN (digs P m x) j = k
  | 0, _, hj => by
    rw [Int.pow_zero] at hj
    have hx : x = 0 := by omega
    rw [bareN]
    cases k with
    | zero => rfl
    | succ k =>
      have := hk1 (by omega)
      have h2 : 0 < P ^ (k + 1 - 1) := Int.pow_pos hP
      omega
  | j + 1, hm, hj => by
    rw [bareN, digs_getD hP m j x (by omega)]
    have h2 : 0 < P ^ j := Int.pow_pos hP
    have hq : x / P ^ j % P = x / P ^ j := Int.emod_eq_of_lt (Int.ediv_nonneg h0 (by omega)) (Int.ediv_lt_of_lt_mul h2 (by rw [Int.mul_comm, ← Int.pow_succ]; exact hj))
    rw [hq]
    by_cases hz : x / P ^ j = 0
    · rw [if_pos hz]
      have hlt : x < P ^ j := by
        have := Int.lt_ediv_add_one_mul_self x h2
        rw [hz] at this
        omega
      exact bareN_digs hP h0 hk hk1 j (by omega) hlt
    · rw [if_neg hz]
      have hge : P ^ j ≤ x := by
        apply Int.not_lt.mp
        intro h
        exact hz (Int.ediv_eq_zero_of_lt h0 h)
      have a1 : j < k := by
        apply Nat.lt_of_not_le
        intro h
        have := pow_mono hP h
        omega
      have a2 : k - 1 < j + 1 := by
        apply Nat.lt_of_not_le
        intro h
        have := pow_mono hP h
        have := hk1 (by omega)
        omega
      omega
theorem bare_digs {P : Int} (hP : 0 < P) {x : Int} {k m : Nat} (h0 : 0 ≤ x) (hk : x < P ^ k) (hk1 : 0 < k → P ^ (k - 1) ≤ x) (hm : x < P ^ m) : bare (digs P m x) = digs P k x := by
  unfold bare
  rw [digs_len, bareN_digs hP h0 hk hk1 m (Nat.le_refl _) hm]
  refine digs_take P k m x ?_
  apply Nat.le_of_not_lt
  intro h
  have := hk1 (by omega)
  have := pow_mono hP (show m ≤ k - 1 by omega)
  omega
theorem bits_ge {x : Int} (h0 : 0 < x) : (2 : Int) ^ (Builtin.Int.intBits x - 1) ≤ x := by
  have hne : x.natAbs ≠ 0 := by omega
  have e : Builtin.Int.intBits x = x.natAbs.log2 + 1 := by
    unfold Builtin.Int.intBits
    rw [if_neg (by simp; omega)]
    try omega
  rw [e, Nat.add_sub_cancel]
  have := Nat.log2_self_le hne
  rw [pow2_cast]
  omega
theorem pow_pow2 (n k : Nat) : ((2 : Int) ^ n) ^ k = 2 ^ (k * n) := by rw [← Int.pow_mul, Nat.mul_comm]
theorem count_lo {x n : Int} (h1 : 1 ≤ n) (hx : 0 ≤ x) (hk : 0 < (((Builtin.Int.intBits x : Int) + n - 1).fdiv n).toNat) : ((2 : Int) ^ n.toNat) ^ ((((Builtin.Int.intBits x : Int) + n - 1).fdiv n).toNat - 1) ≤ x := by
  have hx0 : x ≠ 0 := by
    rintro rfl
    rw [count_zero h1] at hk
    exact absurd hk (by decide)
  have hb := bits_ge (x := x) (by omega)
  refine Int.le_trans ?_ hb
  rw [pow_pow2]
  refine pow2_le ?_
  rw [Int.fdiv_eq_ediv_of_nonneg _ (by omega)] at hk ⊢
  have h := Int.mul_ediv_add_emod ((Builtin.Int.intBits x : Int) + n - 1) n
  have hr := Int.emod_nonneg ((Builtin.Int.intBits x : Int) + n - 1) (show n ≠ 0 by omega)
  have hb1 : 1 ≤ Builtin.Int.intBits x := by
    unfold Builtin.Int.intBits
    rw [if_neg (by simpa using hx0)]
    omega
  generalize ((Builtin.Int.intBits x : Int) + n - 1) / n = q at *
  generalize ((Builtin.Int.intBits x : Int) + n - 1) % n = r at *
  have e : (((q.toNat - 1) * n.toNat : Nat) : Int) = n * q - n := by
    have h2 : ((q.toNat - 1 : Nat) : Int) = q - 1 := by omega
    have h3 : ((n.toNat : Nat) : Int) = n := by omega
    rw [Int.natCast_mul, h2, h3, Int.sub_mul, Int.one_mul, Int.mul_comm]
  omega
theorem i2d_digs {x n : Int} (h1 : 1 ≤ n) (hx : 0 ≤ x) {m : Nat} (hm : x < ((2 : Int) ^ n.toNat) ^ m) :
    writeDig n (((Builtin.Int.intBits x : Int) + n - 1).fdiv n).toNat 0 x (List.replicate (((Builtin.Int.intBits x : Int) + n - 1).fdiv n).toNat 0) = bare (digs (2 ^ n.toNat) m x) := by
  rw [writeDig_digs]
  refine (bare_digs (pow2_pos _) hx ?_ (count_lo h1 hx) hm).symm
  rw [pow_pow2]
  have := count_ge h1 hx
  rwa [Int.sub_zero] at this
end Mine
end
section
open PySem PySem.W PySem.Calls PyProof.Rows
namespace Mine
theorem flat_congr {α β : Type} {f g : α → List β} : ∀ {l : List α}, (∀ a ∈ l, f a = g a) → l.flatMap f = l.flatMap g
  | [], _ => rfl
  | a :: r, h => by rw [List.flatMap_cons, List.flatMap_cons, h a (.head _), flat_congr fun b hb => h b (.tail _ hb)]
theorem div16 (x : Int) : x / 16 / 16 = x / 256 := by
  rw [Int.ediv_ediv_of_nonneg (by decide)]
  rfl
theorem digs_hex : ∀ (m : Nat) (x : Int), digs 16 (2 * m) x = (digs 256 m x).flatMap fun d => [d % 16, d / 16]
  | 0, x => rfl
  | m + 1, x => by
    rw [show 2 * (m + 1) = 2 * m + 1 + 1 by omega, digs, digs, digs, List.flatMap_cons, ← digs_hex m]
    have e := div16 x
    have e1 : x % 256 % 16 = x % 16 := by omega
    have e2 : x % 256 / 16 = x / 16 % 16 := by omega
    rw [e, e1, e2]
    rfl
theorem hex_sign : ∀ k : Nat, k < 256 → ((hexOne k.toUInt8).map (·.toUInt8)).map Builtin.Bytes.toUpper = [(signs4.getD (k / 16) 0).toNat.toUInt8, (signs4.getD (k % 16) 0).toNat.toUInt8] := by decide +kernel
theorem enc4_gen {m : Nat} {x : Int} : ((((hexCps (byteArr (digs 256 m x).reverse)).toList.map (·.toUInt8)).map Builtin.Bytes.toUpper).toArray) = byteArr (writtenBy signs4 (digs 16 (2 * m) x)) := by
  have hb : ∀ z ∈ (digs 256 m x).reverse, 0 ≤ z ∧ z < 256 := fun z hz => digs_bd (by decide) m x z (List.mem_reverse.mp hz)
  rw [hexCps_eq]
  unfold byteArr writtenBy
  rw [digs_hex, List.reverse_flatMap]
  generalize (digs 256 m x).reverse = A at *
  rw [List.map_map, List.map_flatMap, List.map_flatMap, List.map_flatMap]
  congr 1
  show List.flatMap _ (List.map _ A) = _
  rw [List.flatMap_map]
  refine flat_congr fun a ha => ?_
  obtain ⟨k, rfl⟩ := Int.eq_ofNat_of_zero_le (hb a ha).1
  have hk : k < 256 := by have := (hb _ ha).2; omega
  have := hex_sign k hk
  rw [Int.toNat_natCast, ← List.map_map, this]
  have e1 : ((k : Int) / 16).toNat = k / 16 := by omega
  have e2 : ((k : Int) % 16).toNat = k % 16 := by omega
  simp [e1, e2]
/-- base64 -/
theorem and_low {c n : Nat} (h : n < 256) : (c * 256) &&& n = 0 := by
  apply Nat.eq_of_testBit_eq
  intro i
  rw [Nat.testBit_and, show (256 : Nat) = 2 ^ 8 from rfl, Nat.testBit_mul_two_pow, Nat.zero_testBit]
  by_cases hi : 8 ≤ i
  · rw [Nat.testBit_lt_two_pow (Nat.lt_of_lt_of_le h (Nat.pow_le_pow_right (by decide) hi : 2 ^ 8 ≤ 2 ^ i)), Bool.and_false]
  · simp [hi]
theorem chStep_eq {ch n : Int} (h0 : 0 ≤ ch) (h1 : 0 ≤ n) (h2 : n < 256) : chStep ch n = ch % 256 * 256 + n := by
  unfold chStep
  rw [bitAnd_m16, bitOr_and, show ((2 : Int) ^ (8 : Int).toNat) = 256 from rfl, bitAnd_pp (by omega) h1]
  have e : (ch * 256).toNat &&& n.toNat = 0 := by
    rw [show (ch * 256).toNat = ch.toNat * 256 by omega]
    exact and_low (by omega)
  rw [e]
  omega
theorem sx_eq (ch k : Int) : sx ch k = signs6.getD (ch / 2 ^ k.toNat % 64).toNat 0 := by
  unfold sx
  rw [bitAnd_m6, Int.fdiv_eq_ediv_of_nonneg _ (Int.le_of_lt (pow2_pos _))]
theorem step0 (o : List Int) (ch n : Int) : b64Step (o, 0, ch) n = (o ++ [sx (chStep ch n) 2], 2, chStep ch n) := rfl
theorem step2 (o : List Int) (ch n : Int) : b64Step (o, 2, ch) n = (o ++ [sx (chStep ch n) 4], 4, chStep ch n) := rfl
theorem step4 (o : List Int) (ch n : Int) : b64Step (o, 4, ch) n = (o ++ [sx (chStep ch n) 6, sx (chStep ch n) 0], 0, chStep ch n) := rfl
theorem writ_cons (sg : List Int) (d : Int) (r : List Int) : writtenBy sg (d :: r) = writtenBy sg r ++ [sg.getD d.toNat 0] := by
  unfold writtenBy
  rw [List.reverse_cons, List.map_append]
  rfl
theorem div256 (x : Int) : x / 256 / 256 / 256 = x / 16777216 := by
  rw [Int.ediv_ediv_of_nonneg (by decide), Int.ediv_ediv_of_nonneg (by decide)]
  rfl
theorem div64 (x : Int) : x / 64 / 64 / 64 / 64 = x / 16777216 := by
  rw [Int.ediv_ediv_of_nonneg (by decide), Int.ediv_ediv_of_nonneg (by decide), Int.ediv_ediv_of_nonneg (by decide)]
  rfl
theorem sg3 {x r C : Int} (h : C = r * 256 + x / 256 / 256 % 256) : C / 4 % 64 = x / 64 / 64 / 64 % 64 := by
  have e : x / 64 / 64 / 64 = x / 256 / 256 / 4 := by
    rw [Int.ediv_ediv_of_nonneg (by decide), Int.ediv_ediv_of_nonneg (by decide), Int.ediv_ediv_of_nonneg (by decide), Int.ediv_ediv_of_nonneg (by decide)]
    rfl
  rw [e]
  generalize x / 256 / 256 = y at h ⊢
  omega
theorem sg2 {x r C D : Int} (h : C = r * 256 + x / 256 / 256 % 256) (h2 : D = C % 256 * 256 + x / 256 % 256) : D / 16 % 64 = x / 64 / 64 % 64 := by
  have e : x / 64 / 64 = x / 256 / 16 := by
    rw [Int.ediv_ediv_of_nonneg (by decide), Int.ediv_ediv_of_nonneg (by decide)]
    rfl
  rw [e]
  generalize x / 256 = y at h h2 ⊢
  omega
theorem sg1 {x r C D : Int} (h : C = r * 256 + x / 256 % 256) (h2 : D = C % 256 * 256 + x % 256) : D / 64 % 64 = x / 64 % 64 := by omega
theorem sg0 {x r D : Int} (h2 : D = r * 256 + x % 256) : D / 1 % 64 = x % 64 := by omega
theorem b_in (y : Int) : 0 ≤ y % 256 ∧ y % 256 < 256 := ⟨Int.emod_nonneg _ (by decide), Int.emod_lt_of_pos _ (by decide)⟩
theorem chStep_lo (ch n : Int) : 0 ≤ chStep ch n := (chStep_bd ch n).1
theorem enc6_gen : ∀ (k : Nat) (x : Int), ∃ ch, 0 ≤ ch ∧ b64St ((digs 256 (3 * k) x).reverse) = (writtenBy signs6 (digs 64 (4 * k) x), 0, ch)
  | 0, x => ⟨0, by decide, rfl⟩
  | k + 1, x => by
    obtain ⟨ch, h0, ih⟩ := enc6_gen k (x / 16777216)
    rw [show 3 * (k + 1) = 3 * k + 1 + 1 + 1 from rfl, show 4 * (k + 1) = 4 * k + 1 + 1 + 1 + 1 from rfl]
    simp only [digs, List.reverse_cons, writ_cons]
    rw [div256, div64, b64St_snoc, b64St_snoc, b64St_snoc, ih, step0, step2, step4]
    have c1 := chStep_eq h0 (b_in (x / 256 / 256)).1 (b_in (x / 256 / 256)).2
    have c2 := chStep_eq (chStep_lo ch (x / 256 / 256 % 256)) (b_in (x / 256)).1 (b_in (x / 256)).2
    have c3 := chStep_eq (chStep_lo (chStep ch (x / 256 / 256 % 256)) (x / 256 % 256)) (b_in x).1 (b_in x).2
    refine ⟨chStep (chStep (chStep ch (x / 256 / 256 % 256)) (x / 256 % 256)) (x % 256), chStep_lo _ _, ?_⟩
    rw [sx_eq, sx_eq, sx_eq, sx_eq]
    generalize chStep (chStep (chStep ch (x / 256 / 256 % 256)) (x / 256 % 256)) (x % 256) = C3 at *
    generalize chStep (chStep ch (x / 256 / 256 % 256)) (x / 256 % 256) = C2 at *
    generalize chStep ch (x / 256 / 256 % 256) = C1 at *
    have d3 : C1 / 2 ^ Int.toNat 2 % 64 = x / 64 / 64 / 64 % 64 := sg3 c1
    have d2 : C2 / 2 ^ Int.toNat 4 % 64 = x / 64 / 64 % 64 := sg2 c1 c2
    have d1 : C3 / 2 ^ Int.toNat 6 % 64 = x / 64 % 64 := sg1 c2 c3
    have d0 : C3 / 2 ^ Int.toNat 0 % 64 = x % 64 := sg0 c3
    rw [d0, d1, d2, d3]
    simp only [List.append_assoc, List.cons_append, List.nil_append]
theorem b64_whole {A : List Int} (h : 3 ∣ A.length) : (b64St A).2.1 = 0 := by
  have : ∀ (A : List Int) (k : Nat) (st : List Int × Int × Int), st.2.1 = 2 * ((k % 3 : Nat) : Int) → (A.foldl b64Step st).2.1 = 2 * (((k + A.length) % 3 : Nat) : Int) := by
    intro A
    induction A with
    | nil => intro k st hs; exact hs
    | cons x r ih =>
      intro k st hs
      rw [List.foldl_cons, List.length_cons, show k + (r.length + 1) = k + 1 + r.length by omega]
      refine ih (k + 1) _ ?_
      unfold b64Step
      rcases (show k % 3 = 0 ∨ k % 3 = 1 ∨ k % 3 = 2 by omega) with e | e | e <;> rw [e] at hs
      · rw [if_pos (by rw [hs]; rfl)]; show (2 : Int) = _; omega
      · rw [if_neg (by rw [hs]; decide), if_pos (by rw [hs]; rfl)]; show (4 : Int) = _; omega
      · rw [if_neg (by rw [hs]; decide), if_neg (by rw [hs]; decide)]; show (0 : Int) = _; omega
  have h2 := this A 0 ([], 0, 0) rfl
  unfold b64St
  rw [h2]
  omega
end Mine
end
section
open PySem PySem.W PySem.Calls PyProof.Rows
namespace Mine
/-- the figures of a row's worth -/
def figs (n : Int) (A : List Int) : List Int := figures (worth A) n (((A.length : Int) * 8).fdiv n)
/-- the columns of two rows at a width -/
def cols (n : Int) (A B : List Int) : List Int := if n = 8 then columns A.reverse B.reverse else columns (figs n A) (figs n B)
def carr (n : Int) (A B : List Int) : List Int := (carSt (2 ^ n.toNat) (cols n A B)).1
/-- a row's threes -/
theorem row_k {A : List Int} (ok : RowOk A) : ∃ k, (k = 1 ∨ k = 2) ∧ A.length = 3 * k := by
  rcases ok.len with h | h
  · exact ⟨1, .inl rfl, h⟩
  · exact ⟨2, .inr rfl, h⟩
theorem figs4 {A : List Int} {k : Nat} (hk : A.length = 3 * k) (h0 : 0 ≤ worth A) : figs 4 A = digs 16 (6 * k) (worth A) := by
  unfold figs
  rw [figures_digs h0 (by decide), hk, Int.fdiv_eq_ediv_of_nonneg _ (by decide)]
  rw [show ((((3 * k : Nat) : Int) * 8) / 4).toNat = 6 * k by omega]
  rfl
theorem figs6 {A : List Int} {k : Nat} (hk : A.length = 3 * k) (h0 : 0 ≤ worth A) : figs 6 A = digs 64 (4 * k) (worth A) := by
  unfold figs
  rw [figures_digs h0 (by decide), hk, Int.fdiv_eq_ediv_of_nonneg _ (by decide)]
  rw [show ((((3 * k : Nat) : Int) * 8) / 6).toNat = 4 * k by omega]
  rfl
theorem row_digs {A : List Int} (ok : RowOk A) : A.reverse = digs 256 A.length (worth A) := by
  have := digs_ev (P := 256) (by decide) A.reverse fun z hz => ok.bd z (List.mem_reverse.mp hz)
  rw [List.length_reverse, ← worth_ev] at this
  exact this.symm
theorem worth_lt3 {A : List Int} (ok : RowOk A) {k : Nat} (hk : A.length = 3 * k) : worth A < 2 ^ (24 * k) := by
  have := (worth_lt ok.bd).2
  rwa [hk, show 8 * (3 * k) = 24 * k by omega] at this
theorem pow16 (k : Nat) : (16 : Int) ^ k = 2 ^ (4 * k) := by rw [show (16 : Int) = 2 ^ 4 from rfl, ← Int.pow_mul]
theorem pow64 (k : Nat) : (64 : Int) ^ k = 2 ^ (6 * k) := by rw [show (64 : Int) = 2 ^ 6 from rfl, ← Int.pow_mul]
theorem pow256 (k : Nat) : (256 : Int) ^ k = 2 ^ (8 * k) := by rw [show (256 : Int) = 2 ^ 8 from rfl, ← Int.pow_mul]
theorem ev4 {A : List Int} (ok : RowOk A) : ev 16 (figs 4 A) = worth A := by
  obtain ⟨k, _, hk⟩ := row_k ok
  rw [figs4 hk (worth_bd ok).1, ev_digs (by decide) _ _ (worth_bd ok).1]
  rw [pow16, show 4 * (6 * k) = 24 * k by omega]
  exact worth_lt3 ok hk
theorem ev6 {A : List Int} (ok : RowOk A) : ev 64 (figs 6 A) = worth A := by
  obtain ⟨k, _, hk⟩ := row_k ok
  rw [figs6 hk (worth_bd ok).1, ev_digs (by decide) _ _ (worth_bd ok).1]
  rw [pow64, show 6 * (4 * k) = 24 * k by omega]
  exact worth_lt3 ok hk
theorem figs_len {n : Int} (hn : n = 4 ∨ n = 6) {A : List Int} (ok : RowOk A) : 1 ≤ (figs n A).length ∧ (figs n A).length ≤ 12 := by
  obtain ⟨k, h12, hk⟩ := row_k ok
  rcases hn with rfl | rfl
  · rw [figs4 hk (worth_bd ok).1, digs_len]; omega
  · rw [figs6 hk (worth_bd ok).1, digs_len]; omega
theorem figs_bd {n : Int} (hn : n = 4 ∨ n = 6) {A : List Int} (ok : RowOk A) : ∀ x ∈ figs n A, 0 ≤ x ∧ x < 2 ^ n.toNat := by
  obtain ⟨k, h12, hk⟩ := row_k ok
  rcases hn with rfl | rfl
  · rw [figs4 hk (worth_bd ok).1]; exact digs_bd (by decide) _ _
  · rw [figs6 hk (worth_bd ok).1]; exact digs_bd (by decide) _ _
theorem cnt_bd {n : Int} (hn : n = 4 ∨ n = 6) {A : List Int} (ok : RowOk A) : 0 ≤ ((A.length : Int) * 8).fdiv n ∧ ((A.length : Int) * 8).fdiv n ≤ 24 := by
  rcases ok.len with h | h <;> rcases hn with rfl | rfl <;> rw [h] <;> decide
theorem cols8 (A B : List Int) : cols 8 A B = columns A.reverse B.reverse := rfl
theorem cols4 (A B : List Int) : cols 4 A B = columns (figs 4 A) (figs 4 B) := rfl
theorem cols6 (A B : List Int) : cols 6 A B = columns (figs 6 A) (figs 6 B) := rfl
theorem cols_ev {n : Int} (hn : n = 4 ∨ n = 6 ∨ n = 8) {A B : List Int} (okA : RowOk A) (okB : RowOk B) : ev (2 ^ n.toNat) (cols n A B) = worth A * worth B := by
  rcases hn with rfl | rfl | rfl
  · rw [cols4, columns_ev]; exact congr (congrArg _ (ev4 okA)) (ev4 okB)
  · rw [cols6, columns_ev]; exact congr (congrArg _ (ev6 okA)) (ev6 okB)
  · rw [cols8, columns_ev, worth_ev A, worth_ev B]; rfl
theorem cols_len4 {A B : List Int} (okA : RowOk A) (okB : RowOk B) : (cols 4 A B).length = 2 * (A.length + B.length) := by
  obtain ⟨k, _, hk⟩ := row_k okA
  obtain ⟨j, _, hj⟩ := row_k okB
  rw [cols4, columns_len, figs4 hk (worth_bd okA).1, figs4 hj (worth_bd okB).1, digs_len, digs_len, hk, hj]
  omega
theorem cols_len6 {A B : List Int} {k j : Nat} (okA : RowOk A) (okB : RowOk B) (hk : A.length = 3 * k) (hj : B.length = 3 * j) : (cols 6 A B).length = 4 * (k + j) := by
  rw [cols6, columns_len, figs6 hk (worth_bd okA).1, figs6 hj (worth_bd okB).1, digs_len, digs_len]
  omega
theorem cols_len8 {A B : List Int} : (cols 8 A B).length = A.length + B.length := by
  rw [cols8, columns_len, List.length_reverse, List.length_reverse]
theorem prod_lt {n : Int} (hn : n = 4 ∨ n = 6 ∨ n = 8) {A B : List Int} (okA : RowOk A) (okB : RowOk B) : 0 ≤ worth A * worth B ∧ worth A * worth B < ((2 : Int) ^ n.toNat) ^ (cols n A B).length := by
  obtain ⟨k, _, hk⟩ := row_k okA
  obtain ⟨j, _, hj⟩ := row_k okB
  have ha := worth_lt3 okA hk
  have hb := worth_lt3 okB hj
  have ha0 := (worth_bd okA).1
  have hb0 := (worth_bd okB).1
  refine ⟨Int.mul_nonneg ha0 hb0, ?_⟩
  have h1 : worth A * worth B < 2 ^ (24 * k + 24 * j) := by
    rw [Int.pow_add]
    have p1 := pow2_pos (24 * k)
    have p2 := pow2_pos (24 * j)
    have q1 := Int.mul_le_mul_of_nonneg_left (Int.le_of_lt hb) ha0
    have q2 := Int.mul_lt_mul_of_pos_right ha p2
    omega
  have e : ((2 : Int) ^ n.toNat) ^ (cols n A B).length = 2 ^ (24 * k + 24 * j) := by
    rw [← Int.pow_mul]
    congr 1
    rcases hn with rfl | rfl | rfl
    · rw [cols_len4 okA okB, hk, hj]; show 4 * _ = _; omega
    · rw [cols_len6 okA okB hk hj]; show 6 * _ = _; omega
    · rw [cols_len8, hk, hj]; show 8 * _ = _; omega
  rw [e]
  exact h1
theorem carr_digs {n : Int} (hn : n = 4 ∨ n = 6 ∨ n = 8) {A B : List Int} (okA : RowOk A) (okB : RowOk B) : carr n A B = digs (2 ^ n.toNat) (cols n A B).length (worth A * worth B) := by
  have h := prod_lt hn okA okB
  have e := cols_ev hn okA okB
  unfold carr
  rw [car_digs (pow2_pos _) _ (by rw [e]; exact h.1) (by rw [e]; exact h.2), e]
theorem d2i_cols {n : Int} (hn : n = 4 ∨ n = 6 ∨ n = 8) {A B : List Int} (okA : RowOk A) (okB : RowOk B) : dval n (cols n A B) 0 (cols n A B).length = worth A * worth B := by
  rw [dval_ev, cols_ev hn okA okB]
theorem i2d_bare {n : Int} (hn : n = 4 ∨ n = 6 ∨ n = 8) {A B : List Int} (okA : RowOk A) (okB : RowOk B) :
    writeDig n (((Builtin.Int.intBits (worth A * worth B) : Int) + n - 1).fdiv n).toNat 0 (worth A * worth B) (List.replicate (((Builtin.Int.intBits (worth A * worth B) : Int) + n - 1).fdiv n).toNat 0) = bare (carr n A B) := by
  have h := prod_lt hn okA okB
  rw [carr_digs hn okA okB]
  exact i2d_digs (by omega) h.1 h.2
theorem carr_bd {n : Int} {A B : List Int} : ∀ x ∈ carr n A B, 0 ≤ x ∧ x < 2 ^ n.toNat := (car_fold (pow2_pos _) (cols n A B) ([], 0) fun _ h => nomatch h).1
theorem carr_len {n : Int} {A B : List Int} : (carr n A B).length = (cols n A B).length := carSt_len _ _
/-- the product's octets -/
def prodRow (A B : List Int) : List Int := (carr 8 A B).reverse
theorem prod_len {A B : List Int} : (prodRow A B).length = A.length + B.length := by
  rw [prodRow, List.length_reverse, carr_len, cols_len8]
theorem prod_bd (A B : List Int) : ∀ x ∈ prodRow A B, 0 ≤ x ∧ x < 256 := fun x hx => carr_bd x (List.mem_reverse.mp hx)
theorem row_rev {A : List Int} (ok : RowOk A) : A = (digs 256 A.length (worth A)).reverse := by rw [← row_digs ok, List.reverse_reverse]
theorem prod_rev {A B : List Int} (okA : RowOk A) (okB : RowOk B) : prodRow A B = (digs 256 (A.length + B.length) (worth A * worth B)).reverse := by
  rw [prodRow, carr_digs (.inr (.inr rfl)) okA okB, cols_len8]
  rfl
/-- what b16encode writes -/
theorem enc4 {A : List Int} (ok : RowOk A) : ((((hexCps (byteArr A)).toList.map (·.toUInt8)).map Builtin.Bytes.toUpper).toArray) = byteArr (writtenBy signs4 (figs 4 A)) := by
  obtain ⟨k, _, hk⟩ := row_k ok
  have h := enc4_gen (m := A.length) (x := worth A)
  rw [← row_rev ok] at h
  rw [h, figs4 hk (worth_bd ok).1, hk, show 2 * (3 * k) = 6 * k by omega]
theorem enc4p {A B : List Int} (okA : RowOk A) (okB : RowOk B) : ((((hexCps (byteArr (prodRow A B))).toList.map (·.toUInt8)).map Builtin.Bytes.toUpper).toArray) = byteArr (writtenBy signs4 (carr 4 A B)) := by
  have h := enc4_gen (m := A.length + B.length) (x := worth A * worth B)
  rw [← prod_rev okA okB] at h
  rw [h, carr_digs (.inl rfl) okA okB, cols_len4 okA okB]
  rfl
theorem enc6 {A : List Int} (ok : RowOk A) : byteArr (b64St A).1 = byteArr (writtenBy signs6 (figs 6 A)) := by
  obtain ⟨k, _, hk⟩ := row_k ok
  obtain ⟨ch, _, h⟩ := enc6_gen k (worth A)
  rw [← hk, ← row_rev ok] at h
  rw [h, figs6 hk (worth_bd ok).1]
theorem enc6p {A B : List Int} (okA : RowOk A) (okB : RowOk B) : byteArr (b64St (prodRow A B)).1 = byteArr (writtenBy signs6 (carr 6 A B)) := by
  obtain ⟨k, _, hk⟩ := row_k okA
  obtain ⟨j, _, hj⟩ := row_k okB
  obtain ⟨ch, _, h⟩ := enc6_gen (k + j) (worth A * worth B)
  rw [show 3 * (k + j) = A.length + B.length by omega, ← prod_rev okA okB] at h
  rw [h, carr_digs (.inr (.inl rfl)) okA okB, cols_len6 okA okB hk hj]
  rfl
end Mine
end
section
open PySem PySem.W PySem.Calls PyProof.Rows
namespace Mine
theorem cut2 {M : Model} {A : Around} {Q : Flow → Shared → Prop} {E : Value → Shared → Prop} {s : Shared} {env : Env} {s1 s2 : Stmt} {rest : List Stmt} (C1 C : Shared → Prop)
    (h1 : wpAny M A (exec s1 env) (fun f t => f = .next ∧ C1 t) E s) (h12 : ∀ t, C1 t → wpAny M A (exec s2 env) (fun f t => f = .next ∧ C t) E t) (h2 : ∀ t, C t → wpAny M A (execs rest env) Q E t) : wpAny M A (execs (s1 :: s2 :: rest) env) Q E s := by
  refine wpAny_execs_cons (wpAny_mono h1 (fun f t hf => ?_) fun _ _ x => x)
  obtain ⟨rfl, hf⟩ := hf
  refine wpAny_execs_cons (wpAny_mono (h12 _ hf) (fun f t hf => ?_) fun _ _ x => x)
  obtain ⟨rfl, hf⟩ := hf
  exact h2 _ hf
theorem isList_of {h : Heap} {l : Addr} {its : Array Value} {n : Nat} (e : h.get? l = some (W.listOf its n)) : h.IsList l its.toList.toArray := by
  rw [Array.toArray_toList]
  exact PySem.IsL.isList (n := n) e
theorem isList_of' {h : Heap} {l : Addr} {vs : List Value} {n : Nat} (e : h.get? l = some (W.listOf vs.toArray n)) : h.IsList l vs.toArray := PySem.IsL.isList (n := n) e
theorem ne_list {h : Heap} {a P : Addr} {its : Array Value} {n : Nat} {ps : Array Value} (e1 : h.get? a = some (W.listOf its n)) (e2 : h.get? P = some (tabObj ps)) : a ≠ P := by
  rintro rfl
  rw [e1] at e2
  cases e2
theorem ne_cell {h : Heap} {a P : Addr} {o : Obj} {v : Option Value} {ps : Array Value} (e1 : h.get? a = some o) (hd : o.data = .cell v) (e2 : h.get? P = some (tabObj ps)) : a ≠ P := by
  rintro rfl
  rw [e1] at e2
  cases e2
  cases hd
theorem b16_gen {w : World} {p : Program} {loose : List Str} {mean : ExcName → Option Value} {mg mb : Str → Option Value} {dp un : Nat} {gd : Option (List Code)} {cn : Str} {cs : Scope} {a : Addr} {ccd : Value} {cl : List (Str × Addr)} {outer : List Env} {A₀ : Around} {base h₀ : Heap} {L : Addr} {m : Str → Option Value} {s : Shared} {Q E : Value → Shared → Prop}
    (B : Below A₀ base outer h₀) (F : Fr h₀ L s.heap m) (X : (hd.heap_39 w.params).In h₀) (T : Top p loose mean mg mb h₀) (hk : cs.kind = .function) (hd : dp + 3 < recursionLimit) (hu : un + 30 < cLine)
    {b : Array UInt8} {t1 : Tok} (hb : 3 ≤ b.size) (hlen : b.size ≤ 24)
    (ret : ∀ (b' : Array UInt8) (t : Tok) (h' : Heap) (tk' : Nat), b' = ((((hexCps b).toList.map (·.toUInt8)).map Builtin.Bytes.toUpper).toArray) → (∀ b o, s.heap.get? b = some o → h'.get? b = some o) → Q (.bytes b' t) { s with heap := h', toks := tk' }) :
    wpAny (model PySem.Challenge.rw_nb0068_01.row.prog w) (ktrTop dp un gd cn cs L a ccd cl outer) (call (.ref 81) [.bytes b t1]) Q E s :=
  b16_spec B F X T hk hd hu hb hlen fun t h' tk' hk' => ret _ t h' tk' rfl hk'
theorem b64_gen {w : World} {p : Program} {loose : List Str} {mean : ExcName → Option Value} {mg mb : Str → Option Value} {dp un : Nat} {gd : Option (List Code)} {cn : Str} {cs : Scope} {a : Addr} {ccd : Value} {cl : List (Str × Addr)} {outer : List Env} {A₀ : Around} {base h₀ : Heap} {L : Addr} {m : Str → Option Value} {s : Shared} {Q E : Value → Shared → Prop}
    (B : Below A₀ base outer h₀) (F : Fr h₀ L s.heap m) (X : (hd.heap_39 w.params).In h₀) (T : Top p loose mean mg mb h₀) (hk : cs.kind = .function) (hd : dp + 3 < recursionLimit) (hu : un + 30 < cLine)
    {b : Array UInt8} {t1 : Tok} {ns : List Int} (hb : KBw.bInts b = ns) (hlen : ns.length ≤ 24) (h3 : (b64St ns).2.1 = 0)
    (ret : ∀ (b' : Array UInt8) (t : Tok) (h' : Heap) (tk' : Nat), b' = byteArr (b64St ns).1 → (∀ b o, s.heap.get? b = some o → h'.get? b = some o) → Q (.bytes b' t) { s with heap := h', toks := tk' }) :
    wpAny (model PySem.Challenge.rw_nb0068_01.row.prog w) (ktrTop dp un gd cn cs L a ccd cl outer) (call (.ref 74) [.bytes b t1]) Q E s :=
  b64_spec B F X T hk hd hu hb hlen h3 fun t h' tk' hk' => ret _ t h' tk' rfl hk'
theorem written4_gen {w : World} {p : Program} {loose : List Str} {mean : ExcName → Option Value} {mg mb : Str → Option Value} {dp un : Nat} {gd : Option (List Code)} {cn : Str} {cs : Scope} {a : Addr} {ccd : Value} {cl : List (Str × Addr)} {outer : List Env} {A₀ : Around} {base h₀ : Heap} {L : Addr} {m : Str → Option Value} {s : Shared} {Q E : Value → Shared → Prop}
    (B : Below A₀ base outer h₀) (F : Fr h₀ L s.heap m) (X : (hd.heap_39 w.params).In h₀) (T : Top p loose mean mg mb h₀) (hk : cs.kind = .function) (hd : dp + 1 < recursionLimit) (hu : un + 8 < cLine)
    {l : Addr} {vs : List Value} {ns : List Int} {t2 : Tok} (hl : s.heap.IsList l vs.toArray) (hi : IntsAre vs ns) (hlen : ns.length ≤ 24) (hb : ∀ n ∈ ns, 0 ≤ n ∧ n < 16)
    (ret : ∀ (b' : Array UInt8) (t : Tok) (h' : Heap) (tk' : Nat), b' = byteArr (writtenBy signs4 ns) → (∀ b o, s.heap.get? b = some o → h'.get? b = some o) → Q (.bytes b' t) { s with heap := h', toks := tk' }) :
    wpAny (model PySem.Challenge.rw_nb0068_01.row.prog w) (ktrTop dp un gd cn cs L a ccd cl outer) (call (.ref 126) [.ref l, .int 4 t2]) Q E s :=
  written4_spec B F X T hk hd hu hl hi hlen hb fun t h' tk' hk' => ret _ t h' tk' rfl hk'
theorem written6_gen {w : World} {p : Program} {loose : List Str} {mean : ExcName → Option Value} {mg mb : Str → Option Value} {dp un : Nat} {gd : Option (List Code)} {cn : Str} {cs : Scope} {a : Addr} {ccd : Value} {cl : List (Str × Addr)} {outer : List Env} {A₀ : Around} {base h₀ : Heap} {L : Addr} {m : Str → Option Value} {s : Shared} {Q E : Value → Shared → Prop}
    (B : Below A₀ base outer h₀) (F : Fr h₀ L s.heap m) (X : (hd.heap_39 w.params).In h₀) (T : Top p loose mean mg mb h₀) (hk : cs.kind = .function) (hd : dp + 1 < recursionLimit) (hu : un + 8 < cLine)
    {l : Addr} {vs : List Value} {ns : List Int} {t2 : Tok} (hl : s.heap.IsList l vs.toArray) (hi : IntsAre vs ns) (hlen : ns.length ≤ 24) (hb : ∀ n ∈ ns, 0 ≤ n ∧ n < 64)
    (ret : ∀ (b' : Array UInt8) (t : Tok) (h' : Heap) (tk' : Nat), b' = byteArr (writtenBy signs6 ns) → (∀ b o, s.heap.get? b = some o → h'.get? b = some o) → Q (.bytes b' t) { s with heap := h', toks := tk' }) :
    wpAny (model PySem.Challenge.rw_nb0068_01.row.prog w) (ktrTop dp un gd cn cs L a ccd cl outer) (call (.ref 126) [.ref l, .int 6 t2]) Q E s :=
  written6_spec B F X T hk hd hu hl hi hlen hb fun t h' tk' hk' => ret _ t h' tk' rfl hk'
theorem news_drop {h₀ h : Heap} {L : Addr} {nw : List (Addr × Obj)} (k : Nat) (N : News h₀ L h nw) : News h₀ L h (nw.drop k) := fun p hp => N p (List.mem_of_mem_drop hp)
theorem ne_celled {h : Heap} {a c : Addr} {o oc : Obj} {v : Option Value} (e1 : h.get? a = some o) (n : ∀ v, o.data ≠ .cell v) (e2 : h.get? c = some oc) (hd : oc.data = .cell v) : a ≠ c := by
  rintro rfl
  rw [e1] at e2
  cases e2
  exact n _ hd
theorem noTab_cls {o : Obj} {x : String} (h : o.cls = .type x) : NoTab o := fun _ _ _ _ ps _ e => by
  rw [e] at h
  cases h
theorem noTab_tup {vs : Array Value} : NoTab { cls := .type "tuple", data := .seq vs } := fun _ _ _ _ ps _ e => by cases e
theorem worth_mul {A B : List Int} (okA : RowOk A) (okB : RowOk B) : 0 ≤ worth A * worth B ∧ Builtin.Int.intBits (worth A * worth B) ≤ 192 := by
  have ha := worth_bd okA
  have hb := worth_bd okB
  refine ⟨Int.mul_nonneg ha.1 hb.1, ?_⟩
  have h1 := bits_le ha.1 ha.2
  have h2 := bits_le hb.1 hb.2
  exact Nat.le_trans (intBits_mul_le h1 h2) (by decide)
set_option maxRecDepth 100000 in
set_option maxHeartbeats 32000000 in
theorem law_holds : PySem.Challenge.rw_nb0068_01.Holds := hd (by
  k_go0
  w_top on
  k_with_none
  dsimp only
  rename Fr _ _ _ _ => F0
  rename News _ _ _ _ => N0
  rename Frag.In _ _ => X0
  rename Top _ _ _ _ _ _ => T0
  rename Below _ _ _ _ => B0
  rename IntsAre _ _ => hI
  rename Heap.IsList _ _ _ => hL
  rename_i w s₀ s₁ mg mb G Y fa o pm cd doc ho hcd hg XM V T B TE TW ns hs hlay0 hLay hr hl2 as1 as2 l vs as3 hLs ra w1 r0 hr2 hmost hcT hDf h1 tk1 oc dc XC C34 l0
  have hm : ns.length ≤ 63 := by omega
  clear XM V T B TE TW G
  clear ra w1 r0 hr2 hcT hDf XC hLs hs hlay0 hr hl2
  refine cut2
    (fun t => ∃ (h : Heap) (tk : Nat) (a1 : Addr) (vA : List Value) (A : List Int) (e1 : Nat) (m : Str → Option Value), t = { s₁ with heap := h, toks := tk } ∧ Fr (ghostOf s₁.heap [(34, 30), (27, 23)]) s₁.heap.objs.size h m ∧ m (Str.ofString "first") = some (.ref a1) ∧ m (Str.ofString "script") = some (.ref l) ∧
      News (ghostOf s₁.heap [(34, 30), (27, 23)]) s₁.heap.objs.size h [(a1, W.listOf vA.toArray e1), (s₁.heap.objs.size + 1, oc), (30, tabObj #[]), (23, tabObj #[])] ∧ IntsAre vA A ∧ RowOk A)
    (fun t => ∃ (h : Heap) (tk : Nat) (a1 a2 : Addr) (vA vB : List Value) (A B : List Int) (e1 e2 : Nat) (m : Str → Option Value), t = { s₁ with heap := h, toks := tk } ∧ Fr (ghostOf s₁.heap [(34, 30), (27, 23)]) s₁.heap.objs.size h m ∧ m (Str.ofString "first") = some (.ref a1) ∧ m (Str.ofString "second") = some (.ref a2) ∧
      News (ghostOf s₁.heap [(34, 30), (27, 23)]) s₁.heap.objs.size h [(a2, W.listOf vB.toArray e2), (a1, W.listOf vA.toArray e1), (s₁.heap.objs.size + 1, oc), (30, tabObj #[]), (23, tabObj #[])] ∧ IntsAre vA A ∧ IntsAre vB B ∧ RowOk A ∧ RowOk B) ?c1 ?c12 ?c2
  case c1 =>
    repeat' (first | ((fail_if_success (with_reducible show wpAny _ _ (call (Value.ref _) _) _ _ _)); first | (k_unfold; (try dsimp only)) | walk1 | (dsimp only; walk1)) | fail "stop")
    · rename_i h5 F5 N5 lt5
      (show wpAny _ _ (call (Value.ref 86) [Value.ref _]) _ _ _)
      refine filled_spec B0 F5 X0 T0 rfl (by decide) (by decide) (isList_of' (N5 _ (.head _)).1) (.cons _ _ (.cons _ _ (.cons _ _ .nil))) (by decide) ?_
      intro r ws e h6 tk6 hk6 hr6 hg6 hi6
      have F6 := F5.keeps hk6
      have N6 := kst_newsOf (news_more F5 N5 hk6 hr6 hg6) (l' := [(r, W.listOf ws.toArray e), (s₁.heap.objs.size + 1, oc), (30, tabObj #[]), (23, tabObj #[])]) (SubL.mem (by k_subL))
      clear F5 N5
      repeat' (first | ((fail_if_success (with_reducible show wpAny _ _ (storeName _ _ _) _ _ _)); first | (k_unfold; (try dsimp only)) | walk1 | (dsimp only; walk1)) | fail "stop")
      refine storeX_L F6 N6 ?_
      intro h7 F7 N7
      exact ⟨trivial, h7, _, r, ws, _, e, _, rfl, F7, rfl, rfl, N7, hi6, filled_ok (by decide) (by decide)⟩
    · rename_i hne h5 F5 N5
      have hnn : ns ≠ [] := by simpa using hne
      have hpl : 1 ≤ (pickNums ns (some 0) (some 12) (some 2)).length ∧ (pickNums ns (some 0) (some 12) (some 2)).length ≤ 6 := pick_len (a := 0) (by decide) (by cases ns with | nil => exact absurd rfl hnn | cons x r => simp)
      (show wpAny _ _ (call (Value.ref 86) [Value.ref _]) _ _ _)
      refine filled_spec B0 F5 X0 T0 rfl (by decide) (by decide) (isList_of (N5 _ (.head _)).1) (hI.pick (some 0) (some 12) (some 2)) (by omega) ?_
      intro r ws e h6 tk6 hk6 hr6 hg6 hi6
      have F6 := F5.keeps hk6
      have N6 := kst_newsOf (news_more F5 N5 hk6 hr6 hg6) (l' := [(r, W.listOf ws.toArray e), (s₁.heap.objs.size + 1, oc), (30, tabObj #[]), (23, tabObj #[])]) (SubL.mem (by k_subL))
      clear F5 N5
      repeat' (first | ((fail_if_success (with_reducible show wpAny _ _ (storeName _ _ _) _ _ _)); first | (k_unfold; (try dsimp only)) | walk1 | (dsimp only; walk1)) | fail "stop")
      refine storeX_L F6 N6 ?_
      intro h7 F7 N7
      exact ⟨trivial, h7, _, r, ws, _, e, _, rfl, F7, rfl, rfl, N7, hi6, filled_ok hpl.1 hpl.2⟩
  case c12 =>
    intro t ht
    obtain ⟨h, tk, a1, vA, A, e1, m, rfl, F1, m1, m2, N1, iA, okA⟩ := ht
    have em : m = fun y => if y = Str.ofString "first" then some (.ref a1) else if y = Str.ofString "script" then some (.ref l) else m y := by
      funext y
      by_cases h1 : y = Str.ofString "first"
      · rw [if_pos h1, h1, m1]
      · rw [if_neg h1]
        by_cases h2 : y = Str.ofString "script"
        · rw [if_pos h2, h2, m2]
        · rw [if_neg h2]
    rw [em] at F1
    clear em F0 N0
    repeat' (first | ((fail_if_success (with_reducible show wpAny _ _ (call (Value.ref _) _) _ _ _)); first | (k_unfold; (try dsimp only)) | walk1 | (dsimp only; walk1)) | fail "stop")
    · rename_i hgt h5 F5 N5
      have hpl : 1 ≤ (pickNums ns (some 1) (some 12) (some 2)).length ∧ (pickNums ns (some 1) (some 12) (some 2)).length ≤ 6 := pick_len (a := 1) (by decide) (by omega)
      (show wpAny _ _ (call (Value.ref 86) [Value.ref _]) _ _ _)
      refine filled_spec B0 F5 X0 T0 rfl (by decide) (by decide) (isList_of (N5 _ (.head _)).1) (hI.pick (some 1) (some 12) (some 2)) (by omega) ?_
      intro r ws e h6 tk6 hk6 hr6 hg6 hi6
      have F6 := F5.keeps hk6
      have N6 := kst_newsOf (news_more F5 N5 hk6 hr6 hg6) (l' := [(r, W.listOf ws.toArray e), (a1, W.listOf vA.toArray e1), (s₁.heap.objs.size + 1, oc), (30, tabObj #[]), (23, tabObj #[])]) (SubL.mem (by k_subL))
      clear F5 N5
      repeat' (first | ((fail_if_success (with_reducible show wpAny _ _ (storeName _ _ _) _ _ _)); first | (k_unfold; (try dsimp only)) | walk1 | (dsimp only; walk1)) | fail "stop")
      refine storeX_L F6 N6 ?_
      intro h7 F7 N7
      exact ⟨trivial, h7, _, a1, r, vA, ws, A, _, e1, e, _, rfl, F7, rfl, rfl, N7, iA, hi6, okA, filled_ok hpl.1 hpl.2⟩
    · rename_i hgt l5 h5 F5 N5 lt5
      (show wpAny _ _ (call (Value.ref 86) [Value.ref _]) _ _ _)
      refine filled_spec B0 F5 X0 T0 rfl (by decide) (by decide) (isList_of' (N5 _ (.head _)).1) (.cons _ _ (.cons _ _ .nil)) (by decide) ?_
      intro r ws e h6 tk6 hk6 hr6 hg6 hi6
      have F6 := F5.keeps hk6
      have N6 := kst_newsOf (news_more F5 N5 hk6 hr6 hg6) (l' := [(r, W.listOf ws.toArray e), (a1, W.listOf vA.toArray e1), (s₁.heap.objs.size + 1, oc), (30, tabObj #[]), (23, tabObj #[])]) (SubL.mem (by k_subL))
      clear F5 N5
      repeat' (first | ((fail_if_success (with_reducible show wpAny _ _ (storeName _ _ _) _ _ _)); first | (k_unfold; (try dsimp only)) | walk1 | (dsimp only; walk1)) | fail "stop")
      refine storeX_L F6 N6 ?_
      intro h7 F7 N7
      exact ⟨trivial, h7, _, a1, r, vA, ws, A, _, e1, e, _, rfl, F7, rfl, rfl, N7, iA, hi6, okA, filled_ok (by decide) (by decide)⟩
  case c2 =>
    intro t ht
    obtain ⟨h, tk, a1, a2, vA, vB, A, B, e1, e2, m, rfl, F1, m1, m2, N1, iA, iB, okA, okB⟩ := ht
    have em : m = fun y => if y = Str.ofString "first" then some (.ref a1) else if y = Str.ofString "second" then some (.ref a2) else m y := by
      funext y
      by_cases h1 : y = Str.ofString "first"
      · rw [if_pos h1, h1, m1]
      · rw [if_neg h1]
        by_cases h2 : y = Str.ofString "second"
        · rw [if_pos h2, h2, m2]
        · rw [if_neg h2]
    rw [em] at F1
    clear em F0 N0 hI hL
    have hA24 : A.length ≤ 24 := by have := okA.len; omega
    have hB24 : B.length ≤ 24 := by have := okB.len; omega
    have nA : NoTab (W.listOf vA.toArray e1) := noTab_list
    have nB : NoTab (W.listOf vB.toArray e2) := noTab_list
    have nc : NoTab oc := noTab_cell dc
    have lenA : 3 ≤ A.length ∧ A.length ≤ 24 := by have := okA.len; omega
    have lenB : 3 ≤ B.length ∧ B.length ≤ 24 := by have := okB.len; omega
    have lenprod : 3 ≤ (prodRow A B).length ∧ (prodRow A B).length ≤ 24 := by
      have h1 := okA.len
      have h2 := okB.len
      rw [prod_len]
      omega
    have divA : 3 ∣ A.length := by rcases okA.len with h | h <;> rw [h] <;> decide
    have divB : 3 ∣ B.length := by rcases okB.len with h | h <;> rw [h] <;> decide
    have divprod : 3 ∣ (prodRow A B).length := by rw [prod_len]; exact Nat.dvd_add divA divB
    -- the two tables' codes
    have Z1 : ∃ (k1 k2 : Addr) (o1 o2 : Obj) (p q : Array Value), News (ghostOf s₁.heap [(34, 30), (27, 23)]) s₁.heap.objs.size h [(a2, W.listOf vB.toArray e2), (a1, W.listOf vA.toArray e1), (s₁.heap.objs.size + 1, oc), (k1, o1), (k2, o2), (30, tabObj p), (23, tabObj q)] ∧ Kept o1 ∧ Kept o2 ∧ Rp (ghostOf s₁.heap [(34, 30), (27, 23)]) k1 o1 dQual 23 4 p ∧ Rp (ghostOf s₁.heap [(34, 30), (27, 23)]) k2 o2 iQual 8 4 q :=
      ⟨a1, a1, W.listOf vA.toArray e1, W.listOf vA.toArray e1, #[], #[], kst_newsOf N1 (SubL.mem (by k_subL)), kept_list, kept_list, .nil, .nil⟩
    obtain ⟨k1, k2, o1, o2, p1, q1, N1', n1, n2, R1, R2⟩ := Z1
    clear N1
    have N1 := N1'
    clear N1'
    -- product
    repeat' (first | ((fail_if_success (with_reducible show wpAny _ _ (call (Value.ref _) _) _ _ _)); first | (k_unfold; (try dsimp only)) | walk1 | (dsimp only; walk1)) | fail "stop")
    (show wpAny _ _ (call (Value.ref 93) [Value.ref a1]) _ _ _)
    refine worth_spec B0 F1 X0 T0 rfl (by decide) (by decide) (isList_of' (N1 (a1, W.listOf vA.toArray e1) (by k_mem)).1) iA hA24 okA.bd ?_
    intro t2 h2 tk2 hk2
    have F2 := F1.keeps hk2
    have N2 := N1.grown hk2
    clear F1 N1 hk2
    repeat' (first | ((fail_if_success (with_reducible show wpAny _ _ (call (Value.ref _) _) _ _ _)); first | (k_unfold; (try dsimp only)) | walk1 | (dsimp only; walk1)) | fail "stop")
    (show wpAny _ _ (call (Value.ref 93) [Value.ref a2]) _ _ _)
    refine worth_spec B0 F2 X0 T0 rfl (by decide) (by decide) (isList_of' (N2 (a2, W.listOf vB.toArray e2) (by k_mem)).1) iB hB24 okB.bd ?_
    intro t3 h3 tk3 hk3
    have F3 := F2.keeps hk3
    have N3 := N2.grown hk3
    clear F2 N2 hk3
    repeat' (first | ((fail_if_success (with_reducible show wpAny _ _ (binaryOp Operator.Mult _ _) _ _ _)); first | (k_unfold; (try dsimp only)) | walk1 | (dsimp only; walk1)) | fail "stop")
    refine mul_int ?_ (IntMulOk.of_left (bits_le (k := 64) (worth_bd okA).1 (Int.lt_trans (worth_bd okA).2 (by decide)))) 
    -- columns
    repeat' (first | ((fail_if_success (with_reducible show wpAny _ _ (call (Value.ref _) _) _ _ _)); first | (k_unfold; (try dsimp only)) | walk1 | (dsimp only; walk1)) | fail "stop")
    rename Fr _ _ _ _ => F4
    rename News _ _ _ _ => N4
    rename IntsAre _ (List.reverse A) => iAr
    rename IntsAre _ (List.reverse B) => iBr
    have hA12 : A.reverse.length ≤ 12 := by rw [List.length_reverse]; have := okA.len; omega
    have hB12 : B.reverse.length ≤ 12 := by rw [List.length_reverse]; have := okB.len; omega
    have hAr : ∀ x ∈ A.reverse, 0 ≤ x ∧ x < 256 := fun x hx => okA.bd x (List.mem_reverse.mp hx)
    have hBr : ∀ x ∈ B.reverse, 0 ≤ x ∧ x < 256 := fun x hx => okB.bd x (List.mem_reverse.mp hx)
    (show wpAny _ _ (call (Value.ref 107) [Value.ref _, Value.ref _]) _ _ _)
    refine columns_spec B0 F4 X0 T0 rfl (by decide) (by decide) (isList_of' (N4 _ (.tail _ (.head _))).1) iAr (isList_of' (N4 _ (.head _)).1) iBr hA12 hB12 hAr ?_
    intro rC wsC eC h5 tk5 hk5 hr5 hg5 iC
    have F5 := F4.keeps hk5
    have N5 := kst_newsOf (news_more F4 N4 hk5 hr5 hg5) (l' := [(rC, W.listOf wsC.toArray eC), (a2, W.listOf vB.toArray e2), (a1, W.listOf vA.toArray e1), (s₁.heap.objs.size + 1, oc), (k1, o1), (k2, o2), (30, tabObj p1), (23, tabObj q1)]) (SubL.mem (by k_subL))
    clear F4 N4 hk5 hr5 hg5 iAr iBr
    have hC8 : cols 8 A B = columns A.reverse B.reverse := rfl
    rw [← hC8] at iC
    have hC24 : (cols 8 A B).length ≤ 24 := by rw [hC8, columns_len]; omega
    have hC1 : 1 ≤ (cols 8 A B).length := by rw [hC8, columns_len, List.length_reverse]; have := okA.len; omega
    have hCb : ∀ z ∈ cols 8 A B, 0 ≤ z ∧ z < 16777216 := columns_bd hAr hBr hA12 hB12
    -- carried
    repeat' (first | ((fail_if_success (with_reducible show wpAny _ _ (call (Value.ref _) _) _ _ _)); first | (k_unfold; (try dsimp only)) | walk1 | (dsimp only; walk1)) | fail "stop")
    rename Fr _ _ _ _ => F6
    rename News _ _ _ _ => N6
    (show wpAny _ _ (call (Value.ref 114) [Value.ref rC, Value.int 8 _]) _ _ _)
    refine carried_spec B0 F6 X0 T0 rfl (by decide) (by decide) (isList_of' (N6 _ (.head _)).1) iC hC24 (by decide) (by decide) ?_
    intro rD wsD eD h7 tk7 hk7 hr7 hg7 iD
    have F7 := F6.keeps hk7
    have N7 := news_more F6 N6 hk7 hr7 hg7
    clear F6 N6 hk7 hr7 hg7
    replace iD : IntsAre wsD (carr 8 A B) := iD
    -- _digits2int
    repeat' (first | ((fail_if_success (with_reducible show wpAny _ _ (call (Value.ref _) _) _ _ _)); first | (k_unfold; (try dsimp only)) | walk1 | (dsimp only; walk1)) | fail "stop")
    rename Fr _ _ _ _ => F8
    rename News _ _ _ _ => N8
    (show wpAny _ _ (call (Value.ref 35) [Value.ref rC, Value.int 8 _]) _ _ _)
    refine d2i_lawR B0 F8 X0 T0 rfl (by decide) (by decide) (pre := [(rD, W.listOf wsD.toArray eD), (rC, W.listOf wsC.toArray eC), (a2, W.listOf vB.toArray e2), (a1, W.listOf vA.toArray e1), (s₁.heap.objs.size + 1, oc)]) (e := eC) N8 (by exact List.forall_mem_cons.mpr ⟨noTab_list, List.forall_mem_cons.mpr ⟨noTab_list, List.forall_mem_cons.mpr ⟨nB, List.forall_mem_cons.mpr ⟨nA, List.forall_mem_cons.mpr ⟨nc, fun _ h => nomatch h⟩⟩⟩⟩⟩) n1 n2 R1 R2 (by k_mem) iC hC24 hC1 (by decide) (by decide) hCb C34 l0.1 ?_
    clear R1 n1 F8 N8
    intro t9 h9 tk9 p2 k3 o3 F9 N9 n3 R3 _
    simp only [List.cons_append, List.nil_append] at N9
    rw [d2i_cols (.inr (.inr rfl)) okA okB]
    repeat' (first | ((fail_if_success (with_reducible show wpAny _ _ (compareOp _ _ _) _ _ _)); first | (k_unfold; (try dsimp only)) | walk1 | (dsimp only; walk1)) | fail "stop")
    refine ne_int ?_
    rw [show (worth A * worth B != worth A * worth B) = false by simp]
    -- _int2digits
    repeat' (first | ((fail_if_success (with_reducible show wpAny _ _ (call (Value.ref _) _) _ _ _)); first | (k_unfold; (try dsimp only)) | walk1 | (dsimp only; walk1)) | fail "stop")
    rename Fr _ _ _ _ => F10
    rename News _ _ _ _ => N10
    (show wpAny _ _ (call (Value.ref 28) [Value.int _ _, Value.int 8 _]) _ _ _)
    refine i2d_lawR B0 F10 X0 T0 rfl (by decide) (by decide) (pre := [(rD, W.listOf wsD.toArray eD), (rC, W.listOf wsC.toArray eC), (a2, W.listOf vB.toArray e2), (a1, W.listOf vA.toArray e1), (s₁.heap.objs.size + 1, oc)]) N10 (by exact List.forall_mem_cons.mpr ⟨noTab_list, List.forall_mem_cons.mpr ⟨noTab_list, List.forall_mem_cons.mpr ⟨nB, List.forall_mem_cons.mpr ⟨nA, List.forall_mem_cons.mpr ⟨nc, fun _ h => nomatch h⟩⟩⟩⟩⟩) n3 n2 R3 R2 (worth_mul okA okB).1 (by decide) (by decide) (worth_mul okA okB).2 (by assumption) l0.2 ?_
    clear R2 n2 F10 N10
    intro rI wsI eI h11 tk11 q2 k4 o4 F11 N11 n4 R4 _ iI
    simp only [List.cons_append, List.nil_append] at N11
    rw [i2d_bare (.inr (.inr rfl)) okA okB] at iI
    repeat' (first | ((fail_if_success (with_reducible show wpAny _ _ (call (Value.ref _) _) _ _ _)); first | (k_unfold; (try dsimp only)) | walk1 | (dsimp only; walk1)) | fail "stop")
    rename Fr _ _ _ _ => F12
    rename News _ _ _ _ => N12
    (show wpAny _ _ (call (Value.ref 121) [Value.ref rD]) _ _ _)
    refine bare_spec B0 F12 X0 T0 rfl (by decide) (by decide) (isList_of' (N12 (rD, W.listOf wsD.toArray eD) (by k_mem)).1) iD (by rw [carr_len]; exact hC24) ?_
    intro rB wsB eB h13 tk13 hk13 hr13 hg13 iB'
    have F13 := F12.keeps hk13
    have N13 := news_more F12 N12 hk13 hr13 hg13
    clear F12 N12 hk13 hr13 hg13
    repeat' (first | ((fail_if_success (with_reducible show wpAny _ _ (compareOp _ _ _) _ _ _)); first | (k_unfold; (try dsimp only)) | walk1 | (dsimp only; walk1)) | fail "stop")
    refine ne_intsK (isList_of' (N13 (rI, W.listOf wsI.toArray eI) (by k_mem)).1) iI (isList_of' (N13 (rB, W.listOf wsB.toArray eB) (by k_mem)).1) iB' (by first | exact (by decide : 0 + 64 < cLine) | exact (by decide : 1 + 64 < cLine) | exact (by decide : 2 + 64 < cLine) | exact of_decide_eq_true rfl) ?_
    rw [decide_eq_true rfl]
    have N14 := kst_newsOf N13 (l' := [(rD, W.listOf wsD.toArray eD), (a2, W.listOf vB.toArray e2), (a1, W.listOf vA.toArray e1), (s₁.heap.objs.size + 1, oc), (k3, o3), (k4, o4), (30, tabObj p2), (23, tabObj q2)]) (SubL.mem (by k_subL))
    clear N13
    -- rows
    repeat' (first | ((fail_if_success (with_reducible show wpAny _ _ (call (Value.type _) _) _ _ _)); first | (k_unfold; (try dsimp only)) | walk1 | (dsimp only; walk1)) | fail "stop")
    rename Fr _ _ _ _ => F15
    rename News _ _ _ _ => N15
    (show wpAny _ _ (call (Value.type _) [Value.ref a1]) _ _ _)
    refine KBa.make_K F15 N15 rfl (isList_of' (N15 (a1, W.listOf vA.toArray e1) (by k_mem)).1) iA okA.bd (by omega) ?_
    intro h16 t16 tk16 F16 N16 _
    clear F15 N15
    repeat' (first | ((fail_if_success (with_reducible show wpAny _ _ (call (Value.type _) _) _ _ _)); first | (k_unfold; (try dsimp only)) | walk1 | (dsimp only; walk1)) | fail "stop")
    (show wpAny _ _ (call (Value.type _) [Value.ref a2]) _ _ _)
    refine KBa.make_K F16 N16 rfl (isList_of' (N16 (a2, W.listOf vB.toArray e2) (by k_mem)).1) iB okB.bd (by omega) ?_
    intro h17 t17 tk17 F17 N17 _
    clear F16 N16
    have hcl : (carr 8 A B).length ≤ 24 := by rw [carr_len]; exact hC24
    clear iI iB' iC hC8 hC1 hCb
    obtain ⟨cR, hcR⟩ : ∃ c, carr 8 A B = c := ⟨_, rfl⟩
    rw [hcR] at iD hcl
    repeat' (first | ((fail_if_success (with_reducible show wpAny _ _ (call (Value.type _) _) _ _ _)); first | (k_unfold; (try dsimp only)) | walk1 | (dsimp only; walk1)) | fail "stop")
    rename Fr _ _ _ _ => F18
    rename News _ _ _ _ => N18
    rename IntsAre _ (List.reverse cR) => iP
    subst hcR
    replace iP : IntsAre _ (prodRow A B) := iP
    refine KBa.make_K F18 N18 rfl (isList_of' (N18 _ (.head _)).1) iP (prod_bd A B) (by rw [prodRow, List.length_reverse, carr_len]; omega) ?_
    intro h19 t19 tk19 F19 N19 _
    have N19 := kst_newsOf N19 (l' := [(a2, W.listOf vB.toArray e2), (a1, W.listOf vA.toArray e1), (s₁.heap.objs.size + 1, oc), (k3, o3), (k4, o4), (30, tabObj p2), (23, tabObj q2)]) (SubL.mem (by k_subL))
    clear F18 N18 iP
    -- the two widths
    repeat' (first | ((fail_if_success (with_reducible show wpAny _ _ (call (Value.ref _) _) _ _ _)); first | (k_unfold; (try dsimp only)) | walk1 | (dsimp only; walk1)) | fail "stop")
    rename Fr _ _ _ _ => F20
    rename News _ _ _ _ => N20
    rename_i rR hR lR hS dT hT NT lT iT lI hU tkU oT cT
    have g1 := (N20 (s₁.heap.objs.size + 1, oc) (by k_mem)).1
    refine' storeX_C F20 N20 rfl ?U dc ?_ rfl rfl
    case U => exact .tail (p := (iT, _)) (Nat.ne_of_gt lI.2.2.2.2.1) (.tail (p := (dT, _)) (Nat.ne_of_gt lT.2.2.2.1) (.tail (p := (rR, _)) (Nat.ne_of_gt lR.2.2.1)
      (.tail (p := (a2, _)) (ne_celled (N20 (a2, W.listOf vB.toArray e2) (by k_mem)).1 (fun _ e => by cases e) g1 dc) (.tail (p := (a1, _)) (ne_celled (N20 (a1, W.listOf vA.toArray e1) (by k_mem)).1 (fun _ e => by cases e) g1 dc)
      (.head (List.forall_mem_cons.mpr ⟨ne_celled (N20 (k3, o3) (by k_mem)).1 n3.2 g1 dc, List.forall_mem_cons.mpr ⟨ne_celled (N20 (k4, o4) (by k_mem)).1 n4.2 g1 dc, List.forall_mem_cons.mpr ⟨Nat.ne_of_lt (Nat.lt_succ_of_lt l0.1), List.forall_mem_cons.mpr ⟨Nat.ne_of_lt (Nat.lt_succ_of_lt l0.2), fun _ h => nomatch h⟩⟩⟩⟩))))))
    clear g1
    intro h21 oc4 F21 N21 dc4
    clear F20 N20
    have nc4 : NoTab oc4 := noTab_cell dc4
    clear NT iD hcl hC24
    repeat' (first | ((fail_if_success (with_reducible show wpAny _ _ (call (Value.ref _) _) _ _ _)); first | (k_unfold; (try dsimp only)) | walk1 | (dsimp only; walk1)) | fail "stop")
    (show wpAny _ _ (call (Value.ref 93) [Value.ref a1]) _ _ _)
    refine worth_spec B0 F21 X0 T0 rfl (by decide) (by decide) (isList_of' (N21 (a1, W.listOf vA.toArray e1) (by k_mem)).1) iA hA24 okA.bd ?_
    intro t22 h22 tk22 hk22
    have F22 := F21.keeps hk22
    have N22 := N21.grown hk22
    clear F21 N21 hk22
    repeat' (first | ((fail_if_success (with_reducible show wpAny _ _ (call (Value.ref _) _) _ _ _)); first | (k_unfold; (try dsimp only)) | walk1 | (dsimp only; walk1)) | fail "stop")
    rename Fr _ _ _ _ => F23
    rename News _ _ _ _ => N23
    (show wpAny _ _ (call (Value.ref 100) [_, _, _]) _ _ _)
    refine figures_spec B0 F23 X0 T0 rfl (by decide) (by decide) (by decide) (by decide) (cnt_bd (by decide) okA).1 (cnt_bd (by decide) okA).2 ?_
    intro rF wsF eF h24 tk24 hk24 hr24 hg24 iF
    have F24 := F23.keeps hk24
    have N24 := news_more F23 N23 hk24 hr24 hg24
    clear F23 N23 hk24 hr24 hg24
    replace iF : IntsAre wsF (figs 4 A) := iF
    repeat' (first | ((fail_if_success (with_reducible show wpAny _ _ (call (Value.ref _) _) _ _ _)); first | (k_unfold; (try dsimp only)) | walk1 | (dsimp only; walk1)) | fail "stop")
    rename Fr _ _ _ _ => F25
    rename News _ _ _ _ => N25
    (show wpAny _ _ (call (Value.ref 93) [Value.ref a2]) _ _ _)
    refine worth_spec B0 F25 X0 T0 rfl (by decide) (by decide) (isList_of' (N25 (a2, W.listOf vB.toArray e2) (by k_mem)).1) iB hB24 okB.bd ?_
    intro t26 h26 tk26 hk26
    have F26 := F25.keeps hk26
    have N26 := N25.grown hk26
    clear F25 N25 hk26
    repeat' (first | ((fail_if_success (with_reducible show wpAny _ _ (call (Value.ref _) _) _ _ _)); first | (k_unfold; (try dsimp only)) | walk1 | (dsimp only; walk1)) | fail "stop")
    rename Fr _ _ _ _ => F27
    rename News _ _ _ _ => N27
    (show wpAny _ _ (call (Value.ref 100) [_, _, _]) _ _ _)
    refine figures_spec B0 F27 X0 T0 rfl (by decide) (by decide) (by decide) (by decide) (cnt_bd (by decide) okB).1 (cnt_bd (by decide) okB).2 ?_
    intro rG wsG eG h28 tk28 hk28 hr28 hg28 iG
    have F28 := F27.keeps hk28
    have N28 := news_more F27 N27 hk28 hr28 hg28
    clear F27 N27 hk28 hr28 hg28
    replace iG : IntsAre wsG (figs 4 B) := iG
    have lF := figs_len (n := 4) (by decide) okA
    have lG := figs_len (n := 4) (by decide) okB
    have bF : ∀ x ∈ figs 4 A, 0 ≤ x ∧ x < 256 := fun x hx => ⟨(figs_bd (by decide) okA x hx).1, Int.lt_trans (figs_bd (by decide) okA x hx).2 (by decide)⟩
    have bG : ∀ x ∈ figs 4 B, 0 ≤ x ∧ x < 256 := fun x hx => ⟨(figs_bd (by decide) okB x hx).1, Int.lt_trans (figs_bd (by decide) okB x hx).2 (by decide)⟩
    repeat' (first | ((fail_if_success (with_reducible show wpAny _ _ (call (Value.ref _) _) _ _ _)); first | (k_unfold; (try dsimp only)) | walk1 | (dsimp only; walk1)) | fail "stop")
    rename Fr _ _ _ _ => F29
    rename News _ _ _ _ => N29
    (show wpAny _ _ (call (Value.ref 107) [Value.ref rF, Value.ref rG]) _ _ _)
    refine columns_spec B0 F29 X0 T0 rfl (by decide) (by decide) (isList_of' (N29 (rF, W.listOf wsF.toArray eF) (by k_mem)).1) iF (isList_of' (N29 (rG, W.listOf wsG.toArray eG) (by k_mem)).1) iG lF.2 lG.2 bF ?_
    intro rC wsC eC h30 tk30 hk30 hr30 hg30 iC
    have F30 := F29.keeps hk30
    have N30 := news_more F29 N29 hk30 hr30 hg30
    clear F29 N29 hk30 hr30 hg30
    have hCn : columns (figs 4 A) (figs 4 B) = cols 4 A B := rfl
    rw [hCn] at iC
    have hC24 : (cols 4 A B).length ≤ 24 := by rw [← hCn, columns_len]; omega
    have hC1 : 1 ≤ (cols 4 A B).length := by rw [← hCn, columns_len]; omega
    have hCb : ∀ z ∈ cols 4 A B, 0 ≤ z ∧ z < 16777216 := columns_bd bF bG lF.2 lG.2
    clear hCn
    -- carried
    repeat' (first | ((fail_if_success (with_reducible show wpAny _ _ (call (Value.ref _) _) _ _ _)); first | (k_unfold; (try dsimp only)) | walk1 | (dsimp only; walk1)) | fail "stop")
    rename Fr _ _ _ _ => F31
    rename News _ _ _ _ => N31
    (show wpAny _ _ (call (Value.ref 114) [Value.ref rC, Value.int 4 _]) _ _ _)
    refine carried_spec B0 F31 X0 T0 rfl (by decide) (by decide) (isList_of' (N31 _ (.head _)).1) iC hC24 (by decide) (by decide) ?_
    intro rD wsD eD h32 tk32 hk32 hr32 hg32 iD
    have F32 := F31.keeps hk32
    have N32 := news_more F31 N31 hk32 hr32 hg32
    clear F31 N31 hk32 hr32 hg32
    replace iD : IntsAre wsD (carr 4 A B) := iD
    have hcl : (carr 4 A B).length ≤ 24 := by rw [carr_len]; exact hC24
    -- _digits2int
    repeat' (first | ((fail_if_success (with_reducible show wpAny _ _ (call (Value.ref _) _) _ _ _)); first | (k_unfold; (try dsimp only)) | walk1 | (dsimp only; walk1)) | fail "stop")
    rename Fr _ _ _ _ => F33
    rename News _ _ _ _ => N33
    (show wpAny _ _ (call (Value.ref 35) [Value.ref rC, Value.int 4 _]) _ _ _)
    refine d2i_lawR B0 F33 X0 T0 rfl (by decide) (by decide) (pre := [_, _, _, _, _, _, _, _, _, _]) (e := eC) N33 (by (repeat (first | exact List.forall_mem_nil _ | (refine List.forall_mem_cons.mpr (And.intro (by first | exact noTab_list | exact noTab_tup | assumption | (apply noTab_cls; assumption)) ?_))))) n3 n4 R3 R4 (by k_mem) iC hC24 hC1 (by decide) (by decide) hCb C34 l0.1 ?_
    have gI := (N33 (iT, oT) (by k_mem)).1
    clear R3 n3 F33 N33
    intro t34 h34 tk34 p3 k5 o5 F34 N34 n5 R5 fr5
    have k5I := fr5 iT _ gI (Nat.ne_of_lt lI.2.2.2.2.2.1) (Nat.ne_of_lt lI.2.2.2.2.2.2.1)
    clear fr5 gI
    simp only [List.cons_append, List.nil_append] at N34
    rw [d2i_cols (n := 4) (by decide) okA okB]
    repeat' (first | ((fail_if_success (with_reducible show wpAny _ _ (compareOp _ _ _) _ _ _)); first | (k_unfold; (try dsimp only)) | walk1 | (dsimp only; walk1)) | fail "stop")
    refine ne_int ?_
    rw [show (worth A * worth B != worth A * worth B) = false by simp]
    -- _int2digits
    repeat' (first | ((fail_if_success (with_reducible show wpAny _ _ (call (Value.ref _) _) _ _ _)); first | (k_unfold; (try dsimp only)) | walk1 | (dsimp only; walk1)) | fail "stop")
    rename Fr _ _ _ _ => F35
    rename News _ _ _ _ => N35
    (show wpAny _ _ (call (Value.ref 28) [Value.int _ _, Value.int 4 _]) _ _ _)
    refine i2d_lawR B0 F35 X0 T0 rfl (by decide) (by decide) (pre := [_, _, _, _, _, _, _, _, _, _]) N35 (by (repeat (first | exact List.forall_mem_nil _ | (refine List.forall_mem_cons.mpr (And.intro (by first | exact noTab_list | exact noTab_tup | assumption | (apply noTab_cls; assumption)) ?_))))) n5 n4 R5 R4 (worth_mul okA okB).1 (by decide) (by decide) (worth_mul okA okB).2 (by assumption) l0.2 ?_
    have gI := (N35 (iT, oT) (by k_mem)).1
    clear R4 n4 F35 N35
    intro rI wsI eI h36 tk36 q3 k6 o6 F36 N36 n6 R6 fr6 iI
    have k6I := fr6 iT _ gI k5I (Nat.ne_of_lt lI.2.2.2.2.2.2.1)
    clear fr6 gI
    simp only [List.cons_append, List.nil_append] at N36
    rw [i2d_bare (n := 4) (by decide) okA okB] at iI
    repeat' (first | ((fail_if_success (with_reducible show wpAny _ _ (call (Value.ref _) _) _ _ _)); first | (k_unfold; (try dsimp only)) | walk1 | (dsimp only; walk1)) | fail "stop")
    rename Fr _ _ _ _ => F37
    rename News _ _ _ _ => N37
    (show wpAny _ _ (call (Value.ref 121) [Value.ref rD]) _ _ _)
    refine bare_spec B0 F37 X0 T0 rfl (by decide) (by decide) (isList_of' (N37 (rD, W.listOf wsD.toArray eD) (by k_mem)).1) iD hcl ?_
    intro rB wsB eB h38 tk38 hk38 hr38 hg38 iB'
    have F38 := F37.keeps hk38
    have N38 := news_more F37 N37 hk38 hr38 hg38
    clear F37 N37 hk38 hr38 hg38
    repeat' (first | ((fail_if_success (with_reducible show wpAny _ _ (compareOp _ _ _) _ _ _)); first | (k_unfold; (try dsimp only)) | walk1 | (dsimp only; walk1)) | fail "stop")
    refine ne_intsK (isList_of' (N38 (rI, W.listOf wsI.toArray eI) (by k_mem)).1) iI (isList_of' (N38 (rB, W.listOf wsB.toArray eB) (by k_mem)).1) iB' (by first | exact (by decide : 0 + 64 < cLine) | exact (by decide : 1 + 64 < cLine) | exact (by decide : 2 + 64 < cLine) | exact of_decide_eq_true rfl) ?_
    rw [decide_eq_true rfl]
    clear iI iB' hC1 hCb hC24 iC
    -- told
    repeat' (first | ((fail_if_success (with_reducible show wpAny _ _ (call (Value.ref _) _) _ _ _)); first | (k_unfold; (try dsimp only)) | walk1 | (dsimp only; walk1)) | fail "stop")
    rename Fr _ _ _ _ => FT
    rename News _ _ _ _ => NT
    rename InElt _ _ => cT0
    rename_i off0
    (show wpAny _ _ (call (Value.ref 81) [Value.bytes (byteArr A) _]) _ _ _)
    refine b16_gen B0 FT X0 T0 rfl (by decide) (by decide) (by rw [byteArr_size]; exact lenA.1) (by rw [byteArr_size]; exact lenA.2) ?_
    intro b40 t40 h40 tk40 e40 hk40
    have F40 := FT.keeps hk40
    have N40 := NT.grown hk40
    clear FT NT cT0 hk40
    k_unmd
    k_unfold
    refine LCg.CompEnd.intro F40 N40 _ (fun p hp => hp) (by simp only [LCg.Off3, and_true]; exact off0) (by lcg_src) ?_
    clear F40 N40 off0
    repeat' (first | ((fail_if_success (with_reducible show wpAny _ _ (call (Value.ref _) _) _ _ _)); first | (k_unfold; (try dsimp only)) | walk1 | (dsimp only; walk1)) | fail "stop")
    rename Fr _ _ _ _ => FT
    rename News _ _ _ _ => NT
    rename InElt _ _ => cT0
    rename_i off0
    (show wpAny _ _ (call (Value.ref 81) [Value.bytes (byteArr B) _]) _ _ _)
    refine b16_gen B0 FT X0 T0 rfl (by decide) (by decide) (by rw [byteArr_size]; exact lenB.1) (by rw [byteArr_size]; exact lenB.2) ?_
    intro b41 t41 h41 tk41 e41 hk41
    have F41 := FT.keeps hk41
    have N41 := NT.grown hk41
    clear FT NT cT0 hk41
    k_unmd
    k_unfold
    refine LCg.CompEnd.intro F41 N41 _ (fun p hp => hp) (by simp only [LCg.Off3, and_true]; exact off0) (by lcg_src) ?_
    clear F41 N41 off0
    repeat' (first | ((fail_if_success (with_reducible show wpAny _ _ (call (Value.ref _) _) _ _ _)); first | (k_unfold; (try dsimp only)) | walk1 | (dsimp only; walk1)) | fail "stop")
    rename Fr _ _ _ _ => FT
    rename News _ _ _ _ => NT
    rename InElt _ _ => cT0
    rename_i off0
    (show wpAny _ _ (call (Value.ref 81) [Value.bytes (byteArr (prodRow A B)) _]) _ _ _)
    refine b16_gen B0 FT X0 T0 rfl (by decide) (by decide) (by rw [byteArr_size]; exact lenprod.1) (by rw [byteArr_size]; exact lenprod.2) ?_
    intro b42 t42 h42 tk42 e42 hk42
    have F42 := FT.keeps hk42
    have N42 := NT.grown hk42
    clear FT NT cT0 hk42
    k_unmd
    k_unfold
    refine LCg.CompEnd.intro F42 N42 _ (fun p hp => hp) (by simp only [LCg.Off3, and_true]; exact off0) (by lcg_src) ?_
    clear F42 N42 off0

    repeat' (first | ((fail_if_success (with_reducible show wpAny _ _ (eval (Expr.ListComp _ _ _ _) _) _ _ _)); first | (k_unfold; (try dsimp only)) | walk1 | (dsimp only; walk1)) | fail "stop")
    k_dflt (refine ListComp_T (F₀ := by k_asm) (by with_unfolding_all rfl) (by decide) (by rfl) (by decide) (by rfl) ?_)
    repeat' (first | ((fail_if_success (with_reducible show ∃ (ax : Addr), _)); first | (k_unfold; (try dsimp only)) | walk1 | (dsimp only; walk1)) | fail "stop")
    rename Fr _ _ _ _ => FT
    rename News _ _ _ _ => NT
    refine ⟨_, _, _, rfl, rfl, FT, NT, ⟨_, .head _, rfl, _, rfl⟩, Nat.le_of_ble_eq_true rfl, ?_⟩
    intro g'
    clear FT NT
    lcg_lit
    repeat' (first | ((fail_if_success (with_reducible show wpAny _ _ (call (Value.ref _) _) _ _ _)); first | (k_unfold; (try dsimp only)) | walk1 | (dsimp only; walk1)) | fail "stop")
    rename Fr _ _ _ _ => FT
    rename News _ _ _ _ => NT
    rename InElt _ _ => cT0
    rename_i off0
    (show wpAny _ _ (call (Value.ref 126) [Value.ref rF, Value.int 4 _]) _ _ _)
    refine written4_gen B0 FT X0 T0 rfl (by decide) (by decide) (isList_of' (NT (rF, W.listOf wsF.toArray eF) (by k_mem)).1) iF (Nat.le_trans lF.2 (by decide)) (fun x hx => ⟨(figs_bd (n := 4) (by decide) okA x hx).1, Int.lt_of_lt_of_le (figs_bd (n := 4) (by decide) okA x hx).2 (by decide)⟩) ?_
    intro b50 t50 h50 tk50 e50 hk50
    have F50 := FT.keeps hk50
    have N50 := NT.grown hk50
    clear FT NT cT0 hk50
    k_unmd
    k_unfold
    refine LCg.CompEnd.intro F50 N50 _ (fun p hp => hp) (by simp only [LCg.Off3, and_true]; exact off0) ⟨_, .head _, rfl, _, rfl⟩ ?_
    clear F50 N50 off0
    repeat' (first | ((fail_if_success (with_reducible show wpAny _ _ (call (Value.ref _) _) _ _ _)); first | (k_unfold; (try dsimp only)) | walk1 | (dsimp only; walk1)) | fail "stop")
    rename Fr _ _ _ _ => FT
    rename News _ _ _ _ => NT
    rename InElt _ _ => cT0
    rename_i off0
    (show wpAny _ _ (call (Value.ref 126) [Value.ref rG, Value.int 4 _]) _ _ _)
    refine written4_gen B0 FT X0 T0 rfl (by decide) (by decide) (isList_of' (NT (rG, W.listOf wsG.toArray eG) (by k_mem)).1) iG (Nat.le_trans lG.2 (by decide)) (fun x hx => ⟨(figs_bd (n := 4) (by decide) okB x hx).1, Int.lt_of_lt_of_le (figs_bd (n := 4) (by decide) okB x hx).2 (by decide)⟩) ?_
    intro b51 t51 h51 tk51 e51 hk51
    have F51 := FT.keeps hk51
    have N51 := NT.grown hk51
    clear FT NT cT0 hk51
    k_unmd
    k_unfold
    refine LCg.CompEnd.intro F51 N51 _ (fun p hp => hp) (by simp only [LCg.Off3, and_true]; exact off0) ⟨_, .head _, rfl, _, rfl⟩ ?_
    clear F51 N51 off0
    repeat' (first | ((fail_if_success (with_reducible show wpAny _ _ (call (Value.ref _) _) _ _ _)); first | (k_unfold; (try dsimp only)) | walk1 | (dsimp only; walk1)) | fail "stop")
    rename Fr _ _ _ _ => FT
    rename News _ _ _ _ => NT
    rename InElt _ _ => cT0
    rename_i off0
    (show wpAny _ _ (call (Value.ref 126) [Value.ref rD, Value.int 4 _]) _ _ _)
    refine written4_gen B0 FT X0 T0 rfl (by decide) (by decide) (isList_of' (NT (rD, W.listOf wsD.toArray eD) (by k_mem)).1) iD hcl (fun x hx => ⟨(carr_bd (n := 4) x hx).1, Int.lt_of_lt_of_le (carr_bd (n := 4) x hx).2 (by decide)⟩) ?_
    intro b52 t52 h52 tk52 e52 hk52
    have F52 := FT.keeps hk52
    have N52 := NT.grown hk52
    clear FT NT cT0 hk52
    k_unmd
    k_unfold
    refine LCg.CompEnd.intro F52 N52 _ (fun p hp => hp) (by simp only [LCg.Off3, and_true]; exact off0) ⟨_, .head _, rfl, _, rfl⟩ ?_
    clear F52 N52 off0

    repeat' (first | ((fail_if_success (with_reducible show wpAny _ _ (compareOp _ _ _) _ _ _)); first | (k_unfold; (try dsimp only)) | walk1 | (dsimp only; walk1)) | fail "stop")
    rename Fr _ _ _ _ => F60
    rename News _ _ _ _ => N60
    refine ne_bytes3 ⟨_, (N60 _ (.tail _ (.tail _ (.head _)))).1, rfl, _, rfl⟩ ⟨_, (N60 _ (.head _)).1, rfl, _, rfl⟩ (by first | exact (by decide : 0 < cLine) | exact (by decide : 1 < cLine) | exact (by decide : 2 < cLine) | exact of_decide_eq_true rfl) (e40.trans ((enc4 okA).trans e50.symm)) (e41.trans ((enc4 okB).trans e51.symm)) (e42.trans ((enc4p okA okB).trans e52.symm)) ?_
    have N61 := news_drop 9 N60
    simp only [List.drop_succ_cons, List.drop_zero] at N61
    clear N60 iD iF iG hcl bF bG lF lG e40 e41 e42 e50 e51 e52
    repeat' (first | ((fail_if_success (with_reducible show wpAny _ _ (storeName _ (Str.ofString "width") _) _ _ _)); first | (k_unfold; (try dsimp only)) | walk1 | (dsimp only; walk1)) | fail "stop")
    clear F60 N61
    rename Fr _ _ _ _ => F20
    rename News _ _ _ _ => N20
    rename_i hU6 tkU6 oT6 cT6
    have g1 := (N20 (s₁.heap.objs.size + 1, oc4) (by k_mem)).1
    refine' storeX_C F20 N20 rfl ?U dc4 ?_ rfl rfl
    case U => exact .tail (p := (iT, _)) (Nat.ne_of_gt lI.2.2.2.2.1) (.tail (p := (dT, _)) (Nat.ne_of_gt lT.2.2.2.1) (.tail (p := (rR, _)) (Nat.ne_of_gt lR.2.2.1)
      (.tail (p := (a2, _)) (ne_celled (N20 (a2, W.listOf vB.toArray e2) (by k_mem)).1 (fun _ e => by cases e) g1 dc4) (.tail (p := (a1, _)) (ne_celled (N20 (a1, W.listOf vA.toArray e1) (by k_mem)).1 (fun _ e => by cases e) g1 dc4)
      (.head (List.forall_mem_cons.mpr ⟨ne_celled (N20 (k5, o5) (by k_mem)).1 n5.2 g1 dc4, List.forall_mem_cons.mpr ⟨ne_celled (N20 (k6, o6) (by k_mem)).1 n6.2 g1 dc4, List.forall_mem_cons.mpr ⟨Nat.ne_of_lt (Nat.lt_succ_of_lt l0.1), List.forall_mem_cons.mpr ⟨Nat.ne_of_lt (Nat.lt_succ_of_lt l0.2), fun _ h => nomatch h⟩⟩⟩⟩))))))
    clear g1
    intro h21 oc6 F21 N21 dc6
    clear F20 N20
    have nc6 : NoTab oc6 := noTab_cell dc6
    skip
    repeat' (first | ((fail_if_success (with_reducible show wpAny _ _ (call (Value.ref _) _) _ _ _)); first | (k_unfold; (try dsimp only)) | walk1 | (dsimp only; walk1)) | fail "stop")
    (show wpAny _ _ (call (Value.ref 93) [Value.ref a1]) _ _ _)
    refine worth_spec B0 F21 X0 T0 rfl (by decide) (by decide) (isList_of' (N21 (a1, W.listOf vA.toArray e1) (by k_mem)).1) iA hA24 okA.bd ?_
    intro t22 h22 tk22 hk22
    have F22 := F21.keeps hk22
    have N22 := N21.grown hk22
    clear F21 N21 hk22
    repeat' (first | ((fail_if_success (with_reducible show wpAny _ _ (call (Value.ref _) _) _ _ _)); first | (k_unfold; (try dsimp only)) | walk1 | (dsimp only; walk1)) | fail "stop")
    rename Fr _ _ _ _ => F23
    rename News _ _ _ _ => N23
    (show wpAny _ _ (call (Value.ref 100) [_, _, _]) _ _ _)
    refine figures_spec B0 F23 X0 T0 rfl (by decide) (by decide) (by decide) (by decide) (cnt_bd (by decide) okA).1 (cnt_bd (by decide) okA).2 ?_
    intro rF wsF eF h24 tk24 hk24 hr24 hg24 iF
    have F24 := F23.keeps hk24
    have N24 := news_more F23 N23 hk24 hr24 hg24
    clear F23 N23 hk24 hr24 hg24
    replace iF : IntsAre wsF (figs 6 A) := iF
    repeat' (first | ((fail_if_success (with_reducible show wpAny _ _ (call (Value.ref _) _) _ _ _)); first | (k_unfold; (try dsimp only)) | walk1 | (dsimp only; walk1)) | fail "stop")
    rename Fr _ _ _ _ => F25
    rename News _ _ _ _ => N25
    (show wpAny _ _ (call (Value.ref 93) [Value.ref a2]) _ _ _)
    refine worth_spec B0 F25 X0 T0 rfl (by decide) (by decide) (isList_of' (N25 (a2, W.listOf vB.toArray e2) (by k_mem)).1) iB hB24 okB.bd ?_
    intro t26 h26 tk26 hk26
    have F26 := F25.keeps hk26
    have N26 := N25.grown hk26
    clear F25 N25 hk26
    repeat' (first | ((fail_if_success (with_reducible show wpAny _ _ (call (Value.ref _) _) _ _ _)); first | (k_unfold; (try dsimp only)) | walk1 | (dsimp only; walk1)) | fail "stop")
    rename Fr _ _ _ _ => F27
    rename News _ _ _ _ => N27
    (show wpAny _ _ (call (Value.ref 100) [_, _, _]) _ _ _)
    refine figures_spec B0 F27 X0 T0 rfl (by decide) (by decide) (by decide) (by decide) (cnt_bd (by decide) okB).1 (cnt_bd (by decide) okB).2 ?_
    intro rG wsG eG h28 tk28 hk28 hr28 hg28 iG
    have F28 := F27.keeps hk28
    have N28 := news_more F27 N27 hk28 hr28 hg28
    clear F27 N27 hk28 hr28 hg28
    replace iG : IntsAre wsG (figs 6 B) := iG
    have lF := figs_len (n := 6) (by decide) okA
    have lG := figs_len (n := 6) (by decide) okB
    have bF : ∀ x ∈ figs 6 A, 0 ≤ x ∧ x < 256 := fun x hx => ⟨(figs_bd (by decide) okA x hx).1, Int.lt_trans (figs_bd (by decide) okA x hx).2 (by decide)⟩
    have bG : ∀ x ∈ figs 6 B, 0 ≤ x ∧ x < 256 := fun x hx => ⟨(figs_bd (by decide) okB x hx).1, Int.lt_trans (figs_bd (by decide) okB x hx).2 (by decide)⟩
    repeat' (first | ((fail_if_success (with_reducible show wpAny _ _ (call (Value.ref _) _) _ _ _)); first | (k_unfold; (try dsimp only)) | walk1 | (dsimp only; walk1)) | fail "stop")
    rename Fr _ _ _ _ => F29
    rename News _ _ _ _ => N29
    (show wpAny _ _ (call (Value.ref 107) [Value.ref rF, Value.ref rG]) _ _ _)
    refine columns_spec B0 F29 X0 T0 rfl (by decide) (by decide) (isList_of' (N29 (rF, W.listOf wsF.toArray eF) (by k_mem)).1) iF (isList_of' (N29 (rG, W.listOf wsG.toArray eG) (by k_mem)).1) iG lF.2 lG.2 bF ?_
    intro rC wsC eC h30 tk30 hk30 hr30 hg30 iC
    have F30 := F29.keeps hk30
    have N30 := news_more F29 N29 hk30 hr30 hg30
    clear F29 N29 hk30 hr30 hg30
    have hCn : columns (figs 6 A) (figs 6 B) = cols 6 A B := rfl
    rw [hCn] at iC
    have hC24 : (cols 6 A B).length ≤ 24 := by rw [← hCn, columns_len]; omega
    have hC1 : 1 ≤ (cols 6 A B).length := by rw [← hCn, columns_len]; omega
    have hCb : ∀ z ∈ cols 6 A B, 0 ≤ z ∧ z < 16777216 := columns_bd bF bG lF.2 lG.2
    clear hCn
    -- carried
    repeat' (first | ((fail_if_success (with_reducible show wpAny _ _ (call (Value.ref _) _) _ _ _)); first | (k_unfold; (try dsimp only)) | walk1 | (dsimp only; walk1)) | fail "stop")
    rename Fr _ _ _ _ => F31
    rename News _ _ _ _ => N31
    (show wpAny _ _ (call (Value.ref 114) [Value.ref rC, Value.int 6 _]) _ _ _)
    refine carried_spec B0 F31 X0 T0 rfl (by decide) (by decide) (isList_of' (N31 _ (.head _)).1) iC hC24 (by decide) (by decide) ?_
    intro rD wsD eD h32 tk32 hk32 hr32 hg32 iD
    have F32 := F31.keeps hk32
    have N32 := news_more F31 N31 hk32 hr32 hg32
    clear F31 N31 hk32 hr32 hg32
    replace iD : IntsAre wsD (carr 6 A B) := iD
    have hcl : (carr 6 A B).length ≤ 24 := by rw [carr_len]; exact hC24
    -- _digits2int
    repeat' (first | ((fail_if_success (with_reducible show wpAny _ _ (call (Value.ref _) _) _ _ _)); first | (k_unfold; (try dsimp only)) | walk1 | (dsimp only; walk1)) | fail "stop")
    rename Fr _ _ _ _ => F33
    rename News _ _ _ _ => N33
    (show wpAny _ _ (call (Value.ref 35) [Value.ref rC, Value.int 6 _]) _ _ _)
    refine d2i_lawR B0 F33 X0 T0 rfl (by decide) (by decide) (pre := [_, _, _, _, _, _, _, _, _, _]) (e := eC) N33 (by (repeat (first | exact List.forall_mem_nil _ | (refine List.forall_mem_cons.mpr (And.intro (by first | exact noTab_list | exact noTab_tup | assumption | (apply noTab_cls; assumption)) ?_))))) n5 n6 R5 R6 (by k_mem) iC hC24 hC1 (by decide) (by decide) hCb C34 l0.1 ?_
    have gI := (N33 (iT, oT6) (by k_mem)).1
    clear R5 n5 F33 N33
    intro t34 h34 tk34 p3 k5 o5 F34 N34 n5 R5 fr5
    have k5I := fr5 iT _ gI k5I k6I
    clear fr5 gI
    simp only [List.cons_append, List.nil_append] at N34
    rw [d2i_cols (n := 6) (by decide) okA okB]
    repeat' (first | ((fail_if_success (with_reducible show wpAny _ _ (compareOp _ _ _) _ _ _)); first | (k_unfold; (try dsimp only)) | walk1 | (dsimp only; walk1)) | fail "stop")
    refine ne_int ?_
    rw [show (worth A * worth B != worth A * worth B) = false by simp]
    -- _int2digits
    repeat' (first | ((fail_if_success (with_reducible show wpAny _ _ (call (Value.ref _) _) _ _ _)); first | (k_unfold; (try dsimp only)) | walk1 | (dsimp only; walk1)) | fail "stop")
    rename Fr _ _ _ _ => F35
    rename News _ _ _ _ => N35
    (show wpAny _ _ (call (Value.ref 28) [Value.int _ _, Value.int 6 _]) _ _ _)
    refine i2d_lawR B0 F35 X0 T0 rfl (by decide) (by decide) (pre := [_, _, _, _, _, _, _, _, _, _]) N35 (by (repeat (first | exact List.forall_mem_nil _ | (refine List.forall_mem_cons.mpr (And.intro (by first | exact noTab_list | exact noTab_tup | assumption | (apply noTab_cls; assumption)) ?_))))) n5 n6 R5 R6 (worth_mul okA okB).1 (by decide) (by decide) (worth_mul okA okB).2 (by assumption) l0.2 ?_
    have gI := (N35 (iT, oT6) (by k_mem)).1
    clear R6 n6 F35 N35
    intro rI wsI eI h36 tk36 q3 k6 o6 F36 N36 n6 R6 fr6 iI
    have k6I := fr6 iT _ gI k5I k6I
    clear fr6 gI
    simp only [List.cons_append, List.nil_append] at N36
    rw [i2d_bare (n := 6) (by decide) okA okB] at iI
    repeat' (first | ((fail_if_success (with_reducible show wpAny _ _ (call (Value.ref _) _) _ _ _)); first | (k_unfold; (try dsimp only)) | walk1 | (dsimp only; walk1)) | fail "stop")
    rename Fr _ _ _ _ => F37
    rename News _ _ _ _ => N37
    (show wpAny _ _ (call (Value.ref 121) [Value.ref rD]) _ _ _)
    refine bare_spec B0 F37 X0 T0 rfl (by decide) (by decide) (isList_of' (N37 (rD, W.listOf wsD.toArray eD) (by k_mem)).1) iD hcl ?_
    intro rB wsB eB h38 tk38 hk38 hr38 hg38 iB'
    have F38 := F37.keeps hk38
    have N38 := news_more F37 N37 hk38 hr38 hg38
    clear F37 N37 hk38 hr38 hg38
    repeat' (first | ((fail_if_success (with_reducible show wpAny _ _ (compareOp _ _ _) _ _ _)); first | (k_unfold; (try dsimp only)) | walk1 | (dsimp only; walk1)) | fail "stop")
    refine ne_intsK (isList_of' (N38 (rI, W.listOf wsI.toArray eI) (by k_mem)).1) iI (isList_of' (N38 (rB, W.listOf wsB.toArray eB) (by k_mem)).1) iB' (by first | exact (by decide : 0 + 64 < cLine) | exact (by decide : 1 + 64 < cLine) | exact (by decide : 2 + 64 < cLine) | exact of_decide_eq_true rfl) ?_
    rw [decide_eq_true rfl]
    clear iI iB' hC1 hCb hC24 iC
    -- told
    repeat' (first | ((fail_if_success (with_reducible show wpAny _ _ (call (Value.ref _) _) _ _ _)); first | (k_unfold; (try dsimp only)) | walk1 | (dsimp only; walk1)) | fail "stop")
    rename Fr _ _ _ _ => FT
    rename News _ _ _ _ => NT
    rename InElt _ _ => cT0
    rename_i off0
    (show wpAny _ _ (call (Value.ref 74) [Value.bytes (byteArr A) _]) _ _ _)
    refine b64_gen B0 FT X0 T0 rfl (by decide) (by decide) (KBa.ints_make okA.bd) lenA.2 (b64_whole divA) ?_
    intro b40 t40 h40 tk40 e40 hk40
    have F40 := FT.keeps hk40
    have N40 := NT.grown hk40
    clear FT NT cT0 hk40
    k_unmd
    k_unfold
    refine LCg.CompEnd.intro F40 N40 _ (fun p hp => hp) (by simp only [LCg.Off3, and_true]; exact off0) (by lcg_src) ?_
    clear F40 N40 off0
    repeat' (first | ((fail_if_success (with_reducible show wpAny _ _ (call (Value.ref _) _) _ _ _)); first | (k_unfold; (try dsimp only)) | walk1 | (dsimp only; walk1)) | fail "stop")
    rename Fr _ _ _ _ => FT
    rename News _ _ _ _ => NT
    rename InElt _ _ => cT0
    rename_i off0
    (show wpAny _ _ (call (Value.ref 74) [Value.bytes (byteArr B) _]) _ _ _)
    refine b64_gen B0 FT X0 T0 rfl (by decide) (by decide) (KBa.ints_make okB.bd) lenB.2 (b64_whole divB) ?_
    intro b41 t41 h41 tk41 e41 hk41
    have F41 := FT.keeps hk41
    have N41 := NT.grown hk41
    clear FT NT cT0 hk41
    k_unmd
    k_unfold
    refine LCg.CompEnd.intro F41 N41 _ (fun p hp => hp) (by simp only [LCg.Off3, and_true]; exact off0) (by lcg_src) ?_
    clear F41 N41 off0
    repeat' (first | ((fail_if_success (with_reducible show wpAny _ _ (call (Value.ref _) _) _ _ _)); first | (k_unfold; (try dsimp only)) | walk1 | (dsimp only; walk1)) | fail "stop")
    rename Fr _ _ _ _ => FT
    rename News _ _ _ _ => NT
    rename InElt _ _ => cT0
    rename_i off0
    (show wpAny _ _ (call (Value.ref 74) [Value.bytes (byteArr (prodRow A B)) _]) _ _ _)
    refine b64_gen B0 FT X0 T0 rfl (by decide) (by decide) (KBa.ints_make (prod_bd A B)) lenprod.2 (b64_whole divprod) ?_
    intro b42 t42 h42 tk42 e42 hk42
    have F42 := FT.keeps hk42
    have N42 := NT.grown hk42
    clear FT NT cT0 hk42
    k_unmd
    k_unfold
    refine LCg.CompEnd.intro F42 N42 _ (fun p hp => hp) (by simp only [LCg.Off3, and_true]; exact off0) (by lcg_src) ?_
    clear F42 N42 off0

    repeat' (first | ((fail_if_success (with_reducible show wpAny _ _ (eval (Expr.ListComp _ _ _ _) _) _ _ _)); first | (k_unfold; (try dsimp only)) | walk1 | (dsimp only; walk1)) | fail "stop")
    k_dflt (refine ListComp_T (F₀ := by k_asm) (by with_unfolding_all rfl) (by decide) (by rfl) (by decide) (by rfl) ?_)
    repeat' (first | ((fail_if_success (with_reducible show ∃ (ax : Addr), _)); first | (k_unfold; (try dsimp only)) | walk1 | (dsimp only; walk1)) | fail "stop")
    rename Fr _ _ _ _ => FT
    rename News _ _ _ _ => NT
    refine ⟨_, _, _, rfl, rfl, FT, NT, ⟨_, .head _, rfl, _, rfl⟩, Nat.le_of_ble_eq_true rfl, ?_⟩
    intro g'
    clear FT NT
    lcg_lit
    repeat' (first | ((fail_if_success (with_reducible show wpAny _ _ (call (Value.ref _) _) _ _ _)); first | (k_unfold; (try dsimp only)) | walk1 | (dsimp only; walk1)) | fail "stop")
    rename Fr _ _ _ _ => FT
    rename News _ _ _ _ => NT
    rename InElt _ _ => cT0
    rename_i off0
    (show wpAny _ _ (call (Value.ref 126) [Value.ref rF, Value.int 6 _]) _ _ _)
    refine written6_gen B0 FT X0 T0 rfl (by decide) (by decide) (isList_of' (NT (rF, W.listOf wsF.toArray eF) (by k_mem)).1) iF (Nat.le_trans lF.2 (by decide)) (fun x hx => ⟨(figs_bd (n := 6) (by decide) okA x hx).1, Int.lt_of_lt_of_le (figs_bd (n := 6) (by decide) okA x hx).2 (by decide)⟩) ?_
    intro b50 t50 h50 tk50 e50 hk50
    have F50 := FT.keeps hk50
    have N50 := NT.grown hk50
    clear FT NT cT0 hk50
    k_unmd
    k_unfold
    refine LCg.CompEnd.intro F50 N50 _ (fun p hp => hp) (by simp only [LCg.Off3, and_true]; exact off0) ⟨_, .head _, rfl, _, rfl⟩ ?_
    clear F50 N50 off0
    repeat' (first | ((fail_if_success (with_reducible show wpAny _ _ (call (Value.ref _) _) _ _ _)); first | (k_unfold; (try dsimp only)) | walk1 | (dsimp only; walk1)) | fail "stop")
    rename Fr _ _ _ _ => FT
    rename News _ _ _ _ => NT
    rename InElt _ _ => cT0
    rename_i off0
    (show wpAny _ _ (call (Value.ref 126) [Value.ref rG, Value.int 6 _]) _ _ _)
    refine written6_gen B0 FT X0 T0 rfl (by decide) (by decide) (isList_of' (NT (rG, W.listOf wsG.toArray eG) (by k_mem)).1) iG (Nat.le_trans lG.2 (by decide)) (fun x hx => ⟨(figs_bd (n := 6) (by decide) okB x hx).1, Int.lt_of_lt_of_le (figs_bd (n := 6) (by decide) okB x hx).2 (by decide)⟩) ?_
    intro b51 t51 h51 tk51 e51 hk51
    have F51 := FT.keeps hk51
    have N51 := NT.grown hk51
    clear FT NT cT0 hk51
    k_unmd
    k_unfold
    refine LCg.CompEnd.intro F51 N51 _ (fun p hp => hp) (by simp only [LCg.Off3, and_true]; exact off0) ⟨_, .head _, rfl, _, rfl⟩ ?_
    clear F51 N51 off0
    repeat' (first | ((fail_if_success (with_reducible show wpAny _ _ (call (Value.ref _) _) _ _ _)); first | (k_unfold; (try dsimp only)) | walk1 | (dsimp only; walk1)) | fail "stop")
    rename Fr _ _ _ _ => FT
    rename News _ _ _ _ => NT
    rename InElt _ _ => cT0
    rename_i off0
    (show wpAny _ _ (call (Value.ref 126) [Value.ref rD, Value.int 6 _]) _ _ _)
    refine written6_gen B0 FT X0 T0 rfl (by decide) (by decide) (isList_of' (NT (rD, W.listOf wsD.toArray eD) (by k_mem)).1) iD hcl (fun x hx => ⟨(carr_bd (n := 6) x hx).1, Int.lt_of_lt_of_le (carr_bd (n := 6) x hx).2 (by decide)⟩) ?_
    intro b52 t52 h52 tk52 e52 hk52
    have F52 := FT.keeps hk52
    have N52 := NT.grown hk52
    clear FT NT cT0 hk52
    k_unmd
    k_unfold
    refine LCg.CompEnd.intro F52 N52 _ (fun p hp => hp) (by simp only [LCg.Off3, and_true]; exact off0) ⟨_, .head _, rfl, _, rfl⟩ ?_
    clear F52 N52 off0

    repeat' (first | ((fail_if_success (with_reducible show wpAny _ _ (compareOp _ _ _) _ _ _)); first | (k_unfold; (try dsimp only)) | walk1 | (dsimp only; walk1)) | fail "stop")
    rename Fr _ _ _ _ => F60
    rename News _ _ _ _ => N60
    refine ne_bytes3 ⟨_, (N60 _ (.tail _ (.tail _ (.head _)))).1, rfl, _, rfl⟩ ⟨_, (N60 _ (.head _)).1, rfl, _, rfl⟩ (by first | exact (by decide : 0 < cLine) | exact (by decide : 1 < cLine) | exact (by decide : 2 < cLine) | exact of_decide_eq_true rfl) (e40.trans ((enc6 okA).trans e50.symm)) (e41.trans ((enc6 okB).trans e51.symm)) (e42.trans ((enc6p okA okB).trans e52.symm)) ?_
    have N61 := news_drop 9 N60
    simp only [List.drop_succ_cons, List.drop_zero] at N61
    clear N60 iD iF iG hcl bF bG lF lG e40 e41 e42 e50 e51 e52
    repeat' (first | ((fail_if_success (with_reducible show Back _ _ _)); first | (k_unfold; (try dsimp only)) | walk1 | (dsimp only; walk1)) | fail "stop")
    kc_close
    )
end Mine
end
theorem PySem.Challenge.cw_nb0068_01_holds : PySem.Challenge.rw_nb0068_01.Holds :=
  Mine.law_holds
