import PyProof.Rows.All
import Wide.All
import OpenK.AllK
import Wide.FinOn
import PySem.Challenge.RW_il0156_01
open PySem PySem.W PySem.Calls PyProof.Rows PySem.Spec
set_option Elab.async false
set_option maxRecDepth 100000
set_option maxHeartbeats 8000000
namespace Mine
open_top hd for PySem.Challenge.rw_il0156_01

section Part1

theorem fill_in : (fun w : World => hd.heap_39 w.params) = (fun w : World => hd.heap_39 w.params) ∧ PySem.Challenge.rw_il0156_01.row = PySem.Challenge.rw_il0156_01.row := by
  k_fill
  exact ⟨rfl, rfl⟩

/-- what a call leaves of the heap it found: all but the frames that stand (these up to their slots) and what it says it writes -/
structure Rel (fs wr : List Addr) (h h' : Heap) : Prop where
  keep : ∀ b o, b ∉ fs → b ∉ wr → h.get? b = some o → h'.get? b = some o
  up : ∀ b o, b ∈ fs → h.get? b = some o → ∃ sl, h'.get? b = some { o with slots := sl }

theorem Rel.refl (fs wr : List Addr) (h : Heap) : Rel fs wr h h := ⟨fun _ _ _ _ e => e, fun _ o _ e => ⟨o.slots, e⟩⟩
theorem Rel.of_keeps {fs wr : List Addr} {h h' : Heap} (k : ∀ b o, h.get? b = some o → h'.get? b = some o) : Rel fs wr h h' := ⟨fun b o _ _ e => k b o e, fun b o _ e => ⟨o.slots, k b o e⟩⟩
theorem Rel.trans {fs wr : List Addr} {h₁ h₂ h₃ : Heap} (x : Rel fs wr h₁ h₂) (y : Rel fs wr h₂ h₃) : Rel fs wr h₁ h₃ :=
  ⟨fun b o n m e => y.keep b o n m (x.keep b o n m e), fun b o n e => by
    obtain ⟨s1, h1⟩ := x.up b o n e
    obtain ⟨s2, h2⟩ := y.up b _ n h1
    exact ⟨s2, h2⟩⟩

section
variable {prog : Program} {w : World} {A : Around} {s : Shared} {base : Heap} {outer : List Env} {K : Frag} {p : Program} {loose : List Str} {mean : ExcName → Option Value} {mg mb : Str → Option Value}
  {R : Result → Shared → Prop} {name qual : Str} {params : Arguments} {body : List Stmt} {scope : Scope} {dV kV doc pm cdv ct oc : Value} {an od : Option Addr} {osl : Array (Option Value)} {f : Addr} {args : Args} {binds : List (Str × Value)}

/-- a def of the text is entered over the whole heap that stands -/
theorem enter0 (X : K.In s.heap) (T : Top p loose mean mg mb s.heap)
    (ho : K.lookup f = some ⟨oc, od, .func (fnOf name qual params body scope dV kV doc pm an cdv ct), osl⟩) (hcd : codeIn K cdv qual = true) (hroom : A.depth < recursionLimit)
    (hbind : BindsTo s (fnOf name qual params body scope dV kV doc pm an cdv ct) args binds) (hloc : ∀ y ∈ binds, scope.names.lookup y.1 = some .local)
    (h : ∀ L' h₁, Fr s.heap L' h₁ (fun y => binds.reverse.lookup y) → News s.heap L' h₁ [] →
      wpAny (model prog w) (A.deeper (envOf qual scope L' f cdv)) (execs body (envOf qual scope L' f cdv))
        (fun fl s' => R (.ok (.ret (match fl with | .ret v => v | _ => .none))) s')
        (fun e s' => wpAny (model prog w) (A.deeper (envOf qual scope L' f cdv)) (leaving (envOf qual scope L' f cdv) e) (fun _ s'' => R (.error e) s'') (fun e' s'' => R (.error e') s'') s')
        { s with heap := h₁, toks := s.toks + binds.length })
    (hco : scope.isCoroutine = false) (hgen : scope.isGenerator = false) (hk : scope.kind = .function)
    (hcell : ∀ x ∈ scope.names, x.2 ≠ .cell) : codeAny (model prog w) A (.call (.ref f) args) R s := by
  refine codeAny_call_def (fd := fnX name qual params body scope [] dV kV doc pm an cdv ct) (body := body) (binds := binds) hroom (X _ _ ho) rfl T.nolimit (codeRec_of X hcd) rfl hbind hcell hloc (fun h₁ hns hk₁ => ?_) hco hgen hk
  exact h _ h₁ ⟨hns, hk₁, Nat.le_refl _⟩ News.nil

/-- the same for a def that keeps a name in a cell -/
theorem enterC (X : K.In s.heap) (T : Top p loose mean mg mb s.heap)
    (ho : K.lookup f = some ⟨oc, od, .func (fnOf name qual params body scope dV kV doc pm an cdv ct), osl⟩) (hcd : codeIn K cdv qual = true) (hroom : A.depth < recursionLimit)
    (hbind : BindsTo s (fnOf name qual params body scope dV kV doc pm an cdv ct) args binds) (hkind : (binds.all fun y => scope.names.lookup y.1 == some .local || scope.names.lookup y.1 == some .cell) = true)
    (hnd : ((cellsFrom 0 scope.names []).map (·.1)).Nodup)
    (h : ∀ L' h₁ tk cells, Fr s.heap L' h₁ (bindL (envOfC qual scope L' f cdv).kindOf binds fun _ => none) → News s.heap L' h₁ cells →
      CellsAre (bindC (envOfC qual scope L' f cdv).kindOf binds fun _ => none) (cellsFrom (L' + 1) scope.names []) cells →
      wpAny (model prog w) (A.deeper (envOfC qual scope L' f cdv)) (execs body (envOfC qual scope L' f cdv))
        (fun fl s' => R (.ok (.ret (match fl with | .ret v => v | _ => .none))) s')
        (fun e s' => wpAny (model prog w) (A.deeper (envOfC qual scope L' f cdv)) (leaving (envOfC qual scope L' f cdv) e) (fun _ s'' => R (.error e) s'') (fun e' s'' => R (.error e') s'') s')
        { s with heap := h₁, toks := tk })
    (hco : scope.isCoroutine = false) (hgen : scope.isGenerator = false) (hk : scope.kind = .function) : codeAny (model prog w) A (.call (.ref f) args) R s := by
  refine codeAny_call_function hroom (X _ _ ho) rfl hco hgen rfl (codeRec_of X hcd) (hbind _ _ _ _ ?_)
  refine wpAny_newFunctionEnv_cells hk (kindsX hkind _) fun env' he s' x => ?_
  subst he
  refine ⟨T.nolimit.keeps x.toInCall.keep, codeAny_func ?_⟩
  obtain ⟨h₁, tk, rfl, _⟩ := x.done
  have hk₁ := x.toInCall.keep
  obtain ⟨cells, NC, Y⟩ := Cl.news (h₀ := s.heap) (Nat.le_refl _) fun n c hm => ⟨x.cell n c (lookup_of_mem_nodup (cellsFrom_names scope.names 0 (s.heap.objs.size + 1) [] [] rfl ▸ hnd) hm), x.above n c hm⟩
  exact h s.heap.objs.size h₁ tk cells ⟨x.toInCall.ns, hk₁, Nat.le_refl _⟩ NC Y
end


abbrev At (dp un : Nat) (gd : Option (List Code)) (outer : List Env) : Around := { handled := none, depth := dp, frames := some outer, guards := gd, units := un }
end Part1

section Part2
theorem fill_in2 : (fun w : World => hd.heap_39 w.params) = (fun w : World => hd.heap_39 w.params) ∧ PySem.Challenge.rw_il0156_01.row = PySem.Challenge.rw_il0156_01.row := by
  k_fill
  exact ⟨rfl, rfl⟩

theorem pow8_bnd {k : Int} (h0 : 0 ≤ k) (h1 : k ≤ 6) : (8 : Int) ^ k.toNat ≠ 0 ∧ ((8 : Int) ^ k.toNat).natAbs < 1073741824 := by
  have h : k = 0 ∨ k = 1 ∨ k = 2 ∨ k = 3 ∨ k = 4 ∨ k = 5 ∨ k = 6 := by omega
  rcases h with rfl | rfl | rfl | rfl | rfl | rfl | rfl <;> decide

theorem fdiv_pow8 {prog : Program} {w : World} {A : Around} {E : Value → Shared → Prop} {s : Shared} {a k : Int} {t u : Tok} {Q : Value → Shared → Prop} (h0 : 0 ≤ k) (h1 : k ≤ 6)
    (h : Q (.int (a.fdiv (8 ^ k.toNat)) s.toks) { s with toks := s.toks + 1 }) : wpAny (model prog w) A (binaryOp .FloorDiv (.int a t) (.int (8 ^ k.toNat) u)) Q E s :=
  floordiv_int (pow8_bnd h0 h1).1 h (Or.inl (PyProof.noPylong_small (pow8_bnd h0 h1).2))
local macro_rules | `(tactic| walk_at "binaryOp FloorDiv int int") => `(tactic| (k_here; (with_reducible refine fdiv_pow8 ?ka ?kb ?_); (case ka => omega); (case kb => omega)))

def drawnL (n : Int) : List Int := (rangeKs 0 ((n.fdiv 8).fmod 7 - 0).toNat).map fun k => ((n.fdiv 8).fdiv (8 ^ k.toNat)).fmod 8

theorem drawn_call {w : World} {dp un : Nat} {gd : Option (List Code)} {outer : List Env} {s : Shared} {mean : ExcName → Option Value} {mg mb : Str → Option Value} {Q E : Value → Shared → Prop} {n : Int} {t : Tok}
    (X : (hd.heap_39 w.params).In s.heap) (T : Top hd.view_39 (looseW hd.view_39 [Str.ofString "filterfalse"]) mean mg mb s.heap)
    (hd0 : dp < recursionLimit) (h0 : 0 ≤ n) (h1 : n < 1000000000000)
    (k : ∀ l vs h' tk, (∀ b o, s.heap.get? b = some o → h'.get? b = some o) → h'.IsList l vs.toArray → IntsAre vs (drawnL n) → Q (.ref l) { s with heap := h', toks := tk }) :
    wpAny (model PySem.Challenge.rw_il0156_01.row.prog w) (At dp un gd outer) (call (.ref 63) [.int n t]) Q E s := by
  refine wpAny_call ?_
  k_dflt (refine' enterC ?k1 ?k2 ?k6 ?k7 ?k8 ?k9 ?kB ?kD ?_ ?c2 ?c3 ?c4)
  case k1 => exact X
  case k2 => exact T
  case k6 => k_is
  case k7 => k_is
  case k8 => show dp < _; omega
  case k9 => exact BindsTo.of_eq rfl
  case kB => exact rfl
  case kD => decide +kernel
  case c2 => exact rfl
  case c3 => exact rfl
  case c4 => exact rfl
  intro L' h₁ tk' cells' F' N' Y'
  k_cells Y'
  try simp only [List.cons_append, List.nil_append] at N'
  try dsimp only
  try k_fold
  have hb1 : 0 ≤ (n.fdiv 8).fmod 7 := fmod_lo _ (by decide)
  have hb2 : (n.fdiv 8).fmod 7 < 7 := fmod_hi _ (by decide)
  k_steps
  rename Fr _ _ _ _ => F9
  rename News _ _ _ _ => N9
  exact k _ _ _ _ F9.keep (News.isList N9 (List.Mem.head _)) (by assumption)

/-- the number that _law_bits makes of a row, as the walk reads it -/
def bitsV (ns : List Int) : Int := (List.foldl (fun (l' : List Int) k' => if (ns.any fun x => x == k') = true then l' ++ [2 ^ k'.toNat] else if (ns.any fun x => x == k') = false then l' else l') [] (rangeKs 0 ((8 : Int) - 0).toNat)).sum

theorem bits_call {w : World} {dp un : Nat} {gd : Option (List Code)} {outer : List Env} {s : Shared} {mean : ExcName → Option Value} {mg mb : Str → Option Value} {Q E : Value → Shared → Prop} {l : Addr} {vs : List Value} {ns : List Int}
    (X : (hd.heap_39 w.params).In s.heap) (T : Top hd.view_39 (looseW hd.view_39 [Str.ofString "filterfalse"]) mean mg mb s.heap)
    (hd0 : dp < recursionLimit) (hl : s.heap.IsList l vs.toArray) (hi : IntsAre vs ns) (hlen : ns.length ≤ 100)
    (k : ∀ t h' tk, (∀ b o, s.heap.get? b = some o → h'.get? b = some o) → Q (.int (bitsV ns) t) { s with heap := h', toks := tk }) :
    wpAny (model PySem.Challenge.rw_il0156_01.row.prog w) (At dp un gd outer) (call (.ref 82) [.ref l]) Q E s := by
  refine wpAny_call ?_
  k_dflt (refine' enterC ?k1 ?k2 ?k6 ?k7 ?k8 ?k9 ?kB ?kD ?_ ?c2 ?c3 ?c4)
  case k1 => exact X
  case k2 => exact T
  case k6 => k_is
  case k7 => k_is
  case k8 => show dp < _; omega
  case k9 => exact BindsTo.of_eq rfl
  case kB => exact rfl
  case kD => decide +kernel
  case c2 => exact rfl
  case c3 => exact rfl
  case c4 => exact rfl
  intro L' h₁ tk' cells' F' N' Y'
  k_cells Y'
  try simp only [List.cons_append, List.nil_append] at N'
  try dsimp only
  try k_fold
  k_steps
  rename Fr _ _ _ _ => F9
  exact k _ _ _ F9.keep
end Part2

section Part3
theorem fill_in3 : (fun w : World => hd.heap_39 w.params) = (fun w : World => hd.heap_39 w.params) ∧ PySem.Challenge.rw_il0156_01.row = PySem.Challenge.rw_il0156_01.row := by
  k_fill
  exact ⟨rfl, rfl⟩

/-- a list of lists of ints -/
def RowsAt (h : Heap) (l : Addr) (rss : List (List Int)) : Prop :=
  ∃ as : List Addr, h.IsList l (as.map Value.ref).toArray ∧ as.length = rss.length ∧ ∀ i a, as[i]? = some a → ∃ vs, h.IsList a vs.toArray ∧ IntsAre vs (rss.getD i [])

def RowsBnd (rss : List (List Int)) : Prop := ∀ i, (rss.getD i []).length ≤ 100 ∧ ∀ x ∈ rss.getD i [], 0 ≤ x ∧ x ≤ 7
theorem RowsBnd.len {rss : List (List Int)} (h : RowsBnd rss) (i : Nat) : (rss.getD i []).length ≤ 100 := (h i).1
theorem RowsBnd.lo {rss : List (List Int)} (h : RowsBnd rss) {i : Nat} {x : Int} (hx : x ∈ rss.getD i []) : 0 ≤ x := ((h i).2 x hx).1
theorem RowsBnd.hi {rss : List (List Int)} (h : RowsBnd rss) {i : Nat} {x : Int} (hx : x ∈ rss.getD i []) : x ≤ 7 := ((h i).2 x hx).2
theorem RowsBnd.sz {rss : List (List Int)} (h : RowsBnd rss) {i : Nat} {vs : List Value} (hi : IntsAre vs (rss.getD i [])) : vs.length ≤ 16777216 := by
  have := h.len i
  have := hi.length
  omega
theorem room_of {dp : Nat} (h : dp + 10 < recursionLimit) : dp + 1 < recursionLimit := by omega

section
variable {prog : Program} {w : World} {A : Around} {E : Value → Shared → Prop} {s : Shared} {g : Heap} {L l : Addr} {m : Str → Option Value} {as : List Addr} {rss : List (List Int)} {k : Int} {u : Tok} {Q : Value → Shared → Prop}
theorem item_rows {value slice : PySem.Expr} (F : Fr g L s.heap m) (hl : g.IsList l (as.map Value.ref).toArray) (hr : ∀ i a, as[i]? = some a → ∃ vs, g.IsList a vs.toArray ∧ IntsAre vs (rss.getD i []))
    (h0 : 0 ≤ k) (h1 : k < as.length) (hfit : k < 2 ^ 63) (h : ∀ a vs, as[k.toNat]? = some a → g.IsList a vs.toArray → IntsAre vs (rss.getD k.toNat []) → Q (.ref a) s)
    (hs : subscripted slice false (.ref l) (.int k u) = operate [.ref l, .int k u] (getItem (.ref l) (.int k u)) := by with_unfolding_all rfl) :
    wpAny (model prog w) A (subscriptTail value slice (.ref l) (.int k u)) Q E s := by
  have hlt : k.toNat < as.length := by omega
  obtain ⟨vs, h2, h3⟩ := hr k.toNat as[k.toNat] (List.getElem?_eq_getElem hlt)
  exact tail_any (F.lst hl).typeIs slot_list_getitem.lookup (wpAny_getItem_list (F.lst hl) h0 hfit (by simp [hlt]) (h _ _ (List.getElem?_eq_getElem hlt) h2 h3)) hs
theorem len_rows (F : Fr g L s.heap m) (hl : g.IsList l (as.map Value.ref).toArray) (hz : as.length ≤ 100) (h : Q (.int as.length (s.toks + 1)) { s with toks := s.toks + 1 + 1 }) :
    wpAny (model prog w) A (call (.builtin "len") [.ref l]) Q E s :=
  kun_lenL (F.lst hl) (by simp) (by omega) h
end
local macro_rules | `(tactic| walk_at "call builtin:len") => `(tactic| (k_here; (with_reducible show wpAny _ _ (call (Value.builtin "len") [Value.ref _]) _ _ _); (rename Fr _ _ _ _ => kF); k_dflt (refine' len_rows kF ?ka ?kb ?_; (case ka => assumption); (case kb => omega); k_whole)))
local macro_rules | `(tactic| walk_at "subscriptTail") => `(tactic| (k_here; (with_reducible show wpAny _ _ (subscriptTail _ _ (Value.ref _) (Value.int _ _)) _ _ _); (rename Fr _ _ _ _ => kF); k_dflt (refine' item_rows kF ?ka ?kb ?kc ?kd ?ke ?_ ?kz; (case ka => assumption); (case kb => assumption); (case kc => first | omega | exact fmod_lo _ (by omega)); (case kd => first | omega | exact fmod_hi _ (by omega)); (case ke => first | omega | exact Int.lt_of_lt_of_le (fmod_hi _ (by omega)) (by omega)); (case kz => with_unfolding_all rfl); k_whole); intro ra rvs rx rl ri))


abbrev ix1 (n : Int) (len : Nat) : Nat := (((n.fdiv 8).fmod 16).fmod (len : Int)).toNat
abbrev ix2 (n : Int) (len : Nat) : Nat := (((n.fdiv 128).fmod 16).fmod (len : Int)).toNat

theorem pair_call {w : World} {dp un : Nat} {gd : Option (List Code)} {outer : List Env} {s : Shared} {mean : ExcName → Option Value} {mg mb : Str → Option Value} {Q E : Value → Shared → Prop} {n : Int} {t : Tok} {l : Addr} {rss : List (List Int)} {as : List Addr}
    (X : (hd.heap_39 w.params).In s.heap) (T : Top hd.view_39 (looseW hd.view_39 [Str.ofString "filterfalse"]) mean mg mb s.heap)
    (hd0 : dp < recursionLimit) (h0 : 0 ≤ n) (h1 : n < 1000000000000)
    (hrows : s.heap.IsList l (as.map Value.ref).toArray) (hra : ∀ i a, as[i]? = some a → ∃ vs, s.heap.IsList a vs.toArray ∧ IntsAre vs (rss.getD i [])) (hk0 : 0 < as.length) (hk1 : as.length ≤ 100)
    (k : ∀ tl a b h' tk, (∀ b o, s.heap.get? b = some o → h'.get? b = some o) → s.heap.get? tl = none → h'.get? tl = some { cls := .type "tuple", data := .seq #[.ref a, .ref b] } →
      as[ix1 n as.length]? = some a → as[ix2 n as.length]? = some b → Q (.ref tl) { s with heap := h', toks := tk }) :
    wpAny (model PySem.Challenge.rw_il0156_01.row.prog w) (At dp un gd outer) (call (.ref 70) [.ref l, .int n t]) Q E s := by
  have hk3 : 0 < (as.length : Int) := by omega
  refine wpAny_call ?_
  k_dflt (refine' enter0 ?k1 ?k2 ?k6 ?k7 ?k8 ?k9 ?kB ?_ ?c2 ?c3 ?c4 ?c5)
  case k1 => exact X
  case k2 => exact T
  case k6 => k_is
  case k7 => k_is
  case k8 => show dp < _; omega
  case k9 => exact BindsTo.of_eq rfl
  case kB => exact locs rfl
  case c2 => exact rfl
  case c3 => exact rfl
  case c4 => exact rfl
  case c5 => decide
  intro L' h₁ F' N'
  try dsimp only
  try k_fold
  k_steps
  rename Fr _ _ _ _ => F9
  rename News _ _ _ _ => N9
  exact k _ _ _ _ _ F9.keep (N9 _ (List.Mem.head _)).2.2 (N9 _ (List.Mem.head _)).1 (by assumption) (by assumption)

section
variable {w : World} {dp un : Nat} {gd : Option (List Code)} {outer : List Env} {s : Shared} {mean : ExcName → Option Value} {mg mb : Str → Option Value} {Q E : Value → Shared → Prop} {g : Heap} {L l : Addr} {m : Str → Option Value} {news : List (Addr × Obj)}
theorem bits_in {vs : List Value} {ns : List Int} (F : Fr g L s.heap m) (N : News g L s.heap news) (X : (hd.heap_39 w.params).In g) (T : Top hd.view_39 (looseW hd.view_39 [Str.ofString "filterfalse"]) mean mg mb g)
    (hd0 : dp < recursionLimit) (hl : g.IsList l vs.toArray) (hi : IntsAre vs ns) (hlen : ns.length ≤ 100)
    (k : ∀ t h' tk, Fr g L h' m → News g L h' news → Q (.int (bitsV ns) t) { s with heap := h', toks := tk }) :
    wpAny (model PySem.Challenge.rw_il0156_01.row.prog w) (At dp un gd outer) (call (.ref 82) [.ref l]) Q E s :=
  bits_call (X.keeps F.keep) (T.keeps F.keep) hd0 (F.lst hl) hi hlen fun t h' tk hk => k t h' tk (F.keeps hk) (News.keepsAll N hk)
theorem drawn_in {n : Int} {t : Tok} (F : Fr g L s.heap m) (N : News g L s.heap news) (X : (hd.heap_39 w.params).In g) (T : Top hd.view_39 (looseW hd.view_39 [Str.ofString "filterfalse"]) mean mg mb g)
    (hd0 : dp < recursionLimit) (h0 : 0 ≤ n) (h1 : n < 1000000000000)
    (k : ∀ l vs h' tk, Fr g L h' m → News g L h' news → h'.IsList l vs.toArray → IntsAre vs (drawnL n) → Q (.ref l) { s with heap := h', toks := tk }) :
    wpAny (model PySem.Challenge.rw_il0156_01.row.prog w) (At dp un gd outer) (call (.ref 63) [.int n t]) Q E s :=
  drawn_call (X.keeps F.keep) (T.keeps F.keep) hd0 h0 h1 fun l vs h' tk hk h2 h3 => k l vs h' tk (F.keeps hk) (News.keepsAll N hk) h2 h3
theorem pair_in {n : Int} {t : Tok} {rss : List (List Int)} {as : List Addr} (F : Fr g L s.heap m) (N : News g L s.heap news) (X : (hd.heap_39 w.params).In g) (T : Top hd.view_39 (looseW hd.view_39 [Str.ofString "filterfalse"]) mean mg mb g)
    (hd0 : dp < recursionLimit) (h0 : 0 ≤ n) (h1 : n < 1000000000000)
    (hrows : g.IsList l (as.map Value.ref).toArray) (hra : ∀ i a, as[i]? = some a → ∃ vs, g.IsList a vs.toArray ∧ IntsAre vs (rss.getD i [])) (hk0 : 0 < as.length) (hk1 : as.length ≤ 100)
    (k : ∀ tl a b vsa vsb h' tk, Fr g L h' m → News g L h' ((tl, { cls := .type "tuple", data := .seq #[.ref a, .ref b] }) :: news) → (∀ p ∈ news, p.1 ≠ tl) →
      g.IsList a vsa.toArray → IntsAre vsa (rss.getD (ix1 n as.length) []) → g.IsList b vsb.toArray → IntsAre vsb (rss.getD (ix2 n as.length) []) → Q (.ref tl) { s with heap := h', toks := tk }) :
    wpAny (model PySem.Challenge.rw_il0156_01.row.prog w) (At dp un gd outer) (call (.ref 70) [.ref l, .int n t]) Q E s := by
  refine pair_call (rss := rss) (X.keeps F.keep) (T.keeps F.keep) hd0 h0 h1 (F.lst hrows) (fun i a e => ?_) hk0 hk1 fun tl a b h' tk hk hn ht e1 e2 => ?_
  · obtain ⟨vs, q1, q2⟩ := hra i a e
    exact ⟨vs, F.lst q1, q2⟩
  · obtain ⟨vsa, a1, a2⟩ := hra _ _ e1
    obtain ⟨vsb, b1, b2⟩ := hra _ _ e2
    have none_of : ∀ c o, s.heap.get? c = some o → c ≠ tl := fun c o q z => by rw [z, hn] at q; cases q
    refine k tl a b vsa vsb h' tk (F.keeps hk) (fun p hp => ?_) (fun p hp => none_of _ _ (N p hp).1) a1 a2 b1 b2
    rcases List.mem_cons.mp hp with rfl | hp
    · refine ⟨ht, ?_, ?_⟩
      · obtain ⟨oL, _, _, hL, _⟩ := F.ns
        exact fun z => none_of _ _ hL z.symm
      · cases q : g.get? tl with
        | none => rfl
        | some o => have := F.keep _ _ q; rw [hn] at this; cases this
    · exact News.keepsAll N hk p hp
end
theorem mod8_lit {prog : Program} {w : World} {A : Around} {E : Value → Shared → Prop} {s : Shared} {Q : Value → Shared → Prop} {n c : Int} {t u : Tok} (hc : n.fmod 8 = c) (h : Q (.int c s.toks) { s with toks := s.toks + 1 }) :
    wpAny (model prog w) A (binaryOp .Mod (.int n t) (.int 8 u)) Q E s := by
  subst hc
  exact mod_int' (by decide) h
local macro_rules | `(tactic| walk_at "binaryOp Mod int int") => `(tactic| (k_here; (with_reducible refine mod8_lit (by with_reducible assumption) ?_)))
local macro_rules | `(tactic| walk_at "call ref") => `(tactic| (k_here; (with_reducible show wpAny _ _ (call (Value.ref 70) _) _ _ _); k_dflt (refine' pair_in ?k1 ?k2 ?k3 ?k4 ?k5 ?k6 ?k7 ?k8 ?k9 ?ka ?kb ?_; (case k1 => k_asm); (case k2 => k_asm); (case k3 => k_asm); (case k4 => k_asm); (case k5 => exact room_of (by assumption)); (case k6 => omega); (case k7 => omega); (case k8 => assumption); (case k9 => assumption); (case ka => omega); (case kb => omega); k_whole); intro ptl pa pb pva pvb ph ptk F' N' pne pl1 pi1 pl2 pi2; (try simp only [List.forall_mem_cons, List.forall_mem_nil, and_true] at pne)))
local macro_rules | `(tactic| walk_at "call ref") => `(tactic| (k_here; (with_reducible show wpAny _ _ (call (Value.ref 82) _) _ _ _); k_dflt (refine' bits_in ?k1 ?k2 ?k3 ?k4 ?k5 ?k7 ?k8 ?k9 ?_; (case k1 => k_asm); (case k2 => k_asm); (case k3 => k_asm); (case k4 => k_asm); (case k5 => exact room_of (by assumption)); (case k7 => assumption); (case k8 => assumption); (case k9 => exact RowsBnd.len (by assumption) _); k_whole); intro bt bh btk F' N'))
local macro_rules | `(tactic| walk_at "call ref") => `(tactic| (k_here; (with_reducible show wpAny _ _ (call (Value.ref 63) _) _ _ _); k_dflt (refine' drawn_in ?k1 ?k2 ?k3 ?k4 ?k5 ?k7 ?k8 ?_; (case k1 => k_asm); (case k2 => k_asm); (case k3 => k_asm); (case k4 => k_asm); (case k5 => exact room_of (by assumption)); (case k7 => omega); (case k8 => omega); k_whole); intro dl dvs dh dtk F' N' dlist dints))
theorem pow2_bnd {k : Int} (h0 : 0 ≤ k) (h1 : k ≤ 7) : (2 : Int) ^ k.toNat ≠ 0 ∧ ((2 : Int) ^ k.toNat).natAbs < 1073741824 := by
  have h : k = 0 ∨ k = 1 ∨ k = 2 ∨ k = 3 ∨ k = 4 ∨ k = 5 ∨ k = 6 ∨ k = 7 := by omega
  rcases h with rfl | rfl | rfl | rfl | rfl | rfl | rfl | rfl <;> decide
theorem pow2_row {prog : Program} {w : World} {A : Around} {E : Value → Shared → Prop} {s : Shared} {rss : List (List Int)} {i : Nat} {k : Int} {t u : Tok} {Q : Value → Shared → Prop} (hb : RowsBnd rss) (hk : k ∈ rss.getD i [])
    (h : Q (.int (2 ^ k.toNat) s.toks) { s with toks := s.toks + 1 }) : wpAny (model prog w) A (binaryOp .Pow (.int 2 t) (.int k u)) Q E s :=
  pow_int_small (hb.lo hk) (by have := hb.hi hk; omega) (by decide) h
theorem fdiv_pow2 {prog : Program} {w : World} {A : Around} {E : Value → Shared → Prop} {s : Shared} {rss : List (List Int)} {i : Nat} {a k : Int} {t u : Tok} {Q : Value → Shared → Prop} (hb : RowsBnd rss) (hk : k ∈ rss.getD i [])
    (h : Q (.int (a.fdiv (2 ^ k.toNat)) s.toks) { s with toks := s.toks + 1 }) : wpAny (model prog w) A (binaryOp .FloorDiv (.int a t) (.int (2 ^ k.toNat) u)) Q E s :=
  floordiv_int (pow2_bnd (hb.lo hk) (hb.hi hk)).1 h (Or.inl (PyProof.noPylong_small (pow2_bnd (hb.lo hk) (hb.hi hk)).2))
local macro_rules | `(tactic| walk_at "binaryOp Pow int int") => `(tactic| (k_here; (with_reducible refine pow2_row (by assumption) (by assumption) ?_)))
local macro_rules | `(tactic| walk_at "binaryOp FloorDiv int int") => `(tactic| (k_here; (with_reducible refine fdiv_pow2 (by assumption) (by assumption) ?_)))
local macro_rules | `(tactic| walk_at "eval ListComp") => `(tactic| (k_here; (rename News _ _ _ _ => nN9); (try simp only [List.nil_append, List.cons_append] at nN9); k_dflt (refine LCt.ListComp_T (F₀ := by k_asm) (by with_unfolding_all rfl) (by decide) (by rfl) (by decide) (by rfl) ?_)))
local macro_rules | `(tactic| walk_at "CompSrcT") => `(tactic| (k_here; (try k_fmods); k_dflt (refine LCt.CompSrcT.base (by rfl) (by k_asm) (by k_asm) (by assumption) ?sz ?_; (case sz => (rw [PySem.sizeLine_eq]; simp only [List.size_toArray]; exact RowsBnd.sz (by assumption) (by assumption))); intro g'; (refine' kci_list _ (by assumption) (fun k' t' I' oI' C' oC' D' m' ys' l' h' tk' E' hk' hI' hC' hx' F' N' off' ne' => ?_) ?_ ?_); (all_goals (try (simp only [LCg.Off3, and_true] at off'))); (all_goals (try ((show KPfMark → _); intro hMark'))); kcf_last)))


/-- the figures of a row at which a whole number has a bit -/
def pick (W : Int) (ns : List Int) : List Int := ns.foldl (fun l' k' => if ¬(W.fdiv (2 ^ k'.toNat)).fmod 2 = 0 then l' ++ [k'] else l') []
/-- what _law_told gives, as the walk reads it -/
def toldL (rss : List (List Int)) (n : Int) : List Int :=
  let r0 := rss.getD 0 []
  let r1 := rss.getD (ix1 n rss.length) []
  let b1 := bitsV r1
  let b2 := bitsV (rss.getD (ix2 n rss.length) [])
  if n.fmod 8 = 0 then pick (255 - b2) r0 else if n.fmod 8 = 1 then pick (Builtin.bitAnd b1 b2) r1 else if n.fmod 8 = 2 then pick (Builtin.bitOr b1 b2) r0
  else if n.fmod 8 = 3 then pick (Builtin.bitXor b1 b2) r0 else if n.fmod 8 = 4 then pick (Builtin.bitAnd b1 (255 - b2)) r1 else if n.fmod 8 = 5 then pick (Builtin.bitOr (255 - b1) b2) r0
  else drawnL n

theorem told_call {w : World} {dp un : Nat} {gd : Option (List Code)} {outer : List Env} {s : Shared} {mean : ExcName → Option Value} {mg mb : Str → Option Value} {Q E : Value → Shared → Prop} {n : Int} {t : Tok} {l : Addr} {rss : List (List Int)} {base : Heap}
    (X : (hd.heap_39 w.params).In s.heap) (T : Top hd.view_39 (looseW hd.view_39 [Str.ofString "filterfalse"]) mean mg mb s.heap)
    (B : Below (At dp un gd outer) base outer s.heap)
    (hd0 : dp + 10 < recursionLimit) (h0 : 0 ≤ n) (h1 : n < 1000000000000) (hR : RowsAt s.heap l rss) (hk0 : 0 < rss.length) (hk1 : rss.length ≤ 100) (hk2 : RowsBnd rss)
    (k : ∀ l vs h' tk, (∀ b o, s.heap.get? b = some o → h'.get? b = some o) → h'.IsList l vs.toArray → IntsAre vs (toldL rss n) → Q (.ref l) { s with heap := h', toks := tk }) :
    wpAny (model PySem.Challenge.rw_il0156_01.row.prog w) (At dp un gd outer) (call (.ref 87) [.ref l, .int n t]) Q E s := by
  obtain ⟨as, hrows, hlen, hra⟩ := hR
  rw [← hlen] at hk0 hk1
  have hk3 : 0 < (as.length : Int) := by omega
  have h8 : n.fmod 8 = 0 ∨ n.fmod 8 = 1 ∨ n.fmod 8 = 2 ∨ n.fmod 8 = 3 ∨ n.fmod 8 = 4 ∨ n.fmod 8 = 5 ∨ n.fmod 8 = 6 ∨ n.fmod 8 = 7 := by
    have q1 := fmod_lo n (n := 8) (by decide)
    have q2 := fmod_hi n (n := 8) (by decide)
    omega
  refine wpAny_call ?_
  k_dflt (refine' enterC ?k1 ?k2 ?k6 ?k7 ?k8 ?k9 ?kB ?kD ?_ ?c2 ?c3 ?c4)
  case k1 => exact X
  case k2 => exact T
  case k6 => k_is
  case k7 => k_is
  case k8 => show dp < _; omega
  case k9 => exact BindsTo.of_eq rfl
  case kB => exact rfl
  case kD => decide +kernel
  case c2 => exact rfl
  case c3 => exact rfl
  case c4 => exact rfl
  intro L' h₁ tk' cells' F' N' Y'
  k_cells Y'
  try simp only [List.cons_append, List.nil_append] at N'
  try dsimp only
  try k_fold
  rcases h8 with hc | hc | hc | hc | hc | hc | hc | hc
  all_goals (
    k_steps
    rename Fr _ _ _ _ => F9
    rename News _ _ _ _ => N9
    refine k _ _ _ _ F9.keep (by first | assumption | exact News.isList N9 (List.Mem.head _)) ?_
    unfold toldL
    rw [hc, ← hlen]
    assumption)
end Part3

section Part4
/-- the program -/
abbrev PG : Program := PySem.Challenge.rw_il0156_01.row.prog
/-- the frames that stand -/
abbrev frs (outer : List Env) : List Addr := outer.filterMap (·.frame)

structure Stk (hb : Heap) (outer : List Env) (h : Heap) : Prop where
  stays : hb.StaysIn h
  frames : h.FunFrames hb outer
  dicts : KtsDicts (frs outer) h

theorem Stk.below {hb h : Heap} {outer : List Env} (S : Stk hb outer h) {dp un : Nat} {gd : Option (List Code)} : Below (At dp un gd outer) hb outer h := ⟨rfl, S.stays, S.frames⟩

theorem funFrames_up {hb h h' : Heap} : ∀ {outer : List Env}, (∀ b ∈ frs outer, ∀ o, h.get? b = some o → ∃ sl, h'.get? b = some { o with slots := sl }) → h.FunFrames hb outer → h'.FunFrames hb outer
  | [], _, _ => trivial
  | env :: rest, up, ⟨hk, ⟨L, o, hf, hn, ho, hd⟩, hr⟩ => by
    have hm : ∀ b ∈ frs rest, b ∈ frs (env :: rest) := fun b hb => by
      show b ∈ (env :: rest).filterMap (·.frame)
      rw [List.filterMap_cons, hf]; exact List.mem_cons_of_mem _ hb
    obtain ⟨sl, hs⟩ := up L (by show L ∈ (env :: rest).filterMap (·.frame); rw [List.filterMap_cons, hf]; exact List.mem_cons_self) o ho
    exact ⟨hk, ⟨L, _, hf, hn, hs, hd⟩, funFrames_up (fun b hb o e => up b (hm b hb) o e) hr⟩
theorem funFrames_rebase {b₁ b₂ h : Heap} : ∀ {outer : List Env}, (∀ b ∈ frs outer, b₂.get? b = none) → h.FunFrames b₁ outer → h.FunFrames b₂ outer
  | [], _, _ => trivial
  | env :: rest, hb, ⟨hk, ⟨L, o, hf, hn, ho, hd⟩, hr⟩ => by
    have hm : ∀ b ∈ frs rest, b ∈ frs (env :: rest) := fun b hb => by
      show b ∈ (env :: rest).filterMap (·.frame)
      rw [List.filterMap_cons, hf]; exact List.mem_cons_of_mem _ hb
    exact ⟨hk, ⟨L, o, hf, hb L (by show L ∈ (env :: rest).filterMap (·.frame); rw [List.filterMap_cons, hf]; exact List.mem_cons_self), ho, hd⟩, funFrames_rebase (fun b h => hb b (hm b h)) hr⟩

theorem Stk.notIn {hb h : Heap} {outer : List Env} (S : Stk hb outer h) {b : Addr} {o : Obj} (e : hb.get? b = some o) : b ∉ frs outer := fun hm => by
  have := (S.frames.mem hm).1; rw [e] at this; cases this
/-- what is no dict is no frame -/
theorem Stk.notDict {hb h : Heap} {outer : List Env} (S : Stk hb outer h) {b : Addr} {o : Obj} (e : h.get? b = some o) (hd : ∀ es n, o.data ≠ .dict es n) : b ∉ frs outer := fun hm => by
  obtain ⟨o', es, n, ho', hn⟩ := S.dicts b hm
  rw [e] at ho'; cases ho'; exact hd es n hn
theorem Stk.fieldsNot {hb h : Heap} {outer : List Env} (S : Stk hb outer h) {b : Addr} {o : Obj} {vs : Array Value} (e : h.get? b = some o) (hd : o.data = .fields vs) : b ∉ frs outer := S.notDict e fun es n q => by rw [hd] at q; cases q
theorem Stk.rel {hb h h' : Heap} {outer : List Env} {wr : List Addr} (S : Stk hb outer h) (R : Rel (frs outer) wr h h') (hw : ∀ b ∈ wr, hb.get? b = none) : Stk hb outer h' :=
  ⟨fun b o e => R.keep b o (S.notIn e) (fun hm => by have := hw b hm; rw [e] at this; cases this) (S.stays b o e), funFrames_up (fun b hm o e => R.up b o hm e) S.frames, fun b hm => by
    obtain ⟨o, es, n, ho, hd⟩ := S.dicts b hm
    obtain ⟨sl, hs⟩ := R.up b o hm ho
    exact ⟨_, es, n, hs, hd⟩⟩
theorem Stk.keeps {hb h h' : Heap} {outer : List Env} (S : Stk hb outer h) (k : ∀ b o, h.get? b = some o → h'.get? b = some o) : Stk hb outer h' := S.rel (wr := []) (Rel.of_keeps k) fun _ h => nomatch h
theorem Stk.push {hb h : Heap} {outer : List Env} {L a : Addr} {m : Str → Option Value} {name : Str} {scope : Scope} {cd : Value} (S : Stk hb outer h) (hn : h.Ns L m) (hL : hb.get? L = none) (hk : scope.kind = .function := by rfl) :
    Stk hb (envOf name scope L a cd :: outer) h := ⟨S.stays, .cons (by show scope.kind ≠ .module; rw [hk]; decide) rfl hn hL S.frames, fun b hm => by
      rcases List.mem_cons.mp hm with rfl | hm
      · obtain ⟨o, es, ep, ho, hd, _⟩ := hn
        exact ⟨o, es, ep, ho, hd⟩
      · exact S.dicts b hm⟩

theorem Rel.mono {fs fs' wr wr' : List Addr} {h h' : Heap} (R : Rel fs wr h h') (h1 : ∀ b ∈ wr, b ∈ wr') (h2 : ∀ b ∈ fs, b ∈ fs') (h3 : ∀ b ∈ fs', b ∉ fs → b ∉ wr) : Rel fs' wr' h h' :=
  ⟨fun b o n m e => R.keep b o (fun z => n (h2 b z)) (fun z => m (h1 b z)) e, fun b o n e => by
    by_cases z : b ∈ fs
    · exact R.up b o z e
    · exact ⟨o.slots, R.keep b o z (h3 b n z) e⟩⟩
theorem Rel.wider {fs wr wr' : List Addr} {h h' : Heap} (R : Rel fs wr h h') (h1 : ∀ b ∈ wr, b ∈ wr') : Rel fs wr' h h' := R.mono h1 (fun _ h => h) fun _ a b => absurd a b
theorem Rel.any {fs wr : List Addr} {h h' : Heap} (R : Rel fs wr h h') {b : Addr} {o : Obj} (hw : b ∉ wr) (e : h.get? b = some o) : ∃ sl, h'.get? b = some { o with slots := sl } := by
  by_cases z : b ∈ fs
  · exact R.up b o z e
  · exact ⟨o.slots, R.keep b o z hw e⟩
/-- a call's frame is new: what the call leaves stands for who called -/
theorem Rel.pop {fs wr : List Addr} {h h₁ h' : Heap} {L : Addr} (k : ∀ b o, h.get? b = some o → h₁.get? b = some o) (hL : h.get? L = none) (R : Rel (L :: fs) wr h₁ h') : Rel fs wr h h' :=
  ⟨fun b o n m e => R.keep b o (fun z => by
    rcases List.mem_cons.mp z with z | z
    · rw [z, hL] at e; cases e
    · exact n z) m (k b o e), fun b o n e => R.up b o (List.mem_cons_of_mem _ n) (k b o e)⟩
theorem Rel.comp {fs wr : List Addr} {h h₁ h' : Heap} {L : Addr} (hL : h.get? L = none) (x : Rel fs wr h h₁) (R : Rel (L :: fs) wr h₁ h') : Rel fs wr h h' :=
  ⟨fun b o n m e => R.keep b o (fun z => by
    rcases List.mem_cons.mp z with z | z
    · rw [z, hL] at e; cases e
    · exact n z) m (x.keep b o n m e), fun b o n e => by
    obtain ⟨s1, h1⟩ := x.up b o n e
    obtain ⟨s2, h2⟩ := R.up b _ (List.mem_cons_of_mem _ n) h1
    exact ⟨s2, h2⟩⟩
theorem isList_rel {fs wr : List Addr} {h h' : Heap} {a : Addr} {items : Array Value} (R : Rel fs wr h h') (hl : h.IsList a items) (hw : a ∉ wr) : h'.IsList a items := by
  obtain ⟨o, ho, hc, n, hd⟩ := hl
  obtain ⟨sl, hs⟩ := R.any hw ho
  exact ⟨_, hs, hc, n, hd⟩

/-- a raised StopIteration on its way -/
structure Exc (outer : List Env) (J : Addr) (h h' : Heap) (e : Addr) : Prop where
  rel : Rel (frs outer) [J] h h'
  new : h.get? e = none
  obj : (∃ oe vs a0, h'.get? e = some oe ∧ oe.cls = .type "StopIteration" ∧ oe.data = .fields vs ∧ vs[0]? = some a0 ∧ vs[1]? = some .none) ∨
    ∃ a0, h'.TracedW (hideAll h (J :: frs outer)) e (.type "StopIteration") a0

section
variable {M : Model} {E : Value → Shared → Prop} {s' : Shared} {hb h0 h1 : Heap} {outer : List Env} {L a e J : Addr} {m : Str → Option Value} {name : Str} {scope : Scope} {cd : Value} {Q : Unit → Shared → Prop} {dp un : Nat} {gd : Option (List Code)}
theorem leave_exc (S : Stk hb outer s'.heap) (R0 : Rel (frs outer) [J] h0 h1) (hL0 : h0.get? L = none) (hex : ∀ b o, h0.get? b = some o → ∃ o', h1.get? b = some o') (hn : h1.Ns L m) (S0 : Stk hb outer h0)
    (X : Exc (envOf name scope L a cd :: outer) J h1 s'.heap e) (hQ : ∀ h', Exc outer J h0 h' e → Q () { s' with heap := h' }) (hk : scope.kind = .function := by rfl) :
    wpAny M ((At dp un gd outer).deeper (envOf name scope L a cd)) (leaving (envOf name scope L a cd) (.ref e)) Q E s' := by
  have hLm : L ∈ frs (envOf name scope L a cd :: outer) := List.mem_cons_self
  have hout : ∀ b, b ∉ frs outer → b ≠ L → b ∉ frs (envOf name scope L a cd :: outer) := fun b n ne z => by
    rcases List.mem_cons.mp z with z | z
    · exact ne z
    · exact n z
  have none0 : ∀ b, h1.get? b = none → h0.get? b = none := fun b hb => by
    cases q : h0.get? b with
    | none => rfl
    | some o => obtain ⟨o', ho'⟩ := hex b o q; rw [hb] at ho'; cases ho'
  have neL : ∀ b o, h0.get? b = some o → b ≠ L := fun b o q z => by rw [z, hL0] at q; cases q
  obtain ⟨oL, es, ep, hL, hLd, _⟩ := hn
  obtain ⟨sl, hL'⟩ := X.rel.up L oL hLm hL
  have hnb : ∀ b ∈ J :: frs outer, (hideAll h0 (J :: frs outer)).get? b = none := fun b hb => hideAll_none _ hb
  have hff : s'.heap.FunFrames (hideAll h0 (J :: frs outer)) (envOf name scope L a cd :: outer) := by
    refine ⟨by show scope.kind ≠ .module; rw [hk]; decide, ⟨L, _, rfl, ?_, hL', fun vs q => ?_⟩, funFrames_rebase (fun b hb => hnb b (List.mem_cons_of_mem _ hb)) S.frames⟩
    · cases q : (hideAll h0 (J :: frs outer)).get? L with
      | none => rfl
      | some o => have := of_hideAll _ q; rw [hL0] at this; cases this
    · rw [show ({ oL with slots := sl } : Obj).data = oL.data from rfl, hLd] at q; cases q
  have out : ∀ {b o}, (hideAll h0 (J :: frs outer)).get? b = some o → h0.get? b = some o ∧ b ≠ J ∧ b ∉ frs outer := fun {b o} q => by
    refine ⟨of_hideAll _ q, fun z => ?_, fun z => ?_⟩
    · rw [hnb b (by rw [z]; exact List.mem_cons_self)] at q; cases q
    · rw [hnb b (List.mem_cons_of_mem _ z)] at q; cases q
  have hkb : (hideAll h0 (J :: frs outer)).StaysIn s'.heap := fun b o q => by
    obtain ⟨q0, q1, q2⟩ := out q
    exact X.rel.keep b o (hout b q2 (neL b o q0)) (fun z => q1 (List.mem_singleton.mp z)) (R0.keep b o q2 (fun z => q1 (List.mem_singleton.mp z)) q0)
  have hen0 := none0 e X.new
  have hen : (hideAll h0 (J :: frs outer)).get? e = none := by
    cases q : (hideAll h0 (J :: frs outer)).get? e with
    | none => rfl
    | some o => have := (out q).1; rw [hen0] at this; cases this
  have fin : ∀ a0 h', Heap.LeftW (hideAll h0 (J :: frs outer)) (envOf name scope L a cd :: outer) e (.type "StopIteration") a0 s'.heap h' → Q () { s' with heap := h' } := fun a0 h' hl => by
    obtain ⟨k1, k2, k3, k4⟩ := hl
    refine hQ h' ⟨⟨fun b o n1 n2 q => k1 b o (hideAll_get _ q fun z => ?_), fun b o n1 q => ?_⟩, hen0, .inr ⟨a0, k3⟩⟩
    · rcases List.mem_cons.mp z with z | z
      · exact n2 (List.mem_singleton.mpr z)
      · exact n1 z
    · obtain ⟨s1, q1⟩ := R0.up b o n1 q
      obtain ⟨s2, q2⟩ := X.rel.up b _ (List.mem_cons_of_mem _ n1) q1
      obtain ⟨_, o', ho', hd'⟩ := S0.frames.mem n1
      rw [q] at ho'; cases ho'
      obtain ⟨s3, q3⟩ := k4 b _ q2 hd'
      exact ⟨s3, q3⟩
  rcases X.obj with ⟨oe, vs, a0, he, hc, hd, h0', h1'⟩ | ⟨a0, ht⟩
  · refine wpAny_leaving_firstW (a0 := a0) rfl hff rfl he hkb hen hd h1' h0' fun h' hl => fin a0 h' (by rw [← hc]; exact hl)
  · refine wpAny_leaving_nextW rfl hff rfl (cls := .type "StopIteration") (a0 := a0) ?_ hkb hen fun h' hl => fin a0 h' hl
    obtain ⟨oe, vs, T, oT, ts, x1, x2, x3, x4, x5, x6, x7, x8, x9⟩ := ht
    refine ⟨oe, vs, T, oT, ts, x1, x2, x3, x4, ?_, x6, x7, x8, x9⟩
    cases q : (hideAll h0 (J :: frs outer)).get? T with
    | none => rfl
    | some o =>
      obtain ⟨q0, q1, q2⟩ := out q
      have := hideAll_get (J :: frs (envOf name scope L a cd :: outer)) (R0.keep T o q2 (fun z => q1 (List.mem_singleton.mp z)) q0) (fun z => by
        rcases List.mem_cons.mp z with z | z
        · exact q1 z
        · exact hout T q2 (neL T o q0) z)
      rw [x5] at this; cases this
end
end Part4

section Part5
def boundC (S : Addr) : Obj := { cls := .type "builtin_function_or_method", data := .fields #[.builtin "set.__contains__", .ref S] }

/-- an iterator's standing part: a list's own iterator J, or a filterfalse over one; what it makes of the ints that J still has -/
inductive Sta (w : World) (fs : List Addr) (h : Heap) : Nat → Addr → Addr → (List Int → List Int) → Prop
  | base {J : Addr} : Sta w fs h 0 J J id
  | ff {n F I J B S dx k : Nat} {f : List Int → List Int} {P : Int → Bool} {od : Obj} (hF : h.get? F = some ⟨.ref 47, some dx, .plain, #[some (.ref B), some (.ref I)]⟩) (hD : h.get? dx = some od) (hDc : od.cls = .type "dict")
      (hB : h.get? B = some (boundC S)) (hS : h.SetOf (intKind PG w) S P k) (nD : dx ∉ fs) (hI : Sta w fs h n I J f) : Sta w fs h (n + 1) F J (fun zs => (f zs).filter fun x => !P x)

/-- the list iterator at the ground, and the ints that it still has -/
structure Gnd (hb h : Heap) (J l : Addr) (i : Nat) (ns : List Int) : Prop where
  it : h.IsListIter J l i
  list : ∃ vs, h.IsList l vs.toArray ∧ IntsAre vs ns
  new : hb.get? J = none

section
variable {w : World} {hb h h' : Heap} {fs fs' wr : List Addr} {I J l : Addr} {n i : Nat} {f : List Int → List Int} {ns : List Int}
theorem Sta.fewer (x : Sta w fs h n I J f) (hs : ∀ b ∈ fs', b ∈ fs) : Sta w fs' h n I J f := by
  induction x with
  | base => exact .base
  | ff hF hD hDc hB hS nD _ ih => exact .ff hF hD hDc hB hS (fun z => nD (hs _ z)) ih
theorem Sta.keeps (x : Sta w fs h n I J f) (k : ∀ b o, h.get? b = some o → h'.get? b = some o) : Sta w fs h' n I J f := by
  induction x with
  | base => exact .base
  | ff hF hD hDc hB hS nD _ ih => exact .ff (k _ _ hF) (k _ _ hD) hDc (k _ _ hB) (let ⟨o, a, b, c, ho, r⟩ := hS; ⟨o, a, b, c, k _ _ ho, r⟩) nD ih
/-- a new frame is none of its objects -/
theorem Sta.more (x : Sta w fs h n I J f) {L : Addr} (hL : h.get? L = none) : Sta w (L :: fs) h n I J f := by
  induction x with
  | base => exact .base
  | ff hF hD hDc hB hS nD _ ih => exact .ff hF hD hDc hB hS (fun z => (List.mem_cons.mp z).elim (fun e => by rw [e, hL] at hD; cases hD) nD) ih
/-- it stands as long as its objects do, and these are no list iterators and no frames -/
theorem Sta.moved (x : Sta w fs h n I J f) (k : ∀ b o, h.get? b = some o → o.cls ≠ .type "list_iterator" → (b ∉ fs ∨ ∀ es n, o.data ≠ .dict es n) → h'.get? b = some o) : Sta w fs h' n I J f := by
  induction x with
  | base => exact .base
  | ff hF hD hDc hB hS nD _ ih =>
    obtain ⟨oS, es, ep, t, hoS, hex, hd, hr⟩ := hS
    exact .ff (k _ _ hF (by intro z; cases z) (.inr fun _ _ z => by cases z)) (k _ _ hD (by rw [hDc]; decide) (.inl nD)) hDc
      (k _ _ hB (show Value.type "builtin_function_or_method" ≠ Value.type "list_iterator" from by decide) (.inr fun _ _ z => by cases z))
      ⟨oS, es, ep, t, k _ _ hoS (by rw [hex.1]; decide) (.inr fun _ _ z => by rw [hd] at z; cases z), hex, hd, hr⟩ nD ih
theorem Sta.rel {outer : List Env} (x : Sta w (frs outer) h n I J f) (S : Stk hb outer h) (R : Rel (frs outer) wr h h') (hw : ∀ b ∈ wr, ∃ l i, h.IsListIter b l i) : Sta w (frs outer) h' n I J f :=
  x.moved fun b o e hc hn => R.keep b o (hn.elim id fun hd => S.notDict e hd) (fun hm => by
    obtain ⟨l, i, o', ho', hc', _⟩ := hw b hm
    rw [e] at ho'; cases ho'; exact hc hc') e
theorem Gnd.keeps (x : Gnd hb h J l i ns) (k : ∀ b o, h.get? b = some o → h'.get? b = some o) : Gnd hb h' J l i ns :=
  ⟨x.it.at fun o e => k _ _ e, let ⟨vs, ⟨o, ho, r⟩, hi⟩ := x.list; ⟨vs, ⟨o, k _ _ ho, r⟩, hi⟩, x.new⟩
theorem Gnd.rel {outer : List Env} (x : Gnd hb h J l i ns) (S : Stk hb outer h) (R : Rel (frs outer) wr h h') (hw : ∀ b ∈ wr, ∃ l i, h.IsListIter b l i) (hJ : J ∉ wr) : Gnd hb h' J l i ns := by
  obtain ⟨⟨o, ho, hc, hd⟩, ⟨vs, hl, hi⟩, hn⟩ := x
  have hl' := hl
  obtain ⟨ol, hol, hcl, nl, hdl⟩ := hl'
  exact ⟨⟨o, R.keep _ _ (S.fieldsNot ho hd) hJ ho, hc, hd⟩, ⟨vs, isList_rel R hl (fun hm => by
    obtain ⟨l', i', o', ho', hc', _⟩ := hw _ hm
    rw [hol] at ho'; cases ho'; rw [hcl] at hc'; exact absurd hc' (by decide)), hi⟩, hn⟩
/-- the ground's iterator went on, the rest stands -/
theorem Gnd.went {outer : List Env} {j : Nat} (x : Gnd hb h J l i ns) (R : Rel (frs outer) [J] h h') (it : h'.IsListIter J l j) : Gnd hb h' J l j ns := by
  obtain ⟨⟨o, ho, hc, hd⟩, ⟨vs, hl, hi⟩, hn⟩ := x
  have hl' := hl
  obtain ⟨ol, hol, hcl, nl, hdl⟩ := hl'
  exact ⟨it, ⟨vs, isList_rel R hl (fun hm => by
    rw [List.mem_singleton.mp hm, ho] at hol; cases hol; rw [hcl] at hc; exact absurd hc (by decide)), hi⟩, hn⟩
end

/-- the contract of one «next» -/
def CS (w : World) (hb : Heap) (n : Nat) : Prop := ∀ (dp un : Nat) (gd : Option (List Code)) (outer : List Env) (s : Shared) (I J l : Addr) (i : Nat) (f : List Int → List Int) (ns : List Int) (Q : Option Value → Shared → Prop) (E : Value → Shared → Prop),
  dp + n < recursionLimit → Stk hb outer s.heap → Sta w (frs outer) s.heap n I J f → Gnd hb s.heap J l i ns →
  (∀ x r, f (ns.drop i) = x :: r → ∀ j t h' tk, h'.IsListIter J l j → f (ns.drop j) = r → Rel (frs outer) [J] s.heap h' → Q (some (.int x t)) { s with heap := h', toks := tk }) →
  (f (ns.drop i) = [] → ∀ e h' tk, Exc outer J s.heap h' e → E (.ref e) { s with heap := h', toks := tk }) →
  wpAny (model PG w) (At dp un gd outer) (callSpecial? (.ref I) "__next__") Q E s

theorem cs_base (w : World) (hb : Heap) : CS w hb 0 := by
  intro dp un gd outer s I J l i f ns Q E _ S hI G item stop
  cases hI with
  | base =>
    obtain ⟨hit, ⟨vs, hl, hi⟩, hn⟩ := G
    obtain ⟨o, ho, hc, hd⟩ := id hit
    obtain ⟨ol, hol, _, nl, hdl⟩ := id hl
    have hJf := S.fieldsNot ho hd
    refine wpAny_callSpecial?_slot (name := Str.ofString "__next__") hit.typeIs slot_listiter_next (wpAny_call_entry slot_listiter_next hit.typeIs entry_listiter_next ?_ (args_listiter_next _))
    show wpAny _ _ (field (.ref I) 0 >>= _) _ _ s
    refine wpAny_bind (wpAny_field ho hd (x := .ref l) rfl ?_)
    show wpAny _ _ (if (Value.ref l == Value.none) = true then _ else _) _ _ s
    rw [if_neg (show ¬ ((Value.ref l == Value.none) = true) from Bool.false_ne_true)]
    show wpAny _ _ (field (.ref I) 1 >>= _) _ _ s
    refine wpAny_bind (wpAny_field ho hd (x := .int i 0) rfl ?_)
    show wpAny _ _ (seqItems? (.ref l) >>= _) _ _ s
    refine wpAny_bind (wpAny_seqItems hol hdl ?_)
    have hlen := hi.length
    by_cases hlt : i < ns.length
    · obtain ⟨t, hx⟩ := hi.get i ns[i] (by simp [hlt])
      have hx' : vs.toArray[i]? = some (.int ns[i] t) := by simpa using hx
      simp only [Int.toNat_natCast, hx']
      refine wpAny_bind (wpAny_setField ho hd (by simp) (wpAny_pure ⟨_, rfl, ?_⟩))
      refine item ns[i] (ns.drop (i + 1)) (by show ns.drop i = _; rw [List.drop_eq_getElem_cons hlt]) (i + 1) t _ _ ⟨_, Heap.get?_update_self _ ho (Obj.isFreed_of_fields (Obj.data_mapFields hd _)), (Obj.cls_mapFields ..).trans hc, by
        rw [Obj.data_mapFields hd]; simp [rawInt]⟩ rfl ⟨fun b o' n1 n2 q => ?_, fun b o' n1 q => ⟨o'.slots, ?_⟩⟩
      · exact (Heap.get?_update_other _ _ (fun z => n2 (List.mem_singleton.mpr z.symm))).trans q
      · exact (Heap.get?_update_other _ _ (fun z : I = b => hJf (by rw [z]; exact n1))).trans q
    · have hx' : vs.toArray[i]? = none := by simp; omega
      simp only [Int.toNat_natCast, hx']
      refine wpAny_bind (wpAny_rule (wpAny_bind (wpAny_setField ho hd (by simp) ?_)))
      show wpAny _ _ (newExc (.type "StopIteration") [] >>= _) _ _ _
      refine wpAny_bind ?_
      simp only [newExc, newTuple]
      refine wpAny_bind (wpAny_newObj_type ?_ (by size_fits))
      refine wpAny_bind (m := firstArgMember _ _) (wpAny_of_eq (a := Value.none) (by first | rfl | (simp only [firstArgMember]; rfl)) ?_)
      refine wpAny_newObj_type ?_ (by size_fits)
      simp only [raiseNew]
      refine wpAny_bind (wpAny_handled ?_)
      refine wpAny_bind (wpAny_pure (wpAny_throw ?_))
      have up : ∀ b o', b ≠ I → s.heap.get? b = some o' → (((s.heap.update I (Obj.mapFields (·.setIfInBounds 0 Value.none))).push { cls := .type "tuple", data := .seq ([] : List Value).toArray })).get? b = some o' := fun b o' z q =>
        Heap.get?_push_of_some _ ((Heap.get?_update_other _ _ (Ne.symm z)).trans q)
      refine stop (by show ns.drop i = []; exact List.drop_eq_nil_of_le (by omega)) _ _ _ ⟨⟨fun b o' n1 n2 q => ?_, fun b o' n1 q => ⟨o'.slots, ?_⟩⟩, ?_, .inl ⟨_, _, _, Heap.get?_push_size _ rfl, rfl, rfl, rfl, rfl⟩⟩
      · exact Heap.get?_push_of_some _ (up b o' (fun z => n2 (List.mem_singleton.mpr z)) q)
      · exact Heap.get?_push_of_some _ (up b o' (fun z : b = I => hJf (by rw [← z]; exact n1)) q)
      · exact Heap.get?_none_of_le (by rw [Heap.size_push, Heap.size_after_update]; exact Nat.le_succ _)
end Part5

section Part6
namespace SC
theorem type_c : typeOf (.builtin "set.__contains__") = pure (.type "method_descriptor") := by show builtinType _ = _; rw [builtinType_eq_fast]; kernel_rfl
theorem slot_mget : Slot "method_descriptor" "__get__" "method_descriptor.__get__" :=
  .of (owner := "method_descriptor") (n := "__get__") (by rw [typeLookup_type, builtinLookup_eq_fast]; kernel_rfl) (by decide +kernel) (by decide +kernel) (by decide +kernel)
    (by first | exact .inl (by decide +kernel) | exact .inr (by decide +kernel)) (by rw [isSubtype_type]; kernel_rfl)
theorem no_mset : typeLookup (.type "method_descriptor") "__set__" = pure none := by rw [typeLookup_type, builtinLookup_eq_fast]; kernel_rfl
theorem no_mdel : typeLookup (.type "method_descriptor") "__delete__" = pure none := by rw [typeLookup_type, builtinLookup_eq_fast]; kernel_rfl
theorem entry_mget : entryFor table "method_descriptor.__get__" = some Builtin.«method_descriptor.__get__» := entryFor_of_tree (by kernel_rfl)
theorem args_mget (a b c : Value) : argsOk "method_descriptor.__get__" ⟨[a, b, c], []⟩ := by unfold argsOk; kernel_rfl
theorem lk_set_contains : typeLookup (.type "set") "__contains__" = pure (some (.builtin "set.__contains__")) := F.slot_set_contains.lookup
theorem owner_c : ".".intercalate ("set.__contains__".cutAt '.').dropLast = "set" := by first | decide +kernel | kernel_rfl
theorem sub_set_owner : isSubtype (.type "set") (.type (".".intercalate ("set.__contains__".cutAt '.').dropLast)) = pure true := by rw [owner_c, isSubtype_type]; kernel_rfl
theorem told : Manifest.toldItsClass.contains "set.__contains__" = false := by decide +kernel
end SC
section
variable {prog : Program} {w : World} {A : Around} {E : Value → Shared → Prop} {h : Heap} {g : Array GenState} {d : Drawn} {t : Nat} {os : OsState} {a : Addr} {o : Obj}
theorem contains_get {R : Result → Shared → Prop} (hx : h.get? a = some o) (hc : o.cls = .type "set") (hq : R (.ok (.ret (.ref h.objs.size))) ⟨h.push (boundC a), g, d, t, os⟩) :
    codeAny (model prog w) A (.call (.builtin "method_descriptor.__get__") ⟨[.builtin "set.__contains__", .ref a, .type "set"], []⟩) R ⟨h, g, d, t, os⟩ := by
  have hT : (⟨h, g, d, t, os⟩ : Shared).TypeIs (.ref a) "set" := ⟨_, hx, hc⟩
  have hT5 : (⟨h, g, d, t, os⟩ : Shared).TypeIs (.builtin "set.__contains__") "method_descriptor" := SC.type_c
  have f8 := SC.sub_set_owner
  have f9 := SC.told
  refine codeAny_call_builtin SC.slot_mget.plain SC.entry_mget (SC.slot_mget.check _ _ _ _ _ _ _ _ hT5 (SC.args_mget _ _ _) ?_)
  unfold Builtin.«method_descriptor.__get__»
  repeat (any_goals (first | assumption | wp_step))

theorem contains_entry {tk : Tok} {Q : Fin → Shared → Prop} {es : Array (Int × Value)} {ep : Nat} {tb : SetTable} (hx : h.get? a = some ⟨.type "set", none, .set es ep tb, #[]⟩) (hq : Q (.done (.ret (.ref h.objs.size))) ⟨h.push (boundC a), g, d, t, os⟩) :
    wpAny (model prog w) A (Builtin.«object.__getattribute__» ⟨[.ref a, .str "__contains__" tk], []⟩) Q E ⟨h, g, d, t, os⟩ := by
  have hT : (⟨h, g, d, t, os⟩ : Shared).TypeIs (.ref a) "set" := ⟨_, hx, rfl⟩
  have hT5 : (⟨h, g, d, t, os⟩ : Shared).TypeIs (.builtin "set.__contains__") "method_descriptor" := SC.type_c
  have f4 := SC.lk_set_contains
  have f5 := SC.type_c
  have f6 := SC.slot_mget.lookup
  have f7 := SC.no_mset
  have f8 := SC.no_mdel
  repeat (any_goals (first | assumption | wp_step))
  refine contains_get hx rfl ?_
  repeat (any_goals (first | assumption | wp_step))

theorem contains_call {tk : Tok} {R : Result → Shared → Prop} {es : Array (Int × Value)} {ep : Nat} {tb : SetTable} (hx : h.get? a = some ⟨.type "set", none, .set es ep tb, #[]⟩) (hq : R (.ok (.ret (.ref h.objs.size))) ⟨h.push (boundC a), g, d, t, os⟩) :
    codeAny (model prog w) A (.call (.builtin "set.__getattribute__") ⟨[.ref a, .str "__contains__" tk], []⟩) R ⟨h, g, d, t, os⟩ :=
  codeAny_call_builtin F.slot_set_getattribute.plain F.entry_set_ga (F.slot_set_getattribute.check _ _ _ _ _ _ _ _ (show (⟨h, g, d, t, os⟩ : Shared).TypeIs (.ref a) "set" from ⟨_, hx, rfl⟩) (F.args_set_getattribute_2 _ _) (contains_entry hx hq))

theorem contains_attr {Q : Value → Shared → Prop} {ex : Bool} {es : Array (Int × Value)} {ep : Nat} {tb : SetTable} (hx : h.get? a = some ⟨.type "set", none, .set es ep tb, #[]⟩) (hq : Q (.ref h.objs.size) ⟨h.push (boundC a), g, d, t + 1, os⟩) :
    wpAny (model prog w) A (getAttr (.ref a) "__contains__" ex) Q E ⟨h, g, d, t, os⟩ := by
  unfold getAttr
  refine wpAny_bind (wpAny_mkText ?_)
  have hT : (⟨h, g, d, t + 1, os⟩ : Shared).TypeIs (.ref a) "set" := ⟨_, hx, rfl⟩
  have f2 := F.slot_set_getattribute.lookup
  have f3 := F.slot_set_getattribute.bind (.ref a)
  cases ex
  all_goals (
    repeat (any_goals (first | assumption | wp_step))
    refine contains_call hx ?_
    repeat (any_goals (first | assumption | wp_step)))
end
end Part6

section Part7
namespace SC
theorem chk {a : Addr} {n : Int} {t : Tok} {M : Model} {A : Around} {E : Value → Shared → Prop} {s : Shared} {es : Array (Int × Value)} {ep : Nat} {tb : SetTable} {Q : Unit → Shared → Prop} (hx : s.heap.get? a = some ⟨.type "set", none, .set es ep tb, #[]⟩) (hq : Q () s) :
    wpAny M A (checkBoundCall "set.__contains__" ⟨[.ref a, .int n t], []⟩) Q E s := by
  have h1 : isSubtype (.type "set") (.type "module") = pure false := by rw [isSubtype_type]; kernel_rfl
  have h2 : isSubtype (.type "set") (.type "type") = pure false := by rw [isSubtype_type]; kernel_rfl
  have hT : s.TypeIs (.ref a) "set" := ⟨_, hx, rfl⟩
  obtain ⟨hp, g, d, tk, os⟩ := s
  dsimp only at hx
  repeat (any_goals (first | assumption | wp_step))
  all_goals (refine wpAny_of_eq (a := ()) (by kernel_rfl) ?_; exact hq)
theorem quiet {as : Args} : (Code.builtin "set.__contains__" as).quiet = true := Code.quiet_builtin _ (by decide +kernel)
end SC

section
variable {prog : Program} {w : World} {A : Around} {E : Value → Shared → Prop} {s : Shared}
theorem call_contains {B S : Addr} {P : Int → Bool} {k : Nat} {x : Int} {t : Tok} {Q : Value → Shared → Prop} (hB : s.heap.get? B = some (boundC S)) (hS : s.heap.SetOf (intKind prog w) S P k)
    (h : Q (.bool (P x)) { s with toks := s.toks + 1 }) : wpAny (model prog w) A (call (.ref B) [.int x t]) Q E s := by
  have hkey := intKind_is prog w x t
  have hsc : (Value.int x t).scannable = true := rfl
  obtain ⟨o, es, ep, tb, ho, ⟨hc1, hc2, hc3⟩, hda, hr⟩ := id hS
  obtain ⟨oc, od, odt, osl⟩ := o
  dsimp only at hc1 hc2 hc3 hda
  subst hc1; subst hc2; subst hc3; subst hda
  refine wpAny_call (codeAny_of_tree ?_)
  show wpAny _ A.in1 (callAny (.ref B) ⟨[.int x t], []⟩) _ _ s
  simp only [callAny]
  refine wpAny_bind (wpAny_load hB ?_)
  simp only [boundC, show (Value.type "builtin_function_or_method" == Value.type "method" || Value.type "builtin_function_or_method" == Value.type "builtin_function_or_method" || Value.type "builtin_function_or_method" == Value.type "method-wrapper") = true by decide, if_true]
  refine KFB.if_so (by decide) ?_
  refine wpAny_bind (SC.chk ho ?_)
  refine wpAny_bind (wpAny_pure (wpAny_pure ?_))
  refine ⟨SC.quiet, codeAny_builtin entry_set_contains ?_⟩
  unfold Builtin.«frozenset.__contains__» Builtin.Frozenset.oneOther
  simp only [List.isEmpty_nil, bind_assoc]
  unfold Builtin.Frozenset.addrOf Builtin.Frozenset.withSetAsKey setContains
  refine wpAny_bind (wpAny_pure ?_)
  try dsimp only
  refine wpAny_bind (wpAny_pure ?_)
  try dsimp only
  refine wpAny_bind (wpAny_tryCatch ?_)
  refine wpAny_holding ?_
  refine wpAny_bind ((intKind prog w).pyHash hkey ?_)
  refine wpAny_bind (wpAny_setFind_of (s := { s with toks := s.toks + 1 }) hkey hsc hS fun r hr => ?_)
  refine wpAny_pure ?_
  show wpAny _ _ (ret (Value.bool r.isSome)) _ _ _
  rw [hr]
  exact wpAny_pure h
end
end Part7

section Part8
theorem fill_in8 : (fun w : World => hd.heap_39 w.params) = (fun w : World => hd.heap_39 w.params) ∧ PySem.Challenge.rw_il0156_01.row = PySem.Challenge.rw_il0156_01.row := by
  k_fill
  exact ⟨rfl, rfl⟩

def Hold (P : Prop) : Prop := P
theorem Hold.out {P : Prop} (h : Hold P) : P := h
theorem Hold.mk {P : Prop} (h : P) : Hold P := h

section
variable {prog : Program} {w : World} {A : Around} {s : Shared} {K : Frag} {p : Program} {loose : List Str} {mean : ExcName → Option Value} {mg mb : Str → Option Value}
  {R : Result → Shared → Prop} {name qual : Str} {params : Arguments} {body : List Stmt} {scope : Scope} {dV kV doc pm cdv ct oc : Value} {an od : Option Addr} {osl : Array (Option Value)} {f : Addr} {args : Args} {binds : List (Str × Value)}
/-- a def of the text is entered over a part of the heap that stands -/
theorem enterH (hid : List Addr) (X : K.In s.heap) (T : Top p loose mean mg mb s.heap)
    (ho : K.lookup f = some ⟨oc, od, .func (fnOf name qual params body scope dV kV doc pm an cdv ct), osl⟩) (hcd : codeIn K cdv qual = true) (hroom : A.depth < recursionLimit)
    (hbind : BindsTo s (fnOf name qual params body scope dV kV doc pm an cdv ct) args binds) (hloc : ∀ y ∈ binds, scope.names.lookup y.1 = some .local)
    (h : ∀ L' h₁, L' = s.heap.objs.size → (∀ b o, s.heap.get? b = some o → h₁.get? b = some o) → Fr (hideAll s.heap hid) L' h₁ (fun y => binds.reverse.lookup y) → News (hideAll s.heap hid) L' h₁ [] →
      wpAny (model prog w) (A.deeper (envOf qual scope L' f cdv)) (execs body (envOf qual scope L' f cdv))
        (fun fl s' => R (.ok (.ret (match fl with | .ret v => v | _ => .none))) s')
        (fun e s' => wpAny (model prog w) (A.deeper (envOf qual scope L' f cdv)) (leaving (envOf qual scope L' f cdv) e) (fun _ s'' => R (.error e) s'') (fun e' s'' => R (.error e') s'') s')
        { s with heap := h₁, toks := s.toks + binds.length })
    (hco : scope.isCoroutine = false) (hgen : scope.isGenerator = false) (hk : scope.kind = .function)
    (hcell : ∀ x ∈ scope.names, x.2 ≠ .cell) : codeAny (model prog w) A (.call (.ref f) args) R s := by
  refine codeAny_call_def (fd := fnX name qual params body scope [] dV kV doc pm an cdv ct) (body := body) (binds := binds) hroom (X _ _ ho) rfl T.nolimit (codeRec_of X hcd) rfl hbind hcell hloc (fun h₁ hns hk₁ => ?_) hco hgen hk
  exact h _ h₁ rfl hk₁ ⟨hns, fun b o e => hk₁ b o (of_hideAll _ e), Nat.le_of_eq (hideAll_size _ _)⟩ News.nil
end

section
variable {w : World} {A : Around} {E : Value → Shared → Prop} {s : Shared} {g : Heap} {L x dx B I : Addr} {m : Str → Option Value} {od : Obj} {Q : Value → Shared → Prop} {ex : Bool}
theorem ff_inst (F : Fr g L s.heap m) (h1 : g.get? x = some ⟨.ref 47, some dx, .plain, #[some (.ref B), some (.ref I)]⟩) (h2 : g.get? dx = some od) :
    InstAt s.heap x ⟨.ref 47, some dx, .plain, #[some (.ref B), some (.ref I)]⟩ 47 (some od) := ⟨F.keep _ _ h1, rfl, rfl, F.keep _ _ h2⟩
theorem ff_func (F : Fr g L s.heap m) (X : (hd.heap_39 w.params).In g) (h1 : g.get? x = some ⟨.ref 47, some dx, .plain, #[some (.ref B), some (.ref I)]⟩) (h2 : g.get? dx = some od) (h : Q (.ref B) { s with toks := s.toks + 1 }) :
    wpAny (model PySem.Challenge.rw_il0156_01.row.prog w) A (getAttr (.ref x) (Str.ofString "_func") ex) Q E s :=
  get_slot (p := 48) (i := 0) F X (ff_inst F h1 h2) (by k_is) (by k_is) (by k_is) (by k_is) (by k_is) (by k_is) rfl rfl h
theorem ff_it (F : Fr g L s.heap m) (X : (hd.heap_39 w.params).In g) (h1 : g.get? x = some ⟨.ref 47, some dx, .plain, #[some (.ref B), some (.ref I)]⟩) (h2 : g.get? dx = some od) (h : Q (.ref I) { s with toks := s.toks + 1 }) :
    wpAny (model PySem.Challenge.rw_il0156_01.row.prog w) A (getAttr (.ref x) (Str.ofString "_it") ex) Q E s :=
  get_slot (p := 49) (i := 1) F X (ff_inst F h1 h2) (by k_is) (by k_is) (by k_is) (by k_is) (by k_is) (by k_is) rfl rfl h
end
/-- a turn's end -/
def TurnEnd (Inv : Nat → Shared → Prop) (n : Nat) (Q : Flow → Shared → Prop) (f : Flow) (s : Shared) : Prop := match f with
  | .next => ∃ m, m < n ∧ Inv m s
  | .cont => ∃ m, m < n ∧ Inv m s
  | .brk => Q .next s
  | .ret v => Q (.ret v) s
theorem while_inv {prog : Program} {w : World} {A : Around} {E : Value → Shared → Prop} {Q : Flow → Shared → Prop} {s : Shared} {env : Env} {test : Expr} {body : List Stmt} {pos : Pos} (Inv : Nat → Shared → Prop) (n₀ : Nat) (h : Inv n₀ s)
    (turn : ∀ n s', Inv n s' → wpAny (model prog w) A (isTrue test env (eval test env)) (fun b s₂ => if b = true then wpAny (model prog w) A (execs body env) (TurnEnd Inv n Q) E s₂ else Q .next s₂) E s')
    (hE : PassesOwn (model prog w) A env E := by passes_own) : wpAny (model prog w) A (exec (.While test body [] pos) env) Q E s := by
  refine wpAny_While (codeAny_whileLoop Inv (fun n s' hI => ?_) n₀ h)
  refine wpAny_mono (turn n s' hI) (fun b s₂ h₂ => ?_) hE
  cases b with
  | false =>
    simp only [Bool.false_eq_true, if_false] at h₂ ⊢
    exact wpAny_execs_nil h₂
  | true =>
    simp only [if_true] at h₂ ⊢
    refine wpAny_mono h₂ (fun f s₃ h₃ => ?_) hE
    cases f <;> exact h₃

theorem hide_keep {base h : Heap} {l : List Addr} (k : base.StaysIn h) (n : ∀ b o, base.get? b = some o → b ∉ l) : ∀ b o, base.get? b = some o → (hideAll h l).get? b = some o := fun b o e => hideAll_get _ (k b o e) (n b o e)
theorem fr_rel {g h h' : Heap} {L : Addr} {m : Str → Option Value} {fs wr : List Addr} (F : Fr g L h m) (R : Rel (L :: fs) wr h h') (hg : ∀ b o, g.get? b = some o → b ∉ fs ∧ b ∉ wr) (hL : L ∉ wr) : Fr g L h' m := by
  obtain ⟨⟨o, es, ep, ho, hd, r⟩, k, ab⟩ := F
  obtain ⟨sl, hs⟩ := R.up L o List.mem_cons_self ho
  refine ⟨⟨_, es, ep, hs, hd, r⟩, fun b o' e => ?_, ab⟩
  obtain ⟨n1, n2⟩ := hg b o' e
  refine R.keep b o' (fun z => ?_) n2 (k b o' e)
  rcases List.mem_cons.mp z with z | z
  · subst z; exact absurd (Heap.lt_size e) (Nat.not_lt.mpr ab)
  · exact n1 z
theorem fr_map {g h : Heap} {L : Addr} {m m' : Str → Option Value} (F : Fr g L h m) (e : ∀ y, m y = m' y) : Fr g L h m' := (funext e : m = m') ▸ F
local macro_rules | `(tactic| walk_at "call builtin:next") => `(tactic| (refine Hold.out ?_))
theorem setOf_keeps {prog : Program} {w : World} {h h' : Heap} {S k : Nat} {P : Int → Bool} (x : h.SetOf (intKind prog w) S P k) (hk : ∀ b o, h.get? b = some o → h'.get? b = some o) : h'.SetOf (intKind prog w) S P k := let ⟨o, a, b, c, ho, r⟩ := x; ⟨o, a, b, c, hk _ _ ho, r⟩
theorem call_contains_in {prog : Program} {w : World} {A : Around} {E : Value → Shared → Prop} {s : Shared} {g : Heap} {L B S k : Nat} {m : Str → Option Value} {P : Int → Bool} {x : Int} {t : Tok} {Q : Value → Shared → Prop} (F : Fr g L s.heap m) (hB : g.get? B = some (boundC S)) (hS : g.SetOf (intKind prog w) S P k)
    (h : Q (.bool (P x)) { s with toks := s.toks + 1 }) : wpAny (model prog w) A (call (.ref B) [.int x t]) Q E s := call_contains (F.keep _ _ hB) (setOf_keeps hS F.keep) h
theorem Stk.tail {hb h : Heap} {env : Env} {outer : List Env} (S : Stk hb (env :: outer) h) (hf : env.frame.isSome = true) : Stk hb outer h := by
  obtain ⟨L, hL⟩ := Option.isSome_iff_exists.mp hf
  refine ⟨S.stays, S.frames.2.2, fun b hm => S.dicts b ?_⟩
  show b ∈ (env :: outer).filterMap (·.frame)
  rw [List.filterMap_cons, hL]; exact List.mem_cons_of_mem _ hm
theorem mk_news {g h : Heap} {L J : Addr} {outer : List Env} {oJ : Obj} (hJ : h.get? J = some oJ) (gJ : g.get? J = none) (gf : ∀ b ∈ frs outer, g.get? b = none) (nL : J ≠ L) (nfL : L ∉ frs outer) :
    ∃ fl, News g L h ((J, oJ) :: fl) ∧ ∀ b ∈ frs outer, ∀ o, h.get? b = some o → (b, o) ∈ fl := by
  refine ⟨(frs outer).filterMap fun b => (h.get? b).map fun o => (b, o), fun p hp => ?_, fun b hb o ho => List.mem_filterMap.mpr ⟨b, hb, by rw [ho]; rfl⟩⟩
  rcases List.mem_cons.mp hp with rfl | hp
  · exact ⟨hJ, nL, gJ⟩
  · obtain ⟨b, hb, e⟩ := List.mem_filterMap.mp hp
    obtain ⟨o, ho, rfl⟩ := Option.map_eq_some_iff.mp e
    exact ⟨ho, fun z => nfL (z ▸ hb), gf b hb⟩
theorem rel_end {h0 h' h'' g : Heap} {L J : Addr} {outer : List Env} {m : Str → Option Value} {oJ : Obj} {fl : List (Addr × Obj)} (hg : hideAll h0 (J :: frs outer) = g) (F : Fr g L h'' m) (N : News g L h'' ((J, oJ) :: fl))
    (hfl : ∀ b ∈ frs outer, ∀ o, h'.get? b = some o → (b, o) ∈ fl) (R : Rel (frs outer) [J] h0 h') : Rel (frs outer) [J] h0 h'' := by
  subst hg
  refine ⟨fun b o n1 n2 e => F.keep b o (hideAll_get _ e fun z => ?_), fun b o n1 e => ?_⟩
  · rcases List.mem_cons.mp z with z | z
    · exact n2 (List.mem_singleton.mpr z)
    · exact n1 z
  · obtain ⟨sl, hs⟩ := R.up b o n1 e
    exact ⟨sl, (N _ (List.mem_cons_of_mem _ (hfl b n1 _ hs))).1⟩
theorem iter_of {h : Heap} {J l : Addr} {j : Nat} {oJ : Obj} (e : h.get? J = some oJ) (hc : oJ.cls = .type "list_iterator") (hd : oJ.data = .fields #[.ref l, .int j 0]) : h.IsListIter J l j := ⟨oJ, e, hc, hd⟩
def StandsC (u S : Addr) (h : Heap) : Prop := h.get? u = some (boundC S)
theorem standsC_of {g h : Heap} {L u S : Addr} {m : Str → Option Value} (F : Fr g L h m) (hB : g.get? u = some (boundC S)) : StandsC u S h := F.keep _ _ hB
section
variable {M : Model} {A : Around} {E : Value → Shared → Prop} {s : Shared}
theorem callWith_fieldsC {pos : Pos} {u S : Addr} {first : List Value} {args : List (Bool × Sem Value)} {Q : Value → Shared → Prop} (hplain : args.any (·.1) = false)
    (h : wpAny M A (evalArgs (.ref u) true args []) (fun x s₁ => StandsC u S s₁.heap ∧ wpAny M A (call (.ref u) (first ++ x.pos) x.kw) Q E s₁) E s) : wpAny M A (callWith pos (.ref u) first args []) Q E s := by
  unfold callWith
  refine wpAny_bind (wpAny_holding (wpAny_mono h (fun x s₁ h₁ => wpAny_bind (wpAny_standAt ?_)) fun _ _ x => x))
  obtain ⟨ho, hcall⟩ := h₁
  simp only [hplain, List.any_nil, Bool.or_false]
  refine wpAny_bind (m := keeperOf (.ref u)) ?_
  unfold keeperOf
  refine wpAny_bind (wpAny_load ho ?_)
  simp only [boundC, show (Value.type "builtin_function_or_method" != Value.type "method") = true by decide, show (Value.type "builtin_function_or_method" == Value.type "builtin_function_or_method" || Value.type "builtin_function_or_method" == Value.type "method-wrapper") = true by decide, if_true]
  refine wpAny_pure ?_
  exact wpAny_bind (wpAny_mono hcall (fun r s₂ hr => wpAny_bind (wpAny_holding (wpAny_point (wpAny_pure hr)))) fun _ _ x => x)
theorem callWith_C {g : Heap} {L u S : Addr} {m : Str → Option Value} {pos : Pos} {first : List Value} {env : Env} {e : Expr} {rest : List Expr} {Q : Value → Shared → Prop} (_F : Fr g L s.heap m) (_hB : g.get? u = some (boundC S))
    (h : wpAny M A (spliced (backTo pos (starEach (e :: rest) env))) (fun vs s₁ => StandsC u S s₁.heap ∧ wpAny M A (call (.ref u) (first ++ vs)) Q E s₁) E s)
    (he : starEach (e :: rest) env = (false, eval e env) :: starEach rest env := by rfl) (hplain : (backTo pos (starEach rest env)).any (·.1) = false := by rfl) :
    wpAny M A (callWith pos (.ref u) first (backTo pos (starEach (e :: rest) env)) []) Q E s := by
  rw [he] at h ⊢
  refine callWith_fieldsC (S := S) (by show (false || (backTo pos (starEach rest env)).any (·.1)) = false; rw [hplain]; rfl) ?_
  exact evalArgs_plain h
end
local macro_rules | `(tactic| walk_at "callWith ref") => `(tactic| (k_here; k_dflt (refine callWith_C (by k_asm) (by assumption) ?_)))
local macro_rules | `(tactic| walk_at "And") => `(tactic| ((with_reducible show StandsC _ _ _ ∧ _); refine ⟨standsC_of (by k_asm) (by assumption), ?_⟩; try dsimp only [List.nil_append, List.cons_append]))
local macro_rules | `(tactic| walk_at "call ref") => `(tactic| (k_here; k_dflt (refine call_contains_in (by k_asm) (by assumption) (by assumption) ?_)))
local macro_rules | `(tactic| walk_at "getAttr ref") => `(tactic| (k_here; (with_reducible show wpAny _ _ (getAttr (Value.ref _) (PySem.Str.ofString "_func") _) _ _ _); k_dflt (refine ff_func (by k_asm) (by k_asm) (by assumption) (by assumption) ?_)))
local macro_rules | `(tactic| walk_at "getAttr ref") => `(tactic| (k_here; (with_reducible show wpAny _ _ (getAttr (Value.ref _) (PySem.Str.ofString "_it") _) _ _ _); k_dflt (refine ff_it (by k_asm) (by k_asm) (by assumption) (by assumption) ?_)))
local macro_rules | `(tactic| walk_at "exec While") => `(tactic| (refine Hold.out ?_))

theorem special_next {w : World} {fs : List Addr} {h' : Heap} {n I J : Addr} {f : List Int → List Int} {hb : Heap} {l : Addr} {i : Nat} {ns : List Int} {A : Around} {E : Value → Shared → Prop} {s : Shared} {Q : Option Value → Shared → Prop} (x : Sta w fs s.heap n I J f) (G : Gnd hb s.heap J l i ns) (X : (hd.heap_39 w.params).In s.heap) (h : ∀ g, Q (some g) s) :
    wpAny (model PG w) A (specialOf (.ref I) "__next__") Q E s := by
  cases x with
  | base => exact wpAny_specialOf (name := Str.ofString "__next__") G.it.typeIs slot_listiter_next.lookup (h _)
  | @ff _ _ _ _ _ _ dx _ _ _ od hF hD _ _ _ _ _ =>
    have It : InstAt s.heap I _ 47 (some od) := ⟨hF, rfl, rfl, hD⟩
    have hs : findIn (hd.heap_39 w.params) (.ref 47) (Str.ofString "__next__") = some (some (.ref 43)) := by k_is
    exact wpAny_bind (It.type.here ((looks_findIn X hs).here (h _)))

theorem next_call {w : World} {hb : Heap} {n : Nat} (C : CS w hb n) {dp un : Nat} {gd : Option (List Code)} {outer : List Env} {s : Shared} {I J l : Addr} {i : Nat} {f : List Int → List Int} {ns : List Int} {Q : Value → Shared → Prop} {E : Value → Shared → Prop}
    (X : (hd.heap_39 w.params).In s.heap) (hdp : dp + n < recursionLimit) (S : Stk hb outer s.heap) (hI : Sta w (frs outer) s.heap n I J f) (G : Gnd hb s.heap J l i ns)
    (item : ∀ x r, f (ns.drop i) = x :: r → ∀ j t h' tk, h'.IsListIter J l j → f (ns.drop j) = r → Rel (frs outer) [J] s.heap h' → Q (.int x t) { s with heap := h', toks := tk })
    (stop : f (ns.drop i) = [] → ∀ e h' tk, Exc outer J s.heap h' e → E (.ref e) { s with heap := h', toks := tk }) : wpAny (model PG w) (At dp un gd outer) (call (.builtin "next") [.ref I]) Q E s := by
  refine call_function_entry (by decide +kernel) (by decide +kernel) kdk_entry_next (kdk_args_next _) ?_
  unfold Builtin.«next»
  refine wpAny_bind (m := someArgs "next" 1 2 _) (wpAny_of_eq (a := [Value.ref I]) (by first | rfl | kernel_rfl!) ?_)
  dsimp only
  refine wpAny_bind (special_next (h' := s.heap) hI G X fun g => ?_)
  refine wpAny_ite_split (fun hab => absurd hab (by simp)) (fun _ => ?_)
  refine wpAny_bind (C dp (un + 1) gd outer s I J l i f ns _ _ hdp S hI G (fun x r e j t h' tk it er R => ?_) stop)
  exact wpAny_pure ⟨_, rfl, item x r e j t h' tk it er R⟩

theorem cs_step {w : World} {hb : Heap} {n : Nat} {mean : ExcName → Option Value} {mg mb : Str → Option Value} (X : (hd.heap_39 w.params).In hb) (T : Top hd.view_39 (looseW hd.view_39 [Str.ofString "filterfalse"]) mean mg mb hb) (C : CS w hb n) : CS w hb (n + 1) := by
  intro dp un gd outer s F J l i f' ns Q E hdp S hI G item stop
  cases hI with
  | @ff _ _ I _ B Sx dx k f P od hF hD hDc hB hS nD hI =>
    have Xs : (hd.heap_39 w.params).In s.heap := X.keeps S.stays
    have Ts := T.keeps S.stays
    refine special_fn (name := "__next__") (args := []) (f := 43) Xs (⟨hF, rfl, rfl, hD⟩ : InstAt s.heap F _ 47 (some od)) (by k_is) (by k_is) ?_
    refine wpAny_call ?_
    have hJb := G.new
    obtain ⟨oJ, hJ, hJc, hJd⟩ := id G.it
    have notJ : ∀ b o, s.heap.get? b = some o → o.cls ≠ .type "list_iterator" → b ≠ J := fun b o e hc z => by
      rw [z, hJ] at e; cases e; exact hc hJc
    have hbn : ∀ b o, hb.get? b = some o → b ∉ J :: frs outer := fun b o e z => by
      rcases List.mem_cons.mp z with z | z
      · rw [z, hJb] at e; cases e
      · exact S.notIn e z
    have inG : ∀ b o, s.heap.get? b = some o → o.cls ≠ .type "list_iterator" → (b ∉ frs outer ∨ ∀ es n, o.data ≠ .dict es n) → (hideAll s.heap (J :: frs outer)).get? b = some o := fun b o e hc hn =>
      hideAll_get _ e fun z => (List.mem_cons.mp z).elim (notJ _ _ e hc) (hn.elim id fun hd => S.notDict e hd)
    have Xg : (hd.heap_39 w.params).In (hideAll s.heap (J :: frs outer)) := X.keeps (hide_keep S.stays hbn)
    have Tg : Top hd.view_39 (looseW hd.view_39 [Str.ofString "filterfalse"]) mean mg mb (hideAll s.heap (J :: frs outer)) := T.keeps (hide_keep S.stays hbn)
    have gF := inG _ _ hF (by intro q; cases q) (.inr fun _ _ z => by cases z)
    have gB := inG _ _ hB (show Value.type "builtin_function_or_method" ≠ Value.type "list_iterator" from by decide) (.inr fun _ _ z => by cases z)
    have gS : (hideAll s.heap (J :: frs outer)).SetOf (intKind PG w) Sx P k := by
      obtain ⟨oS, es, ep, tb, hoS, hex, hdd, hr⟩ := hS
      exact ⟨oS, es, ep, tb, inG _ _ hoS (by rw [hex.1]; decide) (.inr fun _ _ z => by rw [hdd] at z; cases z), hex, hdd, hr⟩
    have gD := inG _ _ hD (by rw [hDc]; decide) (.inl nD)
    have gI : Sta w (frs outer) (hideAll s.heap (J :: frs outer)) n I J f := hI.moved inG
    have gL : ∃ vs, (hideAll s.heap (J :: frs outer)).IsList l vs.toArray ∧ IntsAre vs ns := by
      obtain ⟨vs, ⟨ol, hol, hcl, nl, hdl⟩, hi⟩ := G.list
      exact ⟨vs, ⟨ol, inG _ _ hol (by rw [hcl]; decide) (.inr fun _ _ z => by rw [hdl] at z; cases z), hcl, nl, hdl⟩, hi⟩
    have hgf : ∀ b ∈ frs outer, (hideAll s.heap (J :: frs outer)).get? b = none := fun b z => hideAll_none _ (List.mem_cons_of_mem _ z)
    have hgJ : (hideAll s.heap (J :: frs outer)).get? J = none := hideAll_none _ List.mem_cons_self
    have hgn : ∀ b o, (hideAll s.heap (J :: frs outer)).get? b = some o → b ∉ frs outer ∧ b ∉ [J] := fun b o e => by
      refine ⟨fun z => ?_, fun z => ?_⟩
      · rw [hgf b z] at e; cases e
      · rw [List.mem_singleton.mp z, hgJ] at e; cases e
    generalize hg : hideAll s.heap (J :: frs outer) = g at Xg Tg gF gD gB gS gI gL hgn hgf hgJ
    clear inG
    k_dflt (refine' enterH (J :: frs outer) Xs Ts ?k6 ?k7 ?k8 ?k9 ?kB ?_ ?c2 ?c3 ?c4 ?c5)
    case k6 => k_is
    case k7 => k_is
    case k8 => show dp < _; omega
    case k9 => exact BindsTo.of_eq rfl
    case kB => exact locs rfl
    case c2 => exact rfl
    case c3 => exact rfl
    case c4 => exact rfl
    case c5 => decide
    intro L' h₁ eL hk₁ F' N'
    rw [hg] at F' N'
    clear N'
    have hL0 : s.heap.get? L' = none := Heap.get?_none_of_le (by rw [eL]; exact Nat.le_refl _)
    have hLb : hb.get? L' = none := by rw [eL]; exact S.stays.fresh
    have hJL : J ≠ L' := fun z => by rw [z, hL0] at hJ; cases hJ
    have hLf : L' ∉ frs outer := fun z => by
      obtain ⟨_, o, ho, _⟩ := S.frames.mem z
      rw [hL0] at ho; cases ho
    have gL0 : g.get? L' = none := by
      cases q : g.get? L' with
      | none => rfl
      | some o => rw [← hg] at q; have := of_hideAll _ q; rw [hL0] at this; cases this
    have gI' : Sta w (L' :: frs outer) g n I J f := gI.more gL0
    obtain ⟨fl, N', hfl⟩ := mk_news (g := g) (L := L') (outer := outer) (hk₁ _ _ hJ) hgJ hgf hJL hLf
    have R₁ : Rel (frs outer) [J] s.heap h₁ := Rel.of_keeps hk₁
    try dsimp only
    clear Xs Ts
    try k_fold
    k_steps
    refine Hold.mk ?_
    rename Fr _ _ _ _ => F₁
    rename News _ _ _ _ => N₁
    refine while_inv (fun k s' => ∃ h₃ tk₃ j u, s' = { s with heap := h₃, toks := tk₃ } ∧ k = (f (ns.drop j)).length ∧ Fr g L' h₃ (fun y => if y = Str.ofString "item" then u else if y = Str.ofString "func" then some (.ref B) else List.lookup y [(Str.ofString "self", Value.ref F)]) ∧
      h₃.IsListIter J l j ∧ (f (ns.drop i)).filter (fun x => !P x) = (f (ns.drop j)).filter (fun x => !P x) ∧ Rel (frs outer) [J] s.heap h₃) (f (ns.drop i)).length ?_ ?_
    · have F₂ := fr_map F₁ (m' := fun y => if y = Str.ofString "item" then none else if y = Str.ofString "func" then some (.ref B) else List.lookup y [(Str.ofString "self", Value.ref F)]) (fun y => by
        by_cases h : y = Str.ofString "item"
        · subst h; rfl
        · rw [if_neg h]; rfl)
      exact ⟨_, _, i, none, rfl, rfl, F₂, iter_of (N₁ _ List.mem_cons_self).1 hJc hJd, rfl, rel_end hg F₁ N₁ hfl R₁⟩
    · rintro k₃ s' ⟨h₃, tk₃, j, u, rfl, rfl, F₃, it₃, ex₃, R₃⟩
      clear F₁ N₁ hfl fl
      have S₃ : Stk hb outer h₃ := S.rel R₃ fun b hb' => by rw [List.mem_singleton.mp hb']; exact hJb
      have N₃ : News g L' h₃ [] := News.nil
      show wpAny _ _ _ _ _ _
      k_steps
      refine Hold.mk ?_
      have S₃' := S₃.push (name := Str.ofString "filterfalse.__next__") (a := 43) (cd := .ref 42) F₃.ns hLb (hk := rfl) (scope := { kind := ScopeKind.function, names := [(Str.ofString "self", NameKind.local), (Str.ofString "func", NameKind.local), (Str.ofString "item", NameKind.local), (Str.ofString "next", NameKind.globalImplicit), (Str.ofString "bool", NameKind.globalImplicit)], isGenerator := false, isCoroutine := false })
      refine next_call C (dp := dp + 1) (l := l) (i := j) (f := f) (ns := ns) (J := J) (Xg.keeps F₃.keep) (by omega) S₃' ?_ ?_ ?_ ?_
      · exact gI'.keeps F₃.keep
      · exact ⟨it₃, let ⟨vs, ⟨o, ho, r⟩, hi⟩ := gL; ⟨vs, ⟨o, F₃.keep _ _ ho, r⟩, hi⟩, hJb⟩
      · intro x r ex j' t h' tk' it' er R'
        have F₄ := fr_rel F₃ R' hgn (fun z => hJL (List.mem_singleton.mp z).symm)
        have R₄ := R₃.comp hL0 R'
        obtain ⟨oJ', hJ', hJc', hJd'⟩ := it'
        obtain ⟨fl, N₄, hfl⟩ := mk_news (g := g) (L := L') (outer := outer) hJ' hgJ hgf hJL hLf
        clear F₃ N₃
        k_steps
        · rename Fr _ _ _ _ => F₅
          rename News _ _ _ _ => N₅
          rename P x = true => hP
          refine ⟨r.length, by rw [ex]; exact Nat.lt_succ_self _, _, _, j', some (.int x t), rfl, by rw [er], fr_map F₅ fun y => ?_, iter_of (N₅ _ List.mem_cons_self).1 hJc' hJd', ?_, rel_end hg F₅ N₅ hfl R₄⟩
          · by_cases h : y = Str.ofString "item"
            · simp only [if_pos h]
            · simp only [if_neg h]
          · rw [ex₃, ex, er, List.filter_cons, hP]; rfl
        · rename Fr _ _ _ _ => F₅
          rename News _ _ _ _ => N₅
          rename P x = false => hP
          exact item x (r.filter fun x => !P x) (by show List.filter _ (f (ns.drop i)) = _; rw [ex₃, ex, List.filter_cons, hP]; rfl) j' t _ _ (iter_of (N₅ _ List.mem_cons_self).1 hJc' hJd') (by show List.filter _ (f (ns.drop j')) = _; rw [er]) (rel_end hg F₅ N₅ hfl R₄)
      · intro ex e h' tk' X'
        have S₅ : Stk hb outer h' := (S₃'.rel X'.rel fun b hb' => by rw [List.mem_singleton.mp hb']; exact hJb).tail rfl
        refine leave_exc (hb := hb) (h0 := s.heap) (h1 := h₃) (J := J) S₅ R₃ hL0 (fun b o eb => ?_) F₃.ns S X' fun h'' X'' => ?_
        · by_cases hbJ : b = J
          · subst hbJ; exact ⟨_, it₃.choose_spec.1⟩
          · obtain ⟨sl, hs⟩ := R₃.any (fun z => hbJ (List.mem_singleton.mp z)) eb
            exact ⟨_, hs⟩
        · exact stop (by show List.filter _ (f (ns.drop i)) = _; rw [ex₃, ex]; rfl) e h'' _ X''
end Part8

section Part9
theorem fill_in9 : (fun w : World => hd.heap_39 w.params) = (fun w : World => hd.heap_39 w.params) ∧ PySem.Challenge.rw_il0156_01.row = PySem.Challenge.rw_il0156_01.row := by
  k_fill
  exact ⟨rfl, rfl⟩

theorem cs_all {w : World} {hb : Heap} {mean : ExcName → Option Value} {mg mb : Str → Option Value} (X : (hd.heap_39 w.params).In hb) (T : Top hd.view_39 (looseW hd.view_39 [Str.ofString "filterfalse"]) mean mg mb hb) : ∀ n, CS w hb n
  | 0 => cs_base w hb
  | n + 1 => cs_step X T (cs_all X T n)

theorem pyNext_cs {w : World} {hb : Heap} {n : Nat} (C : CS w hb n) {dp un : Nat} {gd : Option (List Code)} {outer : List Env} {s : Shared} {I J l : Addr} {i : Nat} {f : List Int → List Int} {ns : List Int} {Q : Option Value → Shared → Prop} {E : Value → Shared → Prop}
    (hdp : dp + n < recursionLimit) (S : Stk hb outer s.heap) (hI : Sta w (frs outer) s.heap n I J f) (G : Gnd hb s.heap J l i ns)
    (item : ∀ x r, f (ns.drop i) = x :: r → ∀ j t h' tk, h'.IsListIter J l j → f (ns.drop j) = r → Rel (frs outer) [J] s.heap h' → Q (some (.int x t)) { s with heap := h', toks := tk })
    (stop : f (ns.drop i) = [] → ∀ h' tk, Rel (frs outer) [J] s.heap h' → Q none { s with heap := h', toks := tk }) : wpAny (model PG w) (At dp un gd outer) (pyNext (.ref I)) Q E s := by
  unfold pyNext
  refine wpAny_bind (wpAny_attempt (C dp un gd outer s I J l i f ns _ _ hdp S hI G (fun x r e j t h' tk it er R => wpAny_pure (item x r e j t h' tk it er R)) fun e0 e h' tk X => ?_))
  have hT : ({ s with heap := h', toks := tk } : Shared).TypeIs (.ref e) "StopIteration" := by
    rcases X.obj with ⟨oe, vs, a0, he, hc, _⟩ | ⟨a0, oe, vs, T, oT, ts, he, ⟨hc, _⟩, _⟩
    · exact ⟨oe, he, hc⟩
    · exact ⟨oe, he, hc⟩
  exact wpAny_bind (wpAny_isInstance hT isSubtype_stop (wpAny_pure (stop e0 h' tk X.rel)))

section
variable {w : World} {hb : Heap} {n : Nat} {dp un : Nat} {gd : Option (List Code)} {outer : List Env} {h0 : Heap} {I J l : Addr} {i0 : Nat} {f : List Int → List Int} {ns : List Int} {R : Result → Shared → Prop}
/-- a new object is no frame and not the ground -/
theorem new_apart {S : Addr} (S0 : Stk hb outer h0) (hS : h0.get? S = none) : S ∉ frs outer := fun z => by
  obtain ⟨_, o, ho, _⟩ := S0.frames.mem z
  rw [hS] at ho; cases ho

theorem ext_loop (C : CS w hb n) (hdp : dp + n < recursionLimit) (S0 : Stk hb outer h0) (hI : Sta w (frs outer) h0 n I J f) (G : Gnd hb h0 J l i0 ns) {S : Addr} (hS0 : h0.get? S = none) :
    ∀ (zs : List Int) (i : Nat) (s : Shared) (acc : Array Value) (c : Nat) (done : List Int), zs = f (ns.drop i) → done.length + zs.length ≤ 1000 → Rel (frs outer) [J] h0 s.heap → s.heap.IsListIter J l i →
    s.heap.get? S = some { cls := .type "list", dict := none, data := .seq acc c, slots := #[] } → IntsAre acc.toList done →
    (∀ h' tk acc' c', Rel (frs outer) [J] h0 h' → h'.get? S = some { cls := .type "list", dict := none, data := .seq acc' c', slots := #[] } → IntsAre acc'.toList (done ++ zs) → R (.ok (.ret .none)) { s with heap := h', toks := tk }) →
    codeAny (model PG w) (At dp un gd outer) (.builtin "list.extend.loop" ⟨[.ref S, .ref I, .none], []⟩) R s := by
  have hSf := new_apart S0 hS0
  have hSJ : S ≠ J := fun z => by obtain ⟨o, ho, _⟩ := G.it; rw [← z, hS0] at ho; cases ho
  have hJw : ∀ b ∈ [J], ∃ l i, h0.IsListIter b l i := fun b hb' => by rw [List.mem_singleton.mp hb']; exact ⟨_, _, G.it⟩
  have hJb : ∀ b ∈ [J], hb.get? b = none := fun b hb' => by rw [List.mem_singleton.mp hb']; exact G.new
  intro zs
  induction zs with
  | nil =>
    intro i s acc c done hz hle R0 it hS hacc hR
    refine codeAny_builtin F.entry_extend_loop ?_
    rw [Around.under_plainId F.plain_extend_loop _]
    show wpAny _ (At dp (un + 1) gd outer) (pyNext (.ref I) >>= _) _ _ s
    refine wpAny_bind (pyNext_cs C hdp (S0.rel R0 hJb) (hI.rel S0 R0 hJw) (G.went R0 it) (fun x r e => by rw [← hz] at e; cases e) fun _ h' tk R' => ?_)
    refine wpAny_pure (hR h' tk acc c (R0.trans R') (R'.keep _ _ hSf (fun z => hSJ (List.mem_singleton.mp z)) hS) (by rw [List.append_nil]; exact hacc))
  | cons z zs ih =>
    intro i s acc c done hz hle R0 it hS hacc hR
    refine codeAny_builtin F.entry_extend_loop ?_
    rw [Around.under_plainId F.plain_extend_loop _]
    show wpAny _ (At dp (un + 1) gd outer) (pyNext (.ref I) >>= _) _ _ s
    refine wpAny_bind (pyNext_cs C hdp (S0.rel R0 hJb) (hI.rel S0 R0 hJw) (G.went R0 it) (fun x r e j t h' tk it' er R' => ?_) fun e => by rw [← hz] at e; cases e)
    rw [← hz] at e
    obtain ⟨rfl, rfl⟩ := List.cons.inj e
    have hS' := R'.keep _ _ hSf (fun z => hSJ (List.mem_singleton.mp z)) hS
    have hsz : acc.size = done.length := by have := hacc.length; simpa using this
    show wpAny _ _ (updateSeq S (·.push (.int z t)) >>= _) _ _ _
    refine wpAny_bind ?_
    have big : (1000 : Nat) ≤ sizeLine := by rw [sizeLine_eq]; omega
    simp only [List.length_cons] at hle
    refine wpAny_updateSeq hS' rfl (wpAny_pure ⟨plainId_quiet F.plain_extend_loop _, ih j _ (acc.push (.int z t)) _ (done ++ [z]) er.symm (by simp only [List.length_append, List.length_cons, List.length_nil]; omega) ?_ ?_ (Heap.get?_update_self _ hS' rfl) ?_ fun h'' tk'' acc' c' R'' hS'' hacc' => ?_⟩)
      (by omega) (by show (acc.push (.int z t)).size ≤ sizeLine + 1; rw [Array.size_push]; omega)
    · have R1 := R0.trans R'
      exact ⟨fun b o n1 n2 q => (Heap.get?_update_other _ _ (fun z : S = b => by rw [← z, hS0] at q; cases q)).trans (R1.keep b o n1 n2 q), fun b o n1 q => by
        obtain ⟨sl, hs⟩ := R1.up b o n1 q
        exact ⟨sl, (Heap.get?_update_other _ _ (fun z : S = b => by rw [← z, hS0] at q; cases q)).trans hs⟩⟩
    · exact it'.at fun o q => (Heap.get?_update_other _ _ hSJ).trans q
    · rw [Array.toList_push]; exact IntsAre.append hacc (.cons _ t .nil)
    · exact hR h'' tk'' acc' c' R'' hS'' (by rw [List.append_assoc] at hacc'; exact hacc')

theorem upd_loop (C : CS w hb n) (hdp : dp + n < recursionLimit) (S0 : Stk hb outer h0) (hI : Sta w (frs outer) h0 n I J f) (G : Gnd hb h0 J l i0 ns) {S : Addr} (hS0 : h0.get? S = none) :
    ∀ (zs : List Int) (i : Nat) (s : Shared) (P : Int → Bool) (k : Nat), zs = f (ns.drop i) → k + zs.length ≤ 1000 → Rel (frs outer) [J] h0 s.heap → s.heap.IsListIter J l i → s.heap.SetOf (intKind PG w) S P k →
    (∀ h' tk k', Rel (frs outer) [J] h0 h' → h'.SetOf (intKind PG w) S (fun y => P y || zs.contains y) k' → R (.ok (.ret .none)) { s with heap := h', toks := tk }) →
    codeAny (model PG w) (At dp un gd outer) (.builtin "set.update.loop" ⟨[.ref S, .ref I], []⟩) R s := by
  have hSf := new_apart S0 hS0
  have hSJ : S ≠ J := fun z => by obtain ⟨o, ho, _⟩ := G.it; rw [← z, hS0] at ho; cases ho
  have hJw : ∀ b ∈ [J], ∃ l i, h0.IsListIter b l i := fun b hb' => by rw [List.mem_singleton.mp hb']; exact ⟨_, _, G.it⟩
  have hJb : ∀ b ∈ [J], hb.get? b = none := fun b hb' => by rw [List.mem_singleton.mp hb']; exact G.new
  intro zs
  induction zs with
  | nil =>
    intro i s P k hz hle R0 it hS hR
    refine codeAny_builtin PyProof.Rows.F.entry_set_update_loop ?_
    rw [Around.under_plainId PyProof.Rows.F.plain_set_update_loop _]
    show wpAny _ (At dp (un + 1) gd outer) (pyNext (.ref I) >>= _) _ _ s
    refine wpAny_bind (pyNext_cs C hdp (S0.rel R0 hJb) (hI.rel S0 R0 hJw) (G.went R0 it) (fun x r e => by rw [← hz] at e; cases e) fun _ h' tk R' => ?_)
    show wpAny _ _ (ret Value.none) _ _ _
    obtain ⟨o, es, ep, t, ho, r⟩ := hS
    refine wpAny_pure (hR h' tk k (R0.trans R') (SetOf_congr ⟨o, es, ep, t, R'.keep _ _ hSf (fun z => hSJ (List.mem_singleton.mp z)) ho, r⟩ (fun y => by simp) rfl))
  | cons z zs ih =>
    intro i s P k hz hle R0 it hS hR
    refine codeAny_builtin PyProof.Rows.F.entry_set_update_loop ?_
    rw [Around.under_plainId PyProof.Rows.F.plain_set_update_loop _]
    show wpAny _ (At dp (un + 1) gd outer) (pyNext (.ref I) >>= _) _ _ s
    refine wpAny_bind (pyNext_cs C hdp (S0.rel R0 hJb) (hI.rel S0 R0 hJw) (G.went R0 it) (fun x r e j t h' tk it' er R' => ?_) fun e => by rw [← hz] at e; cases e)
    rw [← hz] at e
    obtain ⟨rfl, rfl⟩ := List.cons.inj e
    have hS' : h'.SetOf (intKind PG w) S P k := let ⟨o, es, ep, tb, ho, r⟩ := hS; ⟨o, es, ep, tb, R'.keep _ _ hSf (fun z => hSJ (List.mem_singleton.mp z)) ho, r⟩
    simp only [List.length_cons] at hle
    show wpAny _ _ (holding [Value.int z t] (setAdd S (.int z t)) >>= _) _ _ _
    refine wpAny_bind (wpAny_holding ?_)
    unfold setAdd
    refine wpAny_holding ?_
    refine wpAny_bind ((intKind PG w).pyHash (k := z) (intKind_is _ _ _ _) ?_)
    have hroom : k + 1 < scanBound := by unfold scanBound; omega
    refine wpAny_setAddHashed_of (knd := intKind PG w) (s := { s with heap := h', toks := tk + 1 }) (intKind_is _ _ _ _) rfl hS' hroom fun h2 hsb hS2 => ?_
    have oth : ∀ b o, h0.get? b = some o → ∀ o', h'.get? b = some o' → h2.get? b = some o' := fun b o q o' q' => (hsb.2 b (fun z : b = S => by rw [z, hS0] at q; cases q)).trans q'
    refine wpAny_pure ⟨plainId_quiet PyProof.Rows.F.plain_set_update_loop _, ih j _ _ _ er.symm ?_ ?_ ?_ hS2 fun h'' tk'' k' R'' hS'' => ?_⟩
    · split <;> omega
    · have R1 := R0.trans R'
      exact ⟨fun b o n1 n2 q => oth b o q _ (R1.keep b o n1 n2 q), fun b o n1 q => by
        obtain ⟨sl, hs⟩ := R1.up b o n1 q
        exact ⟨sl, oth b o q _ hs⟩⟩
    · exact it'.at fun o q => (hsb.2 J (Ne.symm hSJ)).trans q
    · refine hR h'' tk'' k' R'' (SetOf_congr hS'' (fun y => ?_) rfl)
      rw [List.contains_cons, Bool.or_assoc]
      congr 2
end
end Part9

section Part10
theorem fill_in10 : (fun w : World => hd.heap_39 w.params) = (fun w : World => hd.heap_39 w.params) ∧ PySem.Challenge.rw_il0156_01.row = PySem.Challenge.rw_il0156_01.row := by
  k_fill
  exact ⟨rfl, rfl⟩

section
variable {w : World} {dp un : Nat} {gd : Option (List Code)} {outer : List Env} {s : Shared} {mean : ExcName → Option Value} {mg mb : Str → Option Value} {Q E : Value → Shared → Prop} {g : Heap} {L x dx B I : Addr} {m : Str → Option Value} {od : Obj}
/-- «__iter__» gives the object itself -/
theorem self_iter (X : (hd.heap_39 w.params).In s.heap) (T : Top hd.view_39 (looseW hd.view_39 [Str.ofString "filterfalse"]) mean mg mb s.heap) (hdp : dp < recursionLimit)
    (k : ∀ h' tk, (∀ b o, s.heap.get? b = some o → h'.get? b = some o) → Q (.ref x) { s with heap := h', toks := tk }) : wpAny (model PG w) (At dp un gd outer) (call (.ref 36) [.ref x]) Q E s := by
  refine wpAny_call ?_
  k_dflt (refine' enter0 ?k1 ?k2 ?k6 ?k7 ?k8 ?k9 ?kB ?_ ?c2 ?c3 ?c4 ?c5)
  case k1 => exact X
  case k2 => exact T
  case k6 => k_is
  case k7 => k_is
  case k8 => show dp < _; omega
  case k9 => exact BindsTo.of_eq rfl
  case kB => exact locs rfl
  case c2 => exact rfl
  case c3 => exact rfl
  case c4 => exact rfl
  case c5 => decide
  intro L' h₁ F' N'
  try dsimp only
  try k_fold
  k_steps
  rename Fr _ _ _ _ => F9
  exact k _ _ F9.keep

theorem pyIter_ff (F : Fr g L s.heap m) (Xg : (hd.heap_39 w.params).In g) (Tg : Top hd.view_39 (looseW hd.view_39 [Str.ofString "filterfalse"]) mean mg mb g) (hdp : dp < recursionLimit)
    (h1 : s.heap.get? x = some ⟨.ref 47, some dx, .plain, #[some (.ref B), some (.ref I)]⟩) (h2 : s.heap.get? dx = some od)
    (k : ∀ h' tk, (∀ b o, s.heap.get? b = some o → h'.get? b = some o) → Q (.ref x) { s with heap := h', toks := tk }) : wpAny (model PG w) (At dp un gd outer) (pyIter (.ref x)) Q E s := by
  have It : InstAt s.heap x ⟨.ref 47, some dx, .plain, #[some (.ref B), some (.ref I)]⟩ 47 (some od) := ⟨h1, rfl, rfl, h2⟩
  refine owit_iter (f := 36) F Xg It (by k_is) (by k_is) (self_iter (Xg.keeps F.keep) (Tg.keeps F.keep) hdp fun h' tk hk => ?_)
  exact owit_it (s := { s with heap := h', toks := tk }) (g := .ref 43) (F.keeps hk) Xg (⟨hk _ _ h1, rfl, rfl, hk _ _ h2⟩ : InstAt h' x _ 47 (some od)) (by k_is) (k h' tk hk)
end

section
variable {w : World} {hb : Heap} {n : Nat} {dp un : Nat} {gd : Option (List Code)} {outer : List Env} {s : Shared} {mean : ExcName → Option Value} {mg mb : Str → Option Value} {Q E : Value → Shared → Prop} {g : Heap} {L F J l : Addr} {i : Nat} {f : List Int → List Int} {ns : List Int} {m : Str → Option Value}
theorem sta_inst (x : Sta w (frs outer) s.heap (n + 1) F J f) : ∃ dx B I od, s.heap.get? F = some ⟨.ref 47, some dx, .plain, #[some (.ref B), some (.ref I)]⟩ ∧ s.heap.get? dx = some od := by
  cases x with
  | ff hF hD _ _ _ _ _ => exact ⟨_, _, _, _, hF, hD⟩

theorem list_ff (X : (hd.heap_39 w.params).In hb) (T : Top hd.view_39 (looseW hd.view_39 [Str.ofString "filterfalse"]) mean mg mb hb) (Fg : Fr g L s.heap m) (Xg : (hd.heap_39 w.params).In g) (Tg : Top hd.view_39 (looseW hd.view_39 [Str.ofString "filterfalse"]) mean mg mb g)
    (S : Stk hb outer s.heap) (hI : Sta w (frs outer) s.heap (n + 1) F J f) (G : Gnd hb s.heap J l i ns) (hle : (f (ns.drop i)).length ≤ 1000) (hdp : dp + (n + 1) < recursionLimit)
    (hQ : ∀ D h' tk acc c, Rel (frs outer) [J] s.heap h' → s.heap.get? D = none → h'.get? D = some { cls := .type "list", dict := none, data := .seq acc c, slots := #[] } → IntsAre acc.toList (f (ns.drop i)) → Q (.ref D) { s with heap := h', toks := tk }) :
    wpAny (model PG w) (At dp un gd outer) (call (.type "list") [.ref F]) Q E s := by
  obtain ⟨dx, B, I, od, hF, hD⟩ := sta_inst hI
  refine callType_codes (Q₁ := fun obj s₁ => obj = .ref s.heap.objs.size ∧ s₁ = { s with heap := s.heap.push { cls := .type "list", data := .seq #[] } }) PySem.F.called_list (PySem.F.typeCall_list_1 _) PySem.F.entry_list_init
    (code_list_new _ ⟨rfl, rfl⟩) fun obj s₁ h₁ => ?_
  obtain ⟨rfl, rfl⟩ := h₁
  have hS : (s.heap.push { cls := .type "list", data := .seq #[] }).get? s.heap.objs.size = some { cls := .type "list", data := .seq #[] } := Heap.get?_push_size _ rfl
  have hnew : s.heap.get? s.heap.objs.size = none := Heap.get?_none_of_le (Nat.le_refl _)
  have neS : ∀ b o, s.heap.get? b = some o → s.heap.objs.size ≠ b := fun b o q z => by rw [← z, hnew] at q; cases q
  refine ⟨⟨_, hS, rfl⟩, PySem.F.args_list_init_2 _ _, ?_⟩
  show wpAny _ (At dp (un + 1 + 1) gd outer) (do let old ← Builtin.List.listItems (.ref s.heap.objs.size); Builtin.List.listUpdate (.ref s.heap.objs.size) (fun _ => #[]); letGo old.toList.reverse; Builtin.List.listExtendWith (.ref s.heap.objs.size) (.ref F) .none) _ _ _
  refine wpAny_bind ?_
  unfold Builtin.List.listItems
  refine wpAny_bind (wpAny_seqItems hS rfl (wpAny_pure ?_))
  show wpAny _ _ (updateSeq s.heap.objs.size (fun _ => #[]) >>= fun _ => letGo (#[] : Array Value).toList.reverse >>= fun _ => Builtin.List.listExtendWith (.ref s.heap.objs.size) (.ref F) .none) _ _ _
  refine wpAny_bind (wpAny_updateSeq hS rfl ?_)
  have hS₂ := Heap.get?_update_self (Obj.mapSeq (fun _ => (#[] : Array Value))) hS rfl
  have k₂ : ∀ b o, s.heap.get? b = some o → ((s.heap.push { cls := .type "list", data := .seq #[] }).update s.heap.objs.size (Obj.mapSeq (fun _ => (#[] : Array Value)))).get? b = some o :=
    fun b o q => (Heap.get?_update_other _ _ (neS b o q)).trans (Heap.get?_push_of_some _ q)
  refine wpAny_bind (wpAny_letGo ?_)
  generalize (s.heap.push { cls := .type "list", data := .seq #[] }).update s.heap.objs.size (Obj.mapSeq (fun _ => (#[] : Array Value))) = h₂ at hS₂ k₂
  unfold Builtin.List.listExtendWith
  have It₂ : InstAt h₂ F ⟨.ref 47, some dx, .plain, #[some (.ref B), some (.ref I)]⟩ 47 (some od) := ⟨k₂ _ _ hF, rfl, rfl, k₂ _ _ hD⟩
  have F₂ := Fg.keeps k₂
  refine wpAny_bind (It₂.type.here ?_)
  have e1 : Builtin.List.listSameRef (.ref s.heap.objs.size) (.ref F) = false := by
    show (s.heap.objs.size == F) = false
    exact beq_eq_false_iff_ne.mpr (neS F _ hF)
  simp only [e1, show (Value.ref 47 == Value.type "list") = false from rfl, show (Value.ref 47 == Value.type "tuple") = false from rfl, Bool.or_false, Bool.false_eq_true, if_false]
  refine wpAny_bind (pyIter_ff F₂ Xg Tg (by omega) (k₂ _ _ hF) (k₂ _ _ hD) fun h₃ tk₃ k₃ => ?_)
  have k₃' : ∀ b o, s.heap.get? b = some o → h₃.get? b = some o := fun b o q => k₃ _ _ (k₂ _ _ q)
  have X₃ := Xg.keeps (Fg.keeps k₃').keep
  have It₃ : InstAt h₃ F ⟨.ref 47, some dx, .plain, #[some (.ref B), some (.ref I)]⟩ 47 (some od) := ⟨k₃' _ _ hF, rfl, rfl, k₃' _ _ hD⟩
  refine wpAny_bind (wpAny_holding ?_)
  unfold Builtin.List.listLengthHint
  have n1 : findIn (hd.heap_39 w.params) (.ref 47) (Str.ofString "__len__") = some none := by k_is
  have n2 : findIn (hd.heap_39 w.params) (.ref 47) (Str.ofString "__length_hint__") = some none := by k_is
  refine wpAny_bind (wpAny_bind (It₃.type.here ((looks_findIn X₃ n1).here ?_)))
  show wpAny _ _ (specialOf (Value.ref F) (Str.ofString "__length_hint__") >>= _) _ _ _
  refine wpAny_bind (wpAny_bind (It₃.type.here ((looks_findIn X₃ n2).here ?_)))
  refine wpAny_pure ?_
  show wpAny _ _ (rule "list.extend.makes-room" >>= fun _ => Builtin.List.listTouch (.ref s.heap.objs.size) >>= fun _ =>
    again (.builtin "list.extend.loop" ⟨[.ref s.heap.objs.size, .ref F, .none], []⟩)) _ _ _
  refine wpAny_bind (wpAny_rule (wpAny_bind ?_))
  have hS₃ := k₃ _ _ hS₂
  show wpAny _ _ (updateSeq s.heap.objs.size (·.push .none) >>= fun _ => updateSeq s.heap.objs.size (·.pop)) _ _ _
  refine wpAny_bind (wpAny_updateSeq hS₃ rfl ?_)
  have hS₄ := Heap.get?_update_self (Obj.mapSeq (·.push Value.none)) hS₃ rfl
  refine wpAny_updateSeq (hz := by seq_fits) hS₄ rfl ?_
  have hS₅ := Heap.get?_update_self (Obj.mapSeq (·.pop)) hS₄ rfl
  have k₅ : ∀ b o, s.heap.get? b = some o → ((h₃.update s.heap.objs.size (Obj.mapSeq (·.push Value.none))).update s.heap.objs.size (Obj.mapSeq (·.pop))).get? b = some o :=
    fun b o q => (Heap.get?_update_other _ _ (neS b o q)).trans ((Heap.get?_update_other _ _ (neS b o q)).trans (k₃' b o q))
  refine wpAny_pure ⟨plainId_quiet PySem.F.plain_extend_loop _, ext_loop (cs_all X T (n + 1)) hdp S hI G hnew _ i _ #[] _ [] rfl (by simpa using hle) (Rel.of_keeps k₅) (G.it.at fun o q => k₅ _ _ q) hS₅ .nil fun h' tk' acc' c' R' hS' hacc => ?_⟩
  exact ⟨rfl, hQ _ h' tk' acc' c' R' hnew hS' hacc⟩
end
end Part10

section Part11
theorem fill_in11 : (fun w : World => hd.heap_39 w.params) = (fun w : World => hd.heap_39 w.params) ∧ PySem.Challenge.rw_il0156_01.row = PySem.Challenge.rw_il0156_01.row := by
  k_fill
  exact ⟨rfl, rfl⟩

section
variable {w : World} {hb : Heap} {n : Nat} {dp un : Nat} {gd : Option (List Code)} {outer : List Env} {s : Shared} {mean : ExcName → Option Value} {mg mb : Str → Option Value} {Q E : Value → Shared → Prop} {g : Heap} {L F J l : Addr} {i : Nat} {f : List Int → List Int} {ns : List Int} {m : Str → Option Value}
theorem set_ff (X : (hd.heap_39 w.params).In hb) (T : Top hd.view_39 (looseW hd.view_39 [Str.ofString "filterfalse"]) mean mg mb hb) (Fg : Fr g L s.heap m) (Xg : (hd.heap_39 w.params).In g) (Tg : Top hd.view_39 (looseW hd.view_39 [Str.ofString "filterfalse"]) mean mg mb g)
    (S : Stk hb outer s.heap) (hI : Sta w (frs outer) s.heap (n + 1) F J f) (G : Gnd hb s.heap J l i ns) (hle : (f (ns.drop i)).length ≤ 1000) (hdp : dp + (n + 1) < recursionLimit)
    (hQ : ∀ D h' tk k, Rel (frs outer) [J] s.heap h' → s.heap.get? D = none → h'.SetOf (intKind PG w) D (fun y => (f (ns.drop i)).contains y) k → Q (.ref D) { s with heap := h', toks := tk }) :
    wpAny (model PG w) (At dp un gd outer) (call (.type "set") [.ref F]) Q E s := by
  obtain ⟨dx, B, I, od, hF, hD⟩ := sta_inst hI
  obtain ⟨c, tl, hmro⟩ := PySem.F.called_set.mro
  have hmade := PySem.F.called_set.made
  have hsub := PySem.F.called_set.sub
  refine wpAny_call (codeAny_of_tree ?_)
  show wpAny _ _ (callAny (.type "set") _) _ _ _
  refine wpAny_pure ⟨Code.quiet_builtin _ (by decide +kernel), codeAny_builtin PySem.F.entry_type_call ?_⟩
  rw [Around.under_plain (weight_type_call_type "set" [.ref F] []) rfl]
  have h1 := PySem.F.called_set.notType
  have h2 := PySem.F.called_set.canCreate
  have hct := PySem.F.typeCall_set_1 (.ref F)
  repeat (any_goals (first | assumption | wp_step))
  have hnew : s.heap.get? s.heap.objs.size = none := Heap.get?_none_of_le (Nat.le_refl _)
  have neS : ∀ b o, s.heap.get? b = some o → s.heap.objs.size ≠ b := fun b o q z => by rw [← z, hnew] at q; cases q
  refine codeAny_mono (code_set_new_1 (.ref F) (E := E) (Q₁ := fun obj s₁ => ∃ led : Bool, obj = .ref s.heap.objs.size ∧ s₁ = { s with heap := s.heap.push { cls := .type "set", dict := none, data := .set #[] 0 (.fresh 0 0 led) } }) fun led => ⟨led, rfl, rfl⟩) fun r s₁ hr => ?_
  cases r with
  | error e => exact hr
  | ok fl =>
    cases fl with
    | ret obj =>
      obtain ⟨led, rfl, rfl⟩ := hr
      have hS : (s.heap.push { cls := .type "set", dict := none, data := .set #[] 0 (.fresh 0 0 led) }).get? s.heap.objs.size = some { cls := .type "set", dict := none, data := .set #[] 0 (.fresh 0 0 led) } := Heap.get?_push_size _ rfl
      have k₂ : ∀ b o, s.heap.get? b = some o → (s.heap.push { cls := .type "set", dict := none, data := .set #[] 0 (.fresh 0 0 led) }).get? b = some o := fun b o q => Heap.get?_push_of_some _ q
      have hS2 : (s.heap.push { cls := .type "set", dict := none, data := .set #[] 0 (.fresh 0 0 led) }).SetOf (intKind PG w) s.heap.objs.size (fun _ => false) 0 := SetOf_congr ((setObjOf_fresh (knd := intKind PG w) led).setOf hS (by unfold scanBound; omega)) (fun _ => rfl) rfl
      generalize s.heap.push { cls := .type "set", dict := none, data := .set #[] 0 (.fresh 0 0 led) } = h₂ at hS k₂ hS2
      have hT : Shared.TypeIs { s with heap := h₂ } (.ref s.heap.objs.size) "set" := ⟨_, hS, rfl⟩
      have hli := PySem.F.called_set.init.lookup
      have hbi := PySem.F.called_set.init.bind (.ref s.heap.objs.size)
      repeat (any_goals (first | assumption | wp_step))
      refine codeAny_mono (codeAny_call_builtin (R := wants (fun r s₂ => r = .none ∧ ∃ h' tk k, s₂ = { s with heap := h', toks := tk } ∧
          Rel (frs outer) [J] s.heap h' ∧ h'.SetOf (intKind PG w) s.heap.objs.size (fun y => (f (ns.drop i)).contains y) k) E) PySem.F.called_set.init.plain PySem.F.entry_set_init (check_set_init_1 hT ?_)) fun r₂ s₂ hr₂ => ?_
      · have It₂ : InstAt h₂ F ⟨.ref 47, some dx, .plain, #[some (.ref B), some (.ref I)]⟩ 47 (some od) := ⟨k₂ _ _ hF, rfl, rfl, k₂ _ _ hD⟩
        have F₂ := Fg.keeps k₂
        have X₂ := Xg.keeps F₂.keep
        have sb1 : subIn (hd.heap_39 w.params) (.ref 47) (.type "set") = some false := by k_is
        have sb2 : subIn (hd.heap_39 w.params) (.ref 47) (.type "frozenset") = some false := by k_is
        unfold Builtin.«set.__init__» noKeywords Builtin.Frozenset.updateFrom
        generalize hPI : pyIter = PI
        wp_walk
        refine (Looks.ld (k₂ _ _ hF)).here ?_
        refine wpAny_pure ?_
        refine (looks_subIn X₂ sb1).here ?_
        show wpAny _ _ (isInstance (.ref F) (.type "frozenset")) _ _ _
        unfold isInstance
        refine wpAny_bind (It₂.type.here ((looks_subIn X₂ sb2).here ?_))
        simp only [Bool.false_eq_true, if_false]
        refine wpAny_bind (It₂.type.here ?_)
        rw [if_neg (show ¬ ((Value.ref 47 == .type "dict") = true) from Bool.false_ne_true)]
        subst hPI
        show wpAny _ (At dp (un + 1 + 1) gd outer) _ _ _ _
        refine wpAny_bind (pyIter_ff F₂ Xg Tg (by omega) (k₂ _ _ hF) (k₂ _ _ hD) fun h₃ tk₃ k₃ => ?_)
        have k₃' : ∀ b o, s.heap.get? b = some o → h₃.get? b = some o := fun b o q => k₃ _ _ (k₂ _ _ q)
        refine wpAny_bind (wpAny_runValue ?_)
        refine upd_loop (cs_all X T (n + 1)) hdp S hI G hnew _ i _ (fun _ => false) 0 rfl (by simpa using hle) (Rel.of_keeps k₃') (G.it.at fun o q => k₃' _ _ q) (setOf_keeps hS2 k₃) fun h' tk' k' R' hS' => ?_
        show wpAny _ _ _ _ _ _
        refine wpAny_pure ?_
        show wpAny _ _ (ret Value.none) _ _ _
        exact wpAny_pure ⟨rfl, h', tk', k', rfl, R', SetOf_congr hS' (fun y => by simp) rfl⟩
      · cases r₂ with
        | error e => exact hr₂
        | ok fl₂ =>
          cases fl₂ with
          | ret r =>
            obtain ⟨rfl, h', tk, k', rfl, hR', hS'⟩ := hr₂
            repeat (any_goals (first | assumption | wp_step))
            exact hQ _ _ _ _ hR' hnew hS'
          | _ => exact hr₂.elim
    | _ => exact hr.elim
end

/-- what can be iterated: a list of ints, or a filterfalse; what it would give; the iterators that reading it turns -/
inductive Arg (w : World) (hb : Heap) (fs : List Addr) (h : Heap) : Nat → List Addr → Addr → List Int → Prop
  | lst {l : Addr} {vs : List Value} {zs : List Int} (hl : h.IsList l vs.toArray) (hi : IntsAre vs zs) : Arg w hb fs h 0 [] l zs
  | ff {n F J l i : Nat} {f : List Int → List Int} {ns zs : List Int} (hF : Sta w fs h (n + 1) F J f) (G : Gnd hb h J l i ns) (e : f (ns.drop i) = zs) : Arg w hb fs h (n + 1) [J] F zs

section
variable {w : World} {hb h h' : Heap} {fs fs' : List Addr} {n a : Nat} {wr wr' : List Addr} {zs : List Int} {outer : List Env}
theorem Arg.keeps (x : Arg w hb fs h n wr a zs) (k : ∀ b o, h.get? b = some o → h'.get? b = some o) : Arg w hb fs h' n wr a zs := by
  cases x with
  | lst hl hi => obtain ⟨o, ho, r⟩ := hl; exact .lst ⟨o, k _ _ ho, r⟩ hi
  | ff hF G e => exact .ff (hF.keeps k) (G.keeps k) e
theorem Arg.fewer (x : Arg w hb fs h n wr a zs) (hs : ∀ b ∈ fs', b ∈ fs) : Arg w hb fs' h n wr a zs := by
  cases x with
  | lst hl hi => exact .lst hl hi
  | ff hF G e => exact .ff (hF.fewer hs) G e
theorem Arg.more (x : Arg w hb fs h n wr a zs) {L : Addr} (hL : h.get? L = none) : Arg w hb (L :: fs) h n wr a zs := by
  cases x with
  | lst hl hi => exact .lst hl hi
  | ff hF G e => exact .ff (hF.more hL) G e
theorem Arg.iter (x : Arg w hb fs h n wr a zs) : ∀ b ∈ wr, ∃ l i, h.IsListIter b l i := by
  cases x with
  | lst hl hi => exact fun _ q => nomatch q
  | ff hF G e => exact fun b q => by rw [List.mem_singleton.mp q]; exact ⟨_, _, G.it⟩
theorem Arg.new (x : Arg w hb fs h n wr a zs) : ∀ b ∈ wr, hb.get? b = none := by
  cases x with
  | lst hl hi => exact fun _ q => nomatch q
  | ff hF G e => exact fun b q => by rw [List.mem_singleton.mp q]; exact G.new
theorem Arg.rel (x : Arg w hb (frs outer) h n wr a zs) (S : Stk hb outer h) (R : Rel (frs outer) wr' h h') (hw : ∀ b ∈ wr', ∃ l i, h.IsListIter b l i) (hd : ∀ b ∈ wr, b ∉ wr') : Arg w hb (frs outer) h' n wr a zs := by
  cases x with
  | lst hl hi => exact .lst (isList_rel R hl fun z => by
      obtain ⟨l, i, o, ho, hc, _⟩ := hw _ z
      obtain ⟨o', ho', hc', _⟩ := hl
      rw [ho] at ho'; cases ho'; rw [hc] at hc'; exact absurd hc' (by decide)) hi
  | ff hF G e => exact .ff (hF.rel S R hw) (G.rel S R hw (hd _ List.mem_cons_self)) e
end

section
variable {w : World} {hb : Heap} {n : Nat} {dp un : Nat} {gd : Option (List Code)} {outer : List Env} {s : Shared} {mean : ExcName → Option Value} {mg mb : Str → Option Value} {Q E : Value → Shared → Prop} {g : Heap} {L a : Addr} {m : Str → Option Value} {wr : List Addr} {zs : List Int}
theorem set_any (X : (hd.heap_39 w.params).In hb) (T : Top hd.view_39 (looseW hd.view_39 [Str.ofString "filterfalse"]) mean mg mb hb) (Fg : Fr g L s.heap m) (Xg : (hd.heap_39 w.params).In g) (Tg : Top hd.view_39 (looseW hd.view_39 [Str.ofString "filterfalse"]) mean mg mb g)
    (S : Stk hb outer s.heap) (Y : Arg w hb (frs outer) s.heap n wr a zs) (hle : zs.length ≤ 1000) (hdp : dp + n < recursionLimit)
    (hQ : ∀ D h' tk k, Rel (frs outer) wr s.heap h' → s.heap.get? D = none → h'.SetOf (intKind PG w) D (fun y => zs.contains y) k → Q (.ref D) { s with heap := h', toks := tk }) :
    wpAny (model PG w) (At dp un gd outer) (call (.type "set") [.ref a]) Q E s := by
  cases Y with
  | @lst _ vs _ hl hi =>
    have hlen := hi.length
    refine PySem.call_set_list (items := vs.toArray) (ns := zs) rfl hl (by simpa using hi) (by rw [List.size_toArray, hlen]; unfold scanBound; omega) fun h' tk hS hk => ?_
    refine hQ _ h' tk _ (Rel.of_keeps fun b o e => hk b o (Heap.lt_size e) e) (Heap.get?_none_of_le (Nat.le_refl _)) (SetOf_congr hS (fun y => ?_) rfl)
    rw [firstMet_any, List.size_toArray, hlen]
    have e1 : (List.range zs.length).map (fun i => zs.getD i 0) = zs := by
      apply List.ext_getElem
      · simp
      · intro i h1 h2; simp at h1; simp [h1]
    rw [e1]
    exact List.any_beq'
  | ff hF G e =>
    subst e
    exact set_ff X T Fg Xg Tg S hF G hle hdp hQ

theorem list_any (X : (hd.heap_39 w.params).In hb) (T : Top hd.view_39 (looseW hd.view_39 [Str.ofString "filterfalse"]) mean mg mb hb) (Fg : Fr g L s.heap m) (Xg : (hd.heap_39 w.params).In g) (Tg : Top hd.view_39 (looseW hd.view_39 [Str.ofString "filterfalse"]) mean mg mb g)
    (S : Stk hb outer s.heap) (Y : Arg w hb (frs outer) s.heap (n + 1) wr a zs) (hle : zs.length ≤ 1000) (hdp : dp + (n + 1) < recursionLimit)
    (hQ : ∀ D h' tk vs, Rel (frs outer) wr s.heap h' → s.heap.get? D = none → h'.IsList D vs.toArray → IntsAre vs zs → Q (.ref D) { s with heap := h', toks := tk }) :
    wpAny (model PG w) (At dp un gd outer) (call (.type "list") [.ref a]) Q E s := by
  cases Y with
  | ff hF G e =>
    subst e
    exact list_ff X T Fg Xg Tg S hF G hle hdp fun D h' tk acc c R hn hD hi => hQ D h' tk acc.toList R hn ⟨_, hD, rfl, c, by simp⟩ hi
/-- «iter» of either -/
theorem iter_any (Fg : Fr g L s.heap m) (Xg : (hd.heap_39 w.params).In g) (Tg : Top hd.view_39 (looseW hd.view_39 [Str.ofString "filterfalse"]) mean mg mb g)
    (St : hb.StaysIn s.heap) {h0 : Heap} {fs : List Addr} (Y : Arg w hb fs h0 n wr a zs) (k0 : ∀ b o, h0.get? b = some o → s.heap.get? b = some o) (hdp : dp < recursionLimit)
    (hQ : ∀ I h' tk, (∀ b o, s.heap.get? b = some o → h'.get? b = some o) → (∃ J l i ns f oJ, f (ns.drop i) = zs ∧ (J ∈ wr ∨ s.heap.get? J = none) ∧ h'.get? J = some oJ ∧
      ∀ h'', (∀ b o, h0.get? b = some o → h''.get? b = some o) → h''.get? J = some oJ → Sta w fs h'' n I J f ∧ Gnd hb h'' J l i ns) → Q (.ref I) { s with heap := h', toks := tk }) :
    wpAny (model PG w) (At dp un gd outer) (call (.builtin "iter") [.ref a]) Q E s := by
  refine call_function_entry (by decide +kernel) (by decide +kernel) kdk_entry_iter (kdk_args_iter _) ?_
  unfold Builtin.«iter»
  refine wpAny_bind (m := someArgs "iter" 1 2 _) (wpAny_of_eq (a := [Value.ref a]) (by first | rfl | kernel_rfl!) ?_)
  show wpAny _ (At dp (un + 1) gd outer) (pyIter (.ref a) >>= _) _ _ _
  cases Y with
  | @lst _ vs _ hl hi =>
    have hl' : s.heap.IsList a vs.toArray := let ⟨o, ho, r⟩ := hl; ⟨o, k0 _ _ ho, r⟩
    refine wpAny_bind (wpAny_pyIter_list hl' (wpAny_pure ⟨_, rfl, ?_⟩))
    have k : ∀ b o, s.heap.get? b = some o → (s.heap.push { cls := .type "list_iterator", data := .fields #[.ref a, .int 0 0] }).get? b = some o := fun b o e => Heap.get?_push_of_some _ e
    exact hQ _ _ s.toks k ⟨_, a, 0, zs, id, _, rfl, .inr (Heap.get?_none_of_le (Nat.le_refl _)), Heap.get?_push_size _ rfl, fun h'' k'' e'' => ⟨.base, ⟨⟨_, e'', rfl, rfl⟩, ⟨vs, let ⟨o, ho, r⟩ := hl; ⟨o, k'' _ _ ho, r⟩, hi⟩, St.fresh⟩⟩⟩
  | ff hF G e =>
    obtain ⟨dx, B, I, od, h1, h2⟩ : ∃ dx B I od, h0.get? a = some ⟨.ref 47, some dx, .plain, #[some (.ref B), some (.ref I)]⟩ ∧ h0.get? dx = some od := by
      cases hF with
      | ff hF hD _ _ _ _ _ => exact ⟨_, _, _, _, hF, hD⟩
    obtain ⟨oJ, hoJ, _⟩ := id G.it
    refine wpAny_bind (pyIter_ff Fg Xg Tg hdp (k0 _ _ h1) (k0 _ _ h2) fun h' tk k => wpAny_pure ⟨_, rfl, ?_⟩)
    exact hQ _ h' tk k ⟨_, _, _, _, _, oJ, e, .inl List.mem_cons_self, k _ _ (k0 _ _ hoJ), fun h'' k'' _ => ⟨hF.keeps k'', G.keeps k''⟩⟩
end
end Part11

section Part12
theorem fill_in12 : (fun w : World => hd.heap_39 w.params) = (fun w : World => hd.heap_39 w.params) ∧ PySem.Challenge.rw_il0156_01.row = PySem.Challenge.rw_il0156_01.row := by
  k_fill
  exact ⟨rfl, rfl⟩

section
variable {g h h' : Heap} {L : Addr} {m m' : Str → Option Value} {ex : List (Addr × Obj)}
/-- all that stands is told: what the base does not hold is put into the list of the new -/
theorem news_all (F : Fr g L h m) (N : News g L h ex) : ∃ fl, News g L h (ex ++ fl) ∧ (∀ b o, h.get? b = some o → b ≠ L → g.get? b = none → (∀ p ∈ ex, b ≠ p.1) → (b, o) ∈ fl) ∧ ∀ p ∈ fl, ∀ q ∈ ex, p.1 ≠ q.1 := by
  classical
  refine ⟨(List.range h.objs.size).filterMap fun b => if b ≠ L ∧ g.get? b = none ∧ ∀ p ∈ ex, b ≠ p.1 then (h.get? b).map fun o => (b, o) else none, fun p hp => ?_, fun b o e n1 n2 n3 => ?_, fun p hp => ?_⟩
  · rcases List.mem_append.mp hp with hp | hp
    · exact N p hp
    · obtain ⟨b, hb, e⟩ := List.mem_filterMap.mp hp
      split at e
      · rename_i hc
        obtain ⟨o, ho, rfl⟩ := Option.map_eq_some_iff.mp e
        exact ⟨ho, hc.1, hc.2.1⟩
      · cases e
  · refine List.mem_filterMap.mpr ⟨b, List.mem_range.mpr (Heap.lt_size e), ?_⟩
    rw [if_pos ⟨n1, n2, n3⟩, e]; rfl
  · obtain ⟨b, hb, e⟩ := List.mem_filterMap.mp hp
    split at e
    · rename_i hc
      obtain ⟨o, ho, rfl⟩ := Option.map_eq_some_iff.mp e
      exact hc.2.2
    · cases e
theorem all_kept {fl : List (Addr × Obj)} {ex' : List (Addr × Obj)} (F : ∀ b o, g.get? b = some o → h.get? b = some o) (hfl : ∀ b o, h.get? b = some o → b ≠ L → g.get? b = none → (∀ p ∈ ex, b ≠ p.1) → (b, o) ∈ fl) (F' : Fr g L h' m') (N' : News g L h' ex') (hs : ∀ p ∈ fl, p ∈ ex') :
    ∀ b o, h.get? b = some o → b ≠ L → (∀ p ∈ ex, b ≠ p.1) → h'.get? b = some o := fun b o e n1 n3 => by
  cases q : g.get? b with
  | some o' => have := F b o' q; rw [e] at this; cases this; exact F'.keep b o q
  | none => exact (N' _ (hs _ (hfl b o e n1 q n3))).1
end

section
variable {w : World} {hb : Heap} {n : Nat} {dp un : Nat} {gd : Option (List Code)} {outer : List Env} {s : Shared} {mean : ExcName → Option Value} {mg mb : Str → Option Value} {Q E : Value → Shared → Prop} {B D k a : Nat} {P : Int → Bool} {wr : List Addr} {zs : List Int}
local macro_rules | `(tactic| walk_at "setAttr ref") => `(tactic| (k_here; k_dflt (refine' set_slot ?k1 ?k2 ?k3 ?k4 ?k5 ?k6 ?k7 ?k8 ?k9 ?k10 ?k11 ?k12 ?k13 ?_; (case k1 => k_asm); (case k2 => k_asm); (case k3 => k_asm); (case k4 => k_inst); (case k5 => k_is); (case k6 => k_is); (case k7 => k_is); (case k8 => k_is); (case k9 => k_is); (case k10 => decide); (case k11 => k_slotset); (case k12 => exact rfl); (case k13 => exact Upd.head (by assumption)); k_whole; intro h' F' N')))
local macro_rules | `(tactic| walk_at "call builtin:iter") => `(tactic| (refine Hold.out ?_))
theorem ff_init (X : (hd.heap_39 w.params).In hb) (T : Top hd.view_39 (looseW hd.view_39 [Str.ofString "filterfalse"]) mean mg mb hb) {h0 : Heap} (S : Stk hb outer h0) (Y : Arg w hb (frs outer) h0 n wr a zs)
    (hB : h0.get? B = some (boundC D)) (hS : h0.SetOf (intKind PG w) D P k) (hdp : dp + 1 < recursionLimit) {x dx : Addr} {R : Result → Shared → Prop} {gs : Array GenState} {dr : Drawn} {t : Nat} {os : OsState}
    (edx : dx = h0.objs.size) (ex : x = h0.objs.size + 1)
    (hR : ∀ J h' tk, (∀ b o, h0.get? b = some o → h'.get? b = some o) → Arg w hb (frs outer) h' (n + 1) [J] x (zs.filter fun v => !P v) → (J ∈ wr ∨ h0.get? J = none) → R (.ok (.ret (.ref x))) ⟨h', gs, dr, tk, os⟩) :
    codeAny (model PG w) (At dp un gd outer) (.call (.ref 29) ⟨[.ref x, .ref B, .ref a], []⟩) (InitBack x R) ⟨(h0.push emptyDict).push (instObj 47 dx), gs, dr, t, os⟩ := by
  have k1 : ∀ b o, h0.get? b = some o → ((h0.push emptyDict).push (instObj 47 dx)).get? b = some o := fun b o e => Heap.get?_push_of_some _ (Heap.get?_push_of_some _ e)
  have hdx : ((h0.push emptyDict).push (instObj 47 dx)).get? dx = some emptyDict := by rw [edx]; exact Heap.get?_push_of_some _ (Heap.get?_push_size _ rfl)
  have hx : ((h0.push emptyDict).push (instObj 47 dx)).get? x = some (instObj 47 dx) := by
    have := Heap.get?_push_size (h0.push emptyDict) (o := instObj 47 dx) rfl
    rw [Heap.size_push] at this
    rw [ex]; exact this
  have n1 : h0.get? x = none := Heap.get?_none_of_le (by rw [ex]; exact Nat.le_succ _)
  have n2 : h0.get? dx = none := Heap.get?_none_of_le (by rw [edx]; exact Nat.le_refl _)
  generalize (h0.push emptyDict).push (instObj 47 dx) = h1 at *
  have S1 := S.keeps k1
  have Y1 := Y.keeps k1
  have Xs : (hd.heap_39 w.params).In h1 := X.keeps S1.stays
  have Ts := T.keeps S1.stays
  have hid : ∀ b o, h0.get? b = some o → b ∉ [x, dx] := fun b o e z => by
    simp only [List.mem_cons, List.not_mem_nil, or_false] at z
    rcases z with rfl | rfl
    · rw [n1] at e; cases e
    · rw [n2] at e; cases e
  have Xg : (hd.heap_39 w.params).In (hideAll h1 [x, dx]) := X.keeps (hide_keep S1.stays fun b o e => hid b o (S.stays b o e))
  have Tg : Top hd.view_39 (looseW hd.view_39 [Str.ofString "filterfalse"]) mean mg mb (hideAll h1 [x, dx]) := T.keeps (hide_keep S1.stays fun b o e => hid b o (S.stays b o e))
  have g1 : (hideAll h1 [x, dx]).get? x = none := hideAll_none _ (by simp)
  have g2 : (hideAll h1 [x, dx]).get? dx = none := hideAll_none _ (by simp)
  generalize hg : hideAll h1 [x, dx] = g at Xg Tg g1 g2
  k_dflt (refine' enterH [x, dx] Xs Ts ?k6 ?k7 ?k8 ?k9 ?kB ?_ ?c2 ?c3 ?c4 ?c5)
  case k6 => k_is
  case k7 => k_is
  case k8 => show dp < _; omega
  case k9 => exact BindsTo.of_eq rfl
  case kB => exact locs rfl
  case c2 => exact rfl
  case c3 => exact rfl
  case c4 => exact rfl
  case c5 => decide
  intro L' h₁ eL hk₁ F' N'
  rw [hg] at F' N'
  clear N' Xs Ts
  have hL1 : h1.get? L' = none := Heap.get?_none_of_le (by rw [eL]; exact Nat.le_refl _)
  have hLb : hb.get? L' = none := by rw [eL]; exact S1.stays.fresh
  have neL : ∀ b o, h1.get? b = some o → b ≠ L' := fun b o e z => by rw [z, hL1] at e; cases e
  have S2 : Stk hb outer h₁ := S1.keeps hk₁
  have N' : News g L' h₁ [] := News.nil
  try dsimp only
  try k_fold
  k_steps
  refine Hold.mk ?_
  have k01 : ∀ b o, h0.get? b = some o → h₁.get? b = some o := fun b o e => hk₁ _ _ (k1 _ _ e)
  refine iter_any (dp := dp + 1) F' Xg Tg S2.stays Y k01 hdp fun I h₄ tk₄ k₄ hI => ?_
  obtain ⟨J, l, i, ns, f, oJ, ez, hJ, hoJ, sta⟩ := hI
  have F₂ := F'.keeps k₄
  have NB : News g L' h₄ [(x, instObj 47 dx), (dx, dictOf [] 0)] := by
    intro p hp
    simp only [List.mem_cons, List.not_mem_nil, or_false] at hp
    rcases hp with rfl | rfl
    · exact ⟨k₄ _ _ (hk₁ _ _ hx), neL _ _ hx, g1⟩
    · exact ⟨k₄ _ _ (hk₁ _ _ hdx), neL _ _ hdx, g2⟩
  have neN : ∀ b, h₁.get? b = none → b ≠ L' ∧ ∀ p ∈ [(x, instObj 47 dx), (dx, dictOf [] 0)], b ≠ p.1 := fun b q => by
    obtain ⟨oL, _, _, hoL, _⟩ := F'.ns
    refine ⟨fun z => ?_, fun p hp z => ?_⟩
    · rw [z, hoL] at q; cases q
    · simp only [List.mem_cons, List.not_mem_nil, or_false] at hp
      rcases hp with rfl | rfl
      · rw [z, hk₁ _ _ hx] at q; cases q
      · rw [z, hk₁ _ _ hdx] at q; cases q
  have neO : ∀ b o, h0.get? b = some o → b ≠ L' ∧ ∀ p ∈ [(x, instObj 47 dx), (dx, dictOf [] 0)], b ≠ p.1 := fun b o e => by
    refine ⟨neL _ _ (k1 _ _ e), fun p hp z => ?_⟩
    simp only [List.mem_cons, List.not_mem_nil, or_false] at hp
    rcases hp with rfl | rfl
    · rw [z, n1] at e; cases e
    · rw [z, n2] at e; cases e
  obtain ⟨fl, N₂, hfl, hne⟩ := news_all F₂ NB
  have hne' : ∀ p ∈ (dx, dictOf [] 0) :: fl, p.1 ≠ x := fun p hp => by
    rcases List.mem_cons.mp hp with rfl | hp
    · show dx ≠ x; rw [edx, ex]; exact Nat.ne_of_lt (Nat.lt_succ_self _)
    · exact hne p hp _ List.mem_cons_self
  have kF := F₂.keep
  clear N' NB F'
  simp only [List.cons_append, List.nil_append] at N₂
  k_steps
  rename Fr _ _ _ _ => F₉
  rename News _ _ _ _ => N₉
  have hk := all_kept kF hfl F₉ N₉ fun p hp => List.mem_cons_of_mem _ (List.mem_cons_of_mem _ hp)
  have k09 := fun b o (e : h0.get? b = some o) => hk b o (k₄ _ _ (k01 _ _ e)) (neO b o e).1 (neO b o e).2
  have hJn : J ≠ L' ∧ ∀ p ∈ [(x, instObj 47 dx), (dx, dictOf [] 0)], J ≠ p.1 := by
    rcases hJ with hJ | hJ
    · obtain ⟨l', i', o, ho, _⟩ := Y.iter J hJ
      exact neO J o ho
    · exact neN J hJ
  obtain ⟨sta1, gnd⟩ := sta _ k09 (hk J oJ hoJ hJn.1 hJn.2)
  refine ⟨rfl, hR J _ _ k09 (.ff (.ff (N₉ _ List.mem_cons_self).1 (N₉ _ (List.mem_cons_of_mem _ List.mem_cons_self)).1 rfl (k09 _ _ hB) (setOf_keeps hS k09) (new_apart S n2) sta1) gnd ?_) (hJ.imp id fun q => ?_)⟩
  · show List.filter _ (f (ns.drop i)) = _
    rw [ez]
  · cases z : h0.get? J with
    | none => rfl
    | some o => have := k01 _ _ z; rw [q] at this; cases this
end
end Part12

section Part13
theorem fill_in13 : (fun w : World => hd.heap_39 w.params) = (fun w : World => hd.heap_39 w.params) ∧ PySem.Challenge.rw_il0156_01.row = PySem.Challenge.rw_il0156_01.row := by
  k_fill
  exact ⟨rfl, rfl⟩

section
variable {w : World} {hb : Heap} {n : Nat} {dp un : Nat} {gd : Option (List Code)} {outer : List Env} {s : Shared} {mean : ExcName → Option Value} {mg mb : Str → Option Value} {Q E : Value → Shared → Prop} {B D k a : Nat} {P : Int → Bool} {wr : List Addr} {zs : List Int}
/-- filterfalse(the bound method, an iterable) -/
theorem ff_new (X : (hd.heap_39 w.params).In hb) (T : Top hd.view_39 (looseW hd.view_39 [Str.ofString "filterfalse"]) mean mg mb hb) (S : Stk hb outer s.heap) (Y : Arg w hb (frs outer) s.heap n wr a zs)
    (hB : s.heap.get? B = some (boundC D)) (hS : s.heap.SetOf (intKind PG w) D P k) (hdp : dp + 2 < recursionLimit)
    (hQ : ∀ x J h' tk, (∀ b o, s.heap.get? b = some o → h'.get? b = some o) → Arg w hb (frs outer) h' (n + 1) [J] x (zs.filter fun v => !P v) → (J ∈ wr ∨ s.heap.get? J = none) → Q (.ref x) { s with heap := h', toks := tk }) :
    wpAny (model PG w) (At dp un gd outer) (call (.ref 47) [.ref B, .ref a]) Q E s := by
  refine wpAny_call ?_
  obtain ⟨hh, g, d, t, os⟩ := s
  have Xs : (hd.heap_39 w.params).In hh := X.keeps S.stays
  have hi : findIn (hd.heap_39 w.params) (.ref 47) "__init__" = some (some (.ref 29)) := by k_is
  have hf : typeIn (hd.heap_39 w.params) (.ref 29) = some (.type "function") := by k_is
  refine make_core (makes_of Xs (by k_is)) (looks_findIn Xs hi) (fun self => bind_fn Xs self hf) (.inl rfl) ?_
  have eA : (At dp un gd outer).under (Code.builtin "type.__call__" ⟨[.ref 47, .ref B, .ref a], []⟩) = At (dp + 1) ((At dp un gd outer).under (Code.builtin "type.__call__" ⟨[.ref 47, .ref B, .ref a], []⟩)).units gd outer := rfl
  rw [eA]
  refine ff_init X T S Y hB hS (by omega) rfl rfl fun J h' tk kk Y' hJ => ?_
  exact hQ _ J h' tk kk Y' hJ
end

section
variable {w : World} {hb : Heap} {nx ny : Nat} {dp un : Nat} {gd : Option (List Code)} {outer : List Env} {s : Shared} {mean : ExcName → Option Value} {mg mb : Str → Option Value} {Q E : Value → Shared → Prop} {x y : Addr} {wx wy : List Addr} {zx zy : List Int}
local macro_rules | `(tactic| walk_at "call type:set") => `(tactic| (refine Hold.out ?_))
local macro_rules | `(tactic| walk_at "call ref") => `(tactic| (refine Hold.out ?_))
local macro_rules | `(tactic| walk_at "getAttr ref") => `(tactic| (refine Hold.out ?_))
/-- _difference(x, y): y is read to its end, x is not read yet -/
theorem diff_call (X : (hd.heap_39 w.params).In hb) (T : Top hd.view_39 (looseW hd.view_39 [Str.ofString "filterfalse"]) mean mg mb hb) (S : Stk hb outer s.heap)
    (Yx : Arg w hb (frs outer) s.heap nx wx x zx) (Yy : Arg w hb (frs outer) s.heap ny wy y zy) (hd0 : ∀ b ∈ wx, b ∉ wy) (hle : zy.length ≤ 1000) (hdp : dp + ny + 4 < recursionLimit)
    (hQ : ∀ F J h' tk, Rel (frs outer) wy s.heap h' → Arg w hb (frs outer) h' (nx + 1) [J] F (zx.filter fun v => !zy.contains v) → (J ∈ wx ∨ J ∈ wy ∨ s.heap.get? J = none) → Q (.ref F) { s with heap := h', toks := tk }) :
    wpAny (model PG w) (At dp un gd outer) (call (.ref 58) [.ref x, .ref y]) Q E s := by
  refine wpAny_call ?_
  have Xs : (hd.heap_39 w.params).In s.heap := X.keeps S.stays
  have Ts := T.keeps S.stays
  have hid : ∀ b o, hb.get? b = some o → b ∉ wy ++ frs outer := fun b o e z => by
    rcases List.mem_append.mp z with z | z
    · have := Yy.new b z; rw [e] at this; cases this
    · exact S.notIn e z
  have Xg : (hd.heap_39 w.params).In (hideAll s.heap (wy ++ frs outer)) := X.keeps (hide_keep S.stays hid)
  have Tg : Top hd.view_39 (looseW hd.view_39 [Str.ofString "filterfalse"]) mean mg mb (hideAll s.heap (wy ++ frs outer)) := T.keeps (hide_keep S.stays hid)
  have hgn : ∀ b o, (hideAll s.heap (wy ++ frs outer)).get? b = some o → b ∉ frs outer ∧ b ∉ wy := fun b o e => by
    refine ⟨fun z => ?_, fun z => ?_⟩
    · rw [hideAll_none _ (List.mem_append_right _ z)] at e; cases e
    · rw [hideAll_none _ (List.mem_append_left _ z)] at e; cases e
  generalize hg : hideAll s.heap (wy ++ frs outer) = g at Xg Tg hgn
  k_dflt (refine' enterH (wy ++ frs outer) Xs Ts ?k6 ?k7 ?k8 ?k9 ?kB ?_ ?c2 ?c3 ?c4 ?c5)
  case k6 => k_is
  case k7 => k_is
  case k8 => show dp < _; omega
  case k9 => exact BindsTo.of_eq rfl
  case kB => exact locs rfl
  case c2 => exact rfl
  case c3 => exact rfl
  case c4 => exact rfl
  case c5 => decide
  intro L' h₁ eL hk₁ F' N'
  rw [hg] at F' N'
  clear Xs Ts
  have hL0 : s.heap.get? L' = none := Heap.get?_none_of_le (by rw [eL]; exact Nat.le_refl _)
  have hLb : hb.get? L' = none := by rw [eL]; exact S.stays.fresh
  have hLw : L' ∉ wy := fun z => by
    obtain ⟨l', i', o, ho, _⟩ := Yy.iter _ z
    rw [hL0] at ho; cases ho
  have S1 : Stk hb outer h₁ := S.keeps hk₁
  try dsimp only
  try k_fold
  k_steps
  refine Hold.mk ?_
  have S1' := S1.push (name := Str.ofString "_difference") (a := 58) (cd := .ref 57) F'.ns hLb (hk := rfl) (scope := { kind := ScopeKind.function, names := [(Str.ofString "minuend", NameKind.local), (Str.ofString "subtrahend", NameKind.local), (Str.ofString "filterfalse", NameKind.globalImplicit), (Str.ofString "set", NameKind.globalImplicit)], isGenerator := false, isCoroutine := false })
  refine set_any (dp := dp + 1) X T F' Xg Tg S1' ((Yy.more hL0).keeps hk₁) hle (by omega) fun D h₂ tk₂ k R₂ hD hS₂ => ?_
  have F₂ := fr_rel F' R₂ hgn hLw
  have N₂ : News g L' h₂ [] := News.nil
  have S2' := S1'.rel R₂ Yy.new
  clear F' N'
  k_steps
  refine Hold.mk ?_
  have hS₂' := hS₂
  obtain ⟨⟨oc, od, odt, osl⟩, es, ep, tb, ho, ⟨hc1, hc2, hc3⟩, hda, hr⟩ := hS₂'
  dsimp only at hc1 hc2 hc3 hda
  subst hc1; subst hc2; subst hc3; subst hda
  refine contains_attr ho ?_
  have k₃ : ∀ b o, h₂.get? b = some o → (h₂.push (boundC D)).get? b = some o := fun b o e => Heap.get?_push_of_some _ e
  have hB : (h₂.push (boundC D)).get? h₂.objs.size = some (boundC D) := Heap.get?_push_size _ rfl
  have F₃ := F₂.keeps k₃
  have N₃ : News g L' (h₂.push (boundC D)) [] := News.nil
  clear F₂ N₂
  k_steps
  refine Hold.mk ?_
  have Yx1 := (Yx.more hL0).keeps hk₁
  have Yx2 := Yx1.rel S1' R₂ ((Yy.more hL0).keeps hk₁).iter hd0
  refine ff_new (dp := dp + 1) X T (S2'.keeps k₃) (Yx2.keeps k₃) hB (setOf_keeps hS₂ k₃) (by omega) fun F J h₄ tk₄ k₄ YF hJ => ?_
  have F₄ := F₃.keeps k₄
  have N₄ : News g L' h₄ [] := News.nil
  clear F₃ N₃
  k_steps
  refine hQ F J h₄ _ (Rel.pop hk₁ hL0 (R₂.trans (Rel.of_keeps fun b o e => k₄ _ _ (k₃ _ _ e)))) (YF.fewer fun b z => List.mem_cons_of_mem _ z) (hJ.imp id fun q => ?_)
  by_cases zJ : J ∈ wy
  · exact .inl zJ
  · refine .inr ?_
    cases z : s.heap.get? J with
    | none => rfl
    | some o =>
      obtain ⟨sl, hs⟩ := R₂.any zJ (hk₁ _ _ z)
      have := k₃ _ _ hs; rw [q] at this; cases this
end
end Part13

section Part14
def sub (a b : List Int) : List Int := a.filter fun v => !b.contains v
theorem sub_len (a b : List Int) : (sub a b).length ≤ a.length := List.length_filter_le _ _
/-- what _law_made gives -/
def madeL (rss : List (List Int)) (n : Int) : List Int :=
  let r0 := rss.getD 0 []
  let r1 := rss.getD (ix1 n rss.length) []
  let r2 := rss.getD (ix2 n rss.length) []
  if n.fmod 8 = 0 then sub r0 r2 else if n.fmod 8 = 1 then sub r1 (sub r1 r2) else if n.fmod 8 = 2 then sub r0 (sub (sub r0 r1) r2)
  else if n.fmod 8 = 3 then sub (sub r0 (sub (sub r0 r1) r2)) (sub r1 (sub r1 r2)) else if n.fmod 8 = 4 then sub r1 r2 else if n.fmod 8 = 5 then sub r0 (sub r1 r2)
  else drawnL n

/-- the ground of a body that makes differences -/
structure Bse (w : World) (mean : ExcName → Option Value) (mg mb : Str → Option Value) (hb g h0 : Heap) (L : Addr) (outer : List Env) : Prop where
  X : (hd.heap_39 w.params).In hb
  T : Top hd.view_39 (looseW hd.view_39 [Str.ofString "filterfalse"]) mean mg mb hb
  Xg : (hd.heap_39 w.params).In g
  Tg : Top hd.view_39 (looseW hd.view_39 [Str.ofString "filterfalse"]) mean mg mb g
  S : Stk hb outer h0
  gn : ∀ b o, g.get? b = some o → b ∉ frs outer ∧ b ∉ ([] : List Addr)
  gh : ∀ b o, g.get? b = some o → h0.get? b = some o
  L0 : h0.get? L = none
  Lb : hb.get? L = none

def RA (w : World) (hb h0 : Heap) (L : Addr) (outer : List Env) (h : Heap) (n : Nat) (wr : List Addr) (a : Addr) (zs : List Int) : Prop :=
  Arg w hb (L :: frs outer) h n wr a zs ∧ (∀ b ∈ wr, h0.get? b = none) ∧ zs.length ≤ 1000

section
variable {w : World} {hb g h0 h h' : Heap} {L a : Addr} {outer : List Env} {mean : ExcName → Option Value} {mg mb : Str → Option Value} {m m' : Str → Option Value} {n : Nat} {wr : List Addr} {zs : List Int} {vs : List Value} {rss : List (List Int)} {i : Nat} {fl ex' : List (Addr × Obj)}
theorem RA.row (F : Fr g L h m) (gl : g.IsList a vs.toArray) (hi : IntsAre vs (rss.getD i [])) (hk : RowsBnd rss) : RA w hb h0 L outer h 0 [] a (rss.getD i []) :=
  ⟨.lst (F.lst gl) hi, (fun _ z => nomatch z), by have := hk.len i; omega⟩
/-- the whole of a heap, as a walk keeps it -/
structure Whole (g : Heap) (L : Addr) (h : Heap) (m : Str → Option Value) (fl : List (Addr × Obj)) : Prop where
  keep : ∀ b o, g.get? b = some o → h.get? b = some o
  ns : h.Ns L m
  all : ∀ b o, h.get? b = some o → b ≠ L → g.get? b = none → (∀ p ∈ ([] : List (Addr × Obj)), b ≠ p.1) → (b, o) ∈ fl
def Tr (w : World) (hb h0 : Heap) (L : Addr) (outer : List Env) (h h' : Heap) (wy : List Addr) : Prop := ∀ n a wr zs, RA w hb h0 L outer h n wr a zs → (∀ b ∈ wr, b ∉ wy) → RA w hb h0 L outer h' n wr a zs
theorem no_l {wy : List Addr} : ∀ b ∈ ([] : List Addr), b ∉ wy := fun _ z => nomatch z
theorem no_r {wx : List Addr} : ∀ b ∈ wx, b ∉ ([] : List Addr) := fun _ _ z => nomatch z
theorem RA.apart {wx wy : List Addr} {J : Addr} (Y : RA w hb h0 L outer h n wr a zs) (hJ : J ∈ wx ∨ J ∈ wy ∨ h.get? J = none) (dx : ∀ b ∈ wr, b ∉ wx) (dy : ∀ b ∈ wr, b ∉ wy) : ∀ b ∈ wr, b ∉ [J] := fun b hb' z => by
  rw [List.mem_singleton.mp z] at hb'
  rcases hJ with q | q | q
  · exact dx _ hb' q
  · exact dy _ hb' q
  · obtain ⟨l', i', o, ho, _⟩ := Y.1.iter _ hb'
    rw [q] at ho; cases ho
/-- a name is stored: only the frame turns -/
theorem RA.store (x : RA w hb h0 L outer h n wr a zs) (hn : h.Ns L m) (k : ∀ b o, h.get? b = some o → b ≠ L → h'.get? b = some o) : RA w hb h0 L outer h' n wr a zs := by
  obtain ⟨x, y, z⟩ := x
  refine ⟨?_, y, z⟩
  obtain ⟨oL, es, ep, hL, hLd, _⟩ := hn
  have kd : ∀ b o, h.get? b = some o → (∀ es n, o.data ≠ .dict es n) → h'.get? b = some o := fun b o e hd => k b o e fun q => by
    rw [q, hL] at e; cases e; exact hd _ _ hLd
  cases x with
  | lst hl hi =>
    obtain ⟨o, ho, hc, nn, hd⟩ := hl
    exact .lst ⟨o, kd _ _ ho (fun es n q => by rw [hd] at q; cases q), hc, nn, hd⟩ hi
  | ff hF G e =>
    obtain ⟨⟨oJ, hJ, hJc, hJd⟩, ⟨vs, ⟨o, ho, hc, nn, hd⟩, hi⟩, hn⟩ := G
    refine .ff (hF.moved fun b o q _ hx => ?_) ⟨⟨oJ, kd _ _ hJ (fun es n q => by rw [hJd] at q; cases q), hJc, hJd⟩, ⟨vs, ⟨o, kd _ _ ho (fun es n q => by rw [hd] at q; cases q), hc, nn, hd⟩, hi⟩, hn⟩ e
    rcases hx with hx | hx
    · exact k b o q fun z => hx (by rw [z]; exact List.mem_cons_self)
    · exact kd b o q hx
/-- all that stood stands, but for the body's own frame -/
theorem mid_step (Bs : Bse w mean mg mb hb g h0 L outer) (R : Rel (frs outer) [] h0 h) (W : Whole g L h m fl) (F' : Fr g L h' m') (N' : News g L h' ex') (hs : ∀ p ∈ fl, p ∈ ex') :
    (∀ b o, h.get? b = some o → b ≠ L → h'.get? b = some o) ∧ Rel (frs outer) [] h0 h' := by
  have hk : ∀ b o, h.get? b = some o → b ≠ L → h'.get? b = some o := fun b o e n1 => all_kept W.keep W.all F' N' hs b o e n1 fun _ z => nomatch z
  have neL : ∀ b o, h0.get? b = some o → b ≠ L := fun b o e z => by rw [z, Bs.L0] at e; cases e
  refine ⟨hk, fun b o n1 n2 e => hk b o (R.keep b o n1 n2 e) (neL b o e), fun b o n1 e => ?_⟩
  obtain ⟨sl, hs⟩ := R.up b o n1 e
  exact ⟨sl, hk b _ hs (neL b o e)⟩
theorem Bse.nn (Bs : Bse w mean mg mb hb g h0 L outer) (R : Rel (frs outer) [] h0 h) {b : Addr} (e : h.get? b = none) : h0.get? b = none := by
  cases q : h0.get? b with
  | none => rfl
  | some o =>
    obtain ⟨sl, hs⟩ := R.any (fun z => nomatch z) q
    rw [e] at hs; cases hs
theorem Bse.rel (Bs : Bse w mean mg mb hb g h0 L outer) (R : Rel (frs outer) [] h0 h) (R' : Rel (L :: frs outer) wr h h') (hw : ∀ b ∈ wr, h0.get? b = none) : Rel (frs outer) [] h0 h' := by
  refine ⟨fun b o n1 n2 e => R'.keep b o (fun z => ?_) (fun z => ?_) (R.keep b o n1 n2 e), fun b o n1 e => ?_⟩
  · rcases List.mem_cons.mp z with z | z
    · rw [z, Bs.L0] at e; cases e
    · exact n1 z
  · rw [hw b z] at e; cases e
  · obtain ⟨s1, h1⟩ := R.up b o n1 e
    obtain ⟨s2, h2⟩ := R'.up b _ (List.mem_cons_of_mem _ n1) h1
    exact ⟨s2, h2⟩
end

section
variable {w : World} {hb g h0 : Heap} {L x y : Addr} {outer : List Env} {mean : ExcName → Option Value} {mg mb : Str → Option Value} {m : Str → Option Value} {nx ny n : Nat} {wx wy wr : List Addr} {zx zy zs : List Int} {dp un : Nat} {gd : Option (List Code)} {s : Shared} {Q E : Value → Shared → Prop} {name : Str} {scope : Scope} {a : Addr} {cd : Value}
theorem diff_in (Bs : Bse w mean mg mb hb g h0 L outer) (F : Fr g L s.heap m) (R : Rel (frs outer) [] h0 s.heap) (Yx : RA w hb h0 L outer s.heap nx wx x zx) (Yy : RA w hb h0 L outer s.heap ny wy y zy)
    (hd0 : ∀ b ∈ wx, b ∉ wy) (hdp : dp + ny + 4 < recursionLimit)
    (hQ : ∀ D J h' tk fl, Fr g L h' m → News g L h' fl → Whole g L h' m fl → Rel (frs outer) [] h0 h' → RA w hb h0 L outer h' (nx + 1) [J] D (sub zx zy) →
      (J ∈ wx ∨ J ∈ wy ∨ s.heap.get? J = none) → Tr w hb h0 L outer s.heap h' wy → Q (.ref D) { s with heap := h', toks := tk })
    (hk : scope.kind = .function := by rfl) : wpAny (model PG w) (At dp un gd (envOf name scope L a cd :: outer)) (call (.ref 58) [.ref x, .ref y]) Q E s := by
  have S1 : Stk hb outer s.heap := Bs.S.rel R fun _ z => nomatch z
  have S2 := S1.push (name := name) (a := a) (cd := cd) (scope := scope) F.ns Bs.Lb (hk := hk)
  refine diff_call Bs.X Bs.T S2 Yx.1 Yy.1 hd0 Yy.2.2 hdp fun D J h' tk R' YD hJ => ?_
  have F' : Fr g L h' m := fr_rel F R' (fun b o e => ⟨(Bs.gn b o e).1, fun z => by have := Yy.2.1 b z; rw [Bs.gh b o e] at this; cases this⟩) fun z => by
    obtain ⟨l', i', o, ho, hc, hd⟩ := Yy.1.iter _ z
    obtain ⟨oL, es, ep, hL, hLd, _⟩ := F.ns
    rw [hL] at ho; cases ho; rw [hd] at hLd; cases hLd
  obtain ⟨fl, N', hfl, -⟩ := news_all F' (ex := []) News.nil
  rw [List.nil_append] at N'
  refine hQ D J h' tk fl F' N' ⟨F'.keep, F'.ns, hfl⟩ (Bs.rel R R' Yy.2.1) ⟨YD, fun b z => ?_, by have := sub_len zx zy; have := Yx.2.2; show (sub zx zy).length ≤ 1000; omega⟩ hJ fun n' a' wr' zs' Y' hd' => ⟨Y'.1.rel S2 R' Yy.1.iter hd', Y'.2⟩
  rw [List.mem_singleton.mp z]
  rcases hJ with hJ | hJ | hJ
  · exact Yx.2.1 _ hJ
  · exact Yy.2.1 _ hJ
  · exact Bse.nn Bs R hJ
theorem list_in (Bs : Bse w mean mg mb hb g h0 L outer) (F : Fr g L s.heap m) (R : Rel (frs outer) [] h0 s.heap) (Y : RA w hb h0 L outer s.heap (n + 1) wr x zs) (hdp : dp + (n + 1) < recursionLimit)
    (hQ : ∀ D h' tk vs, Fr g L h' m → News g L h' [] → Rel (frs outer) [] h0 h' → h'.IsList D vs.toArray → IntsAre vs zs → Q (.ref D) { s with heap := h', toks := tk })
    (hk : scope.kind = .function := by rfl) : wpAny (model PG w) (At dp un gd (envOf name scope L a cd :: outer)) (call (.type "list") [.ref x]) Q E s := by
  have S1 : Stk hb outer s.heap := Bs.S.rel R fun _ z => nomatch z
  have S2 := S1.push (name := name) (a := a) (cd := cd) (scope := scope) F.ns Bs.Lb (hk := hk)
  refine list_any Bs.X Bs.T F Bs.Xg Bs.Tg S2 Y.1 Y.2.2 hdp fun D h' tk vs R' _ hl hi => ?_
  have F' : Fr g L h' m := fr_rel F R' (fun b o e => ⟨(Bs.gn b o e).1, fun z => by have := Y.2.1 b z; rw [Bs.gh b o e] at this; cases this⟩) fun z => by
    obtain ⟨l', i', o, ho, hc, hd⟩ := Y.1.iter _ z
    obtain ⟨oL, es, ep, hL, hLd, _⟩ := F.ns
    rw [hL] at ho; cases ho; rw [hd] at hLd; cases hLd
  exact hQ D h' tk vs F' News.nil (Bs.rel R R' Y.2.1) hl hi
end
end Part14

section Part15
theorem fill_in15 : (fun w : World => hd.heap_39 w.params) = (fun w : World => hd.heap_39 w.params) ∧ PySem.Challenge.rw_il0156_01.row = PySem.Challenge.rw_il0156_01.row := by
  k_fill
  exact ⟨rfl, rfl⟩

section
variable {w : World} {hb : Heap} {dp un : Nat} {gd : Option (List Code)} {outer : List Env} {s : Shared} {mean : ExcName → Option Value} {mg mb : Str → Option Value} {Q E : Value → Shared → Prop} {n : Int} {t : Tok} {l : Addr} {rss : List (List Int)}
theorem depth_at {dp un : Nat} {gd : Option (List Code)} {outer : List Env} : (At dp un gd outer).depth = dp := rfl
local macro_rules | `(tactic| walk_at "call type:list") => `(tactic| (refine Hold.out ?_))
local macro_rules | `(tactic| walk_at "call ref") => `(tactic| (refine Hold.out ?_))
local macro_rules | `(tactic| walk_at "subscriptTail") => `(tactic| (k_here; (with_reducible show wpAny _ _ (subscriptTail _ _ (Value.ref _) (Value.int _ _)) _ _ _); (rename Fr _ _ _ _ => kF); k_dflt (refine' item_rows kF ?ka ?kb ?kc ?kd ?ke ?_ ?kz; (case ka => assumption); (case kb => assumption); (case kc => first | omega | exact fmod_lo _ (by omega)); (case kd => first | omega | exact fmod_hi _ (by omega)); (case ke => first | omega | exact Int.lt_of_lt_of_le (fmod_hi _ (by omega)) (by omega)); (case kz => with_unfolding_all rfl); k_whole); intro ra rvs rx rl ri))
local macro_rules | `(tactic| walk_at "call ref") => `(tactic| (k_here; (with_reducible show wpAny _ _ (call (Value.ref 70) _) _ _ _); k_dflt (refine' pair_in ?k1 ?k2 ?k3 ?k4 ?k5 ?k6 ?k7 ?k8 ?k9 ?ka ?kb ?_; (case k1 => k_asm); (case k2 => k_asm); (case k3 => k_asm); (case k4 => k_asm); (case k5 => exact room_of (by assumption)); (case k6 => omega); (case k7 => omega); (case k8 => assumption); (case k9 => assumption); (case ka => omega); (case kb => omega); k_whole); intro ptl pa pb pva pvb ph ptk F' N' pne pl1 pi1 pl2 pi2; (try simp only [List.forall_mem_cons, List.forall_mem_nil, and_true] at pne)))
local macro_rules | `(tactic| walk_at "call ref") => `(tactic| (k_here; (with_reducible show wpAny _ _ (call (Value.ref 63) _) _ _ _); k_dflt (refine' drawn_in ?k1 ?k2 ?k3 ?k4 ?k5 ?k7 ?k8 ?_; (case k1 => k_asm); (case k2 => k_asm); (case k3 => k_asm); (case k4 => k_asm); (case k5 => exact room_of (by assumption)); (case k7 => omega); (case k8 => omega); k_whole); intro dl dvs dh dtk F' N' dlist dints))
local macro_rules | `(tactic| walk_at "binaryOp Mod int int") => `(tactic| (k_here; (with_reducible refine mod8_lit (by with_reducible assumption) ?_)))
local macro_rules | `(tactic| walk_at "call type:list") => `(tactic| (k_here; k_dflt (refine' list_in (dp := _ + 1) ?k1 ?k2 ?k3 ?k4 ?k5 ?_ ?k6; (case k1 => assumption); (case k2 => k_asm); (case k3 => assumption); (case k4 => assumption); (case k5 => (try simp only [depth_at]); omega); (case k6 => exact rfl); k_whole); intro qD qh qtk qvs F' N' qR ql qi))
local macro_rules | `(tactic| walk_at "call ref") => `(tactic| (k_here; (with_reducible show wpAny _ _ (call (Value.ref 58) _) _ _ _); k_dflt (refine' diff_in (dp := _ + 1) ?k1 ?k2 ?k3 ?k4 ?k5 ?k6 ?k7 ?_ ?k8; (case k1 => assumption); (case k2 => k_asm); (case k3 => assumption); (case k4 => first | assumption | exact RA.row (by k_asm) (by assumption) (by assumption) (by assumption)); (case k5 => first | assumption | exact RA.row (by k_asm) (by assumption) (by assumption) (by assumption)); (case k6 => first | exact no_l | exact no_r | assumption); (case k7 => (try simp only [depth_at]); omega); (case k8 => exact rfl); k_whole); intro qD qJ qh qtk qfl F' N' qW qR qY qJ' qT))

theorem made_call (X : (hd.heap_39 w.params).In hb) (T : Top hd.view_39 (looseW hd.view_39 [Str.ofString "filterfalse"]) mean mg mb hb) (S : Stk hb outer s.heap)
    (hd0 : dp + 10 < recursionLimit) (h0 : 0 ≤ n) (h1 : n < 1000000000000) (hR : RowsAt s.heap l rss) (hk0 : 0 < rss.length) (hk1 : rss.length ≤ 100) (hk2 : RowsBnd rss)
    (k : ∀ l vs h' tk, Rel (frs outer) [] s.heap h' → h'.IsList l vs.toArray → IntsAre vs (madeL rss n) → Q (.ref l) { s with heap := h', toks := tk }) :
    wpAny (model PG w) (At dp un gd outer) (call (.ref 77) [.ref l, .int n t]) Q E s := by
  obtain ⟨as, hrows, hlen, hra⟩ := hR
  rw [← hlen] at hk0 hk1
  have hk3 : 0 < (as.length : Int) := by omega
  have h8 : n.fmod 8 = 0 ∨ n.fmod 8 = 1 ∨ n.fmod 8 = 2 ∨ n.fmod 8 = 3 ∨ n.fmod 8 = 4 ∨ n.fmod 8 = 5 ∨ n.fmod 8 = 6 ∨ n.fmod 8 = 7 := by
    have q1 := fmod_lo n (n := 8) (by decide)
    have q2 := fmod_hi n (n := 8) (by decide)
    omega
  refine wpAny_call ?_
  have Xs : (hd.heap_39 w.params).In s.heap := X.keeps S.stays
  have Ts := T.keeps S.stays
  have Xg : (hd.heap_39 w.params).In (hideAll s.heap (frs outer)) := X.keeps (hide_keep S.stays fun b o e => S.notIn e)
  have Tg : Top hd.view_39 (looseW hd.view_39 [Str.ofString "filterfalse"]) mean mg mb (hideAll s.heap (frs outer)) := T.keeps (hide_keep S.stays fun b o e => S.notIn e)
  have hgn : ∀ b o, (hideAll s.heap (frs outer)).get? b = some o → b ∉ frs outer ∧ b ∉ ([] : List Addr) := fun b o e => by
    refine ⟨fun z => ?_, fun z => nomatch z⟩
    rw [hideAll_none _ z] at e; cases e
  have hgh : ∀ b o, (hideAll s.heap (frs outer)).get? b = some o → s.heap.get? b = some o := fun b o e => of_hideAll _ e
  have inG : ∀ {a : Addr} {vs : List Value}, s.heap.IsList a vs.toArray → (hideAll s.heap (frs outer)).IsList a vs.toArray := fun {a vs} ⟨o, ho, hc, nn, hd'⟩ => ⟨o, hideAll_get _ ho (S.notDict ho fun es k q => by rw [hd'] at q; cases q), hc, nn, hd'⟩
  have grows := inG hrows
  have gra : ∀ i a, as[i]? = some a → ∃ vs, (hideAll s.heap (frs outer)).IsList a vs.toArray ∧ IntsAre vs (rss.getD i []) := fun i a e => let ⟨vs, q1, q2⟩ := hra i a e; ⟨vs, inG q1, q2⟩
  generalize hg : hideAll s.heap (frs outer) = g at Xg Tg hgn hgh grows gra
  clear hrows hra inG
  k_dflt (refine' enterH (frs outer) Xs Ts ?k6 ?k7 ?k8 ?k9 ?kB ?_ ?c2 ?c3 ?c4 ?c5)
  case k6 => k_is
  case k7 => k_is
  case k8 => show dp < _; omega
  case k9 => exact BindsTo.of_eq rfl
  case kB => exact locs rfl
  case c2 => exact rfl
  case c3 => exact rfl
  case c4 => exact rfl
  case c5 => decide
  intro L' h₁ eL hk₁ F' N'
  rw [hg] at F' N'
  clear Xs Ts N'
  have hL0 : s.heap.get? L' = none := Heap.get?_none_of_le (by rw [eL]; exact Nat.le_refl _)
  have hLb : hb.get? L' = none := by rw [eL]; exact S.stays.fresh
  obtain ⟨fl, N', hfl, -⟩ := news_all F' (ex := []) News.nil
  rw [List.nil_append] at N'
  have W₀ : Whole g L' h₁ _ fl := ⟨F'.keep, F'.ns, hfl⟩
  have Bs : Bse w mean mg mb hb g s.heap L' outer := ⟨X, T, Xg, Tg, S, hgn, hgh, hL0, hLb⟩
  clear X T hgn hgh
  try dsimp only
  try k_fold
  rcases h8 with hc | hc | hc | hc | hc | hc | hc | hc
  all_goals (
    k_steps
    rename Fr _ _ _ _ => F₁
    rename News _ _ _ _ => N₁
    obtain ⟨-, R₁⟩ := mid_step Bs (Rel.of_keeps hk₁) W₀ F₁ N₁ (fun p hp => by first | exact hp | exact List.mem_cons_of_mem _ hp | exact List.mem_cons_of_mem _ (List.mem_cons_of_mem _ hp))
    first
    | (refine k _ _ _ _ R₁ (by assumption) ?_
       unfold madeL
       rw [hc]
       assumption)
    | (refine Hold.mk ?_
       try dsimp only at R₁
       k_steps
       first
       | (refine k _ _ _ _ (by assumption) (by assumption) ?_
          unfold madeL
          rw [hc, ← hlen]
          assumption)
       | (rename Fr _ _ _ _ => F₁
          rename News _ _ _ _ => N₁
          rename Rel _ _ _ _ => R₂
          rename Whole _ _ _ _ _ => W₂
          rename RA _ _ _ _ _ _ _ _ _ _ => Yb
          obtain ⟨k₃, R₃⟩ := mid_step Bs R₂ W₂ F₁ N₁ (fun p hp => hp)
          have Yb₃ := Yb.store W₂.ns k₃
          refine Hold.mk ?_
          k_dflt (refine diff_in (dp := dp + 1) Bs F₁ R₃ (RA.row F₁ (by assumption) (by assumption) hk2) (RA.row F₁ (by assumption) (by assumption) hk2) no_l (by omega) (fun D₁ J₁ h₄ tk₄ fl₄ F₄ N₄ W₄ R₄ Y₁ hJ₁ T₁ => ?_))
          have Yb₄ := T₁ _ _ _ _ Yb₃ no_r
          have d₁ := Yb₃.apart hJ₁ no_r no_r
          have R₄' := And.intro R₄ trivial
          clear R₄ F₁ N₁
          k_steps
          refine Hold.mk ?_
          k_dflt (refine diff_in (dp := dp + 1) Bs F₄ R₄'.1 Y₁ (RA.row F₄ (by assumption) (by assumption) hk2) no_r (by omega) (fun D₂ J₂ h₅ tk₅ fl₅ F₅ N₅ W₅ R₅ Y₂ hJ₂ T₂ => ?_))
          have Yb₅ := T₂ _ _ _ _ Yb₄ no_r
          have d₂ := Yb₄.apart hJ₂ d₁ no_r
          have R₅' := And.intro R₅ trivial
          clear R₅ F₄ N₄
          k_steps
          refine Hold.mk ?_
          k_dflt (refine diff_in (dp := dp + 1) Bs F₅ R₅'.1 (RA.row F₅ (by assumption) (by assumption) hk2) Y₂ no_l (by omega) (fun D₃ J₃ h₆ tk₆ fl₆ F₆ N₆ W₆ R₆ Y₃ hJ₃ T₃ => ?_))
          have Yb₆ := T₃ _ _ _ _ Yb₅ d₂
          have d₃ := Yb₅.apart hJ₃ no_r d₂
          have R₆' := And.intro R₆ trivial
          clear R₆ F₅ N₅
          k_steps
          refine Hold.mk ?_
          k_dflt (refine diff_in (dp := dp + 1) Bs F₆ R₆'.1 Y₃ Yb₆ (fun b z z' => d₃ b z' z) (by omega) (fun D₄ J₄ h₇ tk₇ fl₇ F₇ N₇ W₇ R₇ Y₄ hJ₄ T₄ => ?_))
          clear F₆ N₆
          k_steps
          refine k _ _ _ _ (by assumption) (by assumption) ?_
          unfold madeL
          rw [hc, ← hlen]
          assumption)))
end
end Part15

section Part16
theorem foldl_keep {α : Type} (p : Int → Bool) (g : Int → α) : ∀ (ks : List Int) (acc : List α), List.foldl (fun (l' : List α) k' => if p k' = true then l' ++ [g k'] else if p k' = false then l' else l') acc ks = acc ++ (ks.filter p).map g
  | [], acc => by simp
  | k :: ks, acc => by
    rw [List.foldl_cons, foldl_keep p g ks]
    cases h : p k with
    | true => simp [List.filter_cons, h]
    | false => simp [List.filter_cons, h]
theorem sum_keep (p : Int → Bool) (g : Int → Int) : ∀ ks : List Int, ((ks.filter p).map g).sum = (ks.map fun k => if p k = true then g k else 0).sum
  | [] => rfl
  | k :: ks => by
    rw [List.filter_cons, List.map_cons, List.sum_cons, ← sum_keep p g ks]
    cases h : p k with
    | true => simp
    | false => simp
theorem pick_eq (W : Int) (ns : List Int) : pick W ns = ns.filter fun k => decide (¬(W.fdiv (2 ^ k.toNat)).fmod 2 = 0) := by
  have : ∀ (ks acc : List Int), List.foldl (fun l' k' => if ¬(W.fdiv (2 ^ k'.toNat)).fmod 2 = 0 then l' ++ [k'] else l') acc ks = acc ++ ks.filter fun k => decide (¬(W.fdiv (2 ^ k.toNat)).fmod 2 = 0) := by
    intro ks
    induction ks with
    | nil => intro acc; simp
    | cons k ks ih =>
      intro acc
      rw [List.foldl_cons, ih, List.filter_cons]
      by_cases h : (W.fdiv (2 ^ k.toNat)).fmod 2 = 0
      · simp [h]
      · simp [h]
  unfold pick
  rw [this]; rfl

def bw (b : Bool) (f : Nat) : Nat := if b = true then 2 ^ f else 0
/-- the number of eight bits -/
def oct (b0 b1 b2 b3 b4 b5 b6 b7 : Bool) : Nat := bw b0 0 + bw b1 1 + bw b2 2 + bw b3 3 + bw b4 4 + bw b5 5 + bw b6 6 + bw b7 7
theorem oct_bits : ∀ b0 b1 b2 b3 b4 b5 b6 b7 : Bool, oct b0 b1 b2 b3 b4 b5 b6 b7 < 256 ∧ (oct b0 b1 b2 b3 b4 b5 b6 b7).testBit 0 = b0 ∧ (oct b0 b1 b2 b3 b4 b5 b6 b7).testBit 1 = b1 ∧ (oct b0 b1 b2 b3 b4 b5 b6 b7).testBit 2 = b2 ∧ (oct b0 b1 b2 b3 b4 b5 b6 b7).testBit 3 = b3 ∧
    (oct b0 b1 b2 b3 b4 b5 b6 b7).testBit 4 = b4 ∧ (oct b0 b1 b2 b3 b4 b5 b6 b7).testBit 5 = b5 ∧ (oct b0 b1 b2 b3 b4 b5 b6 b7).testBit 6 = b6 ∧ (oct b0 b1 b2 b3 b4 b5 b6 b7).testBit 7 = b7 := by decide +kernel

theorem bits_nat (ns : List Int) : ∃ M : Nat, bitsV ns = (M : Int) ∧ M < 256 ∧ ∀ v : Int, 0 ≤ v → v ≤ 7 → M.testBit v.toNat = ns.contains v := by
  refine ⟨oct (ns.contains 0) (ns.contains 1) (ns.contains 2) (ns.contains 3) (ns.contains 4) (ns.contains 5) (ns.contains 6) (ns.contains 7), ?_, (oct_bits _ _ _ _ _ _ _ _).1, fun v h0 h7 => ?_⟩
  · unfold bitsV
    rw [foldl_keep (fun k => ns.any fun x => x == k) (fun k => (2 : Int) ^ k.toNat), List.nil_append, sum_keep]
    have e : ∀ k : Int, (ns.any fun x => x == k) = ns.contains k := fun k => List.any_beq'
    simp only [e]
    rw [show rangeKs 0 ((8 : Int) - 0).toNat = [0, 1, 2, 3, 4, 5, 6, 7] by decide +kernel]
    simp only [List.map_cons, List.map_nil, List.sum_cons, List.sum_nil]
    unfold oct
    generalize ns.contains 0 = c0
    generalize ns.contains 1 = c1
    generalize ns.contains 2 = c2
    generalize ns.contains 3 = c3
    generalize ns.contains 4 = c4
    generalize ns.contains 5 = c5
    generalize ns.contains 6 = c6
    generalize ns.contains 7 = c7
    have h : ∀ (c : Bool) (f : Nat), (if c = true then (2 : Int) ^ f else 0) = ((bw c f : Nat) : Int) := fun c f => by
      cases c <;> simp [bw]
    have t : ((0 : Int).toNat = 0) ∧ ((1 : Int).toNat = 1) ∧ ((2 : Int).toNat = 2) ∧ ((3 : Int).toNat = 3) ∧ ((4 : Int).toNat = 4) ∧ ((5 : Int).toNat = 5) ∧ ((6 : Int).toNat = 6) ∧ ((7 : Int).toNat = 7) := by decide
    obtain ⟨t0, t1, t2, t3, t4, t5, t6, t7⟩ := t
    rw [t0, t1, t2, t3, t4, t5, t6, t7, h, h, h, h, h, h, h, h]
    omega
  · have hv : v = 0 ∨ v = 1 ∨ v = 2 ∨ v = 3 ∨ v = 4 ∨ v = 5 ∨ v = 6 ∨ v = 7 := by omega
    obtain ⟨_, q0, q1, q2, q3, q4, q5, q6, q7⟩ := oct_bits (ns.contains 0) (ns.contains 1) (ns.contains 2) (ns.contains 3) (ns.contains 4) (ns.contains 5) (ns.contains 6) (ns.contains 7)
    rcases hv with rfl | rfl | rfl | rfl | rfl | rfl | rfl | rfl <;> assumption

theorem bit_of (M : Nat) (k : Nat) : decide (¬((M : Int).fdiv (2 ^ k)).fmod 2 = 0) = M.testBit k := by
  rw [Int.fdiv_eq_ediv_of_nonneg _ (by exact Int.pow_nonneg (by decide)), Int.fmod_eq_emod_of_nonneg _ (by decide), Nat.testBit_eq_decide_div_mod_eq]
  have h : ((M : Int) / 2 ^ k) % 2 = ((M / 2 ^ k % 2 : Nat) : Int) := by norm_cast
  rw [h]
  have := Nat.mod_two_eq_zero_or_one (M / 2 ^ k)
  rcases this with q | q <;> rw [q] <;> decide

theorem or_and (x : Nat) : ∀ y : Nat, (x ||| y) = (x ^^^ y) + (x &&& y) := by
  induction x using Nat.strongRecOn with
  | ind x ih =>
    intro y
    by_cases hx : x = 0
    · subst hx; simp
    · have h := ih (x / 2) (by omega) (y / 2)
      have a1 := Nat.or_div_two (a := x) (b := y)
      have a2 := Nat.and_div_two (a := x) (b := y)
      have a3 := Nat.xor_div_two (a := x) (b := y)
      have b1 := Nat.or_mod_two_eq_one (a := x) (b := y)
      have b2 := Nat.and_mod_two_eq_one (a := x) (b := y)
      have b3 := Nat.xor_mod_two_eq_one (a := x) (b := y)
      rw [← a1, ← a2, ← a3] at h
      omega
theorem and_nat (x y : Nat) : Builtin.bitAnd (x : Int) (y : Int) = ((x &&& y : Nat) : Int) := by
  unfold Builtin.bitAnd
  simp
theorem or_nat (x y : Nat) : Builtin.bitOr (x : Int) (y : Int) = ((x ||| y : Nat) : Int) := by
  unfold Builtin.bitOr Builtin.bitAnd Builtin.bitNot
  have h1 : decide (0 ≤ -(x : Int) - 1) = false := by simp; omega
  have h2 : decide (0 ≤ -(y : Int) - 1) = false := by simp; omega
  simp only [h1, h2]
  have e1 : (-(-(x : Int) - 1) - 1).toNat = x := by omega
  have e2 : (-(-(y : Int) - 1) - 1).toNat = y := by omega
  rw [e1, e2]
  omega
theorem xor_nat (x y : Nat) : Builtin.bitXor (x : Int) (y : Int) = ((x ^^^ y : Nat) : Int) := by
  unfold Builtin.bitXor
  rw [or_nat, and_nat, or_and]
  omega

theorem sub_has (a b : List Int) (v : Int) : (sub a b).contains v = (a.contains v && !b.contains v) := by
  unfold sub
  rw [Bool.eq_iff_iff]
  simp [List.mem_filter]
theorem sub_pick {a b : List Int} {M : Nat} (h : ∀ v ∈ a, (!b.contains v) = M.testBit v.toNat) : sub a b = pick (M : Int) a := by
  rw [pick_eq]
  unfold sub
  exact List.filter_congr fun v hv => by rw [h v hv, bit_of]
theorem not_bit {M : Nat} (hM : M < 256) {v : Int} (h0 : 0 ≤ v) (h7 : v ≤ 7) : (255 - M).testBit v.toNat = !M.testBit v.toNat := by
  have := Nat.testBit_two_pow_sub_succ (x := M) (n := 8) hM v.toNat
  rw [show (2 ^ 8 - (M + 1)) = 255 - M by omega] at this
  rw [this]
  have : v.toNat < 8 := by omega
  simp [this]
theorem not_cast {M : Nat} (hM : M < 256) : (255 - (M : Int)) = ((255 - M : Nat) : Int) := by omega

/-- the plain law: what _law_made makes is what _law_told tells -/
theorem made_told (rss : List (List Int)) (n : Int) (hB : RowsBnd rss) (h0 : ∀ v : Int, 0 ≤ v → v ≤ 7 → (rss.getD 0 []).contains v = true) : madeL rss n = toldL rss n := by
  unfold madeL toldL
  dsimp only
  generalize hi1 : ix1 n rss.length = i1
  generalize hi2 : ix2 n rss.length = i2
  have B0 := hB 0
  have B1 := hB i1
  obtain ⟨M1, e1, l1, t1⟩ := bits_nat (rss.getD i1 [])
  obtain ⟨M2, e2, l2, t2⟩ := bits_nat (rss.getD i2 [])
  rw [e1, e2]
  generalize rss.getD 0 [] = r0 at *
  generalize rss.getD i1 [] = r1 at *
  generalize rss.getD i2 [] = r2 at *
  rw [not_cast l1, not_cast l2, and_nat, or_nat, xor_nat, and_nat, or_nat]
  have c0 : ∀ {v}, v ∈ r0 → 0 ≤ v ∧ v ≤ 7 := fun {v} hv => B0.2 v hv
  have c1 : ∀ {v}, v ∈ r1 → 0 ≤ v ∧ v ≤ 7 := fun {v} hv => B1.2 v hv
  split
  · exact sub_pick fun v hv => by rw [not_bit l2 (c0 hv).1 (c0 hv).2, t2 v (c0 hv).1 (c0 hv).2]
  split
  · exact sub_pick fun v hv => by
      rw [Nat.testBit_and, sub_has, t1 v (c1 hv).1 (c1 hv).2, t2 v (c1 hv).1 (c1 hv).2, List.contains_iff_mem.mpr hv]
      cases r2.contains v <;> rfl
  split
  · exact sub_pick fun v hv => by
      rw [Nat.testBit_or, sub_has, sub_has, h0 v (c0 hv).1 (c0 hv).2, t1 v (c0 hv).1 (c0 hv).2, t2 v (c0 hv).1 (c0 hv).2]
      cases r1.contains v <;> cases r2.contains v <;> rfl
  split
  · have : sub (sub r0 (sub (sub r0 r1) r2)) (sub r1 (sub r1 r2)) = sub r0 ((sub (sub r0 r1) r2) ++ (sub r1 (sub r1 r2))) := by
      show List.filter _ (List.filter _ r0) = List.filter _ r0
      rw [List.filter_filter]
      refine List.filter_congr fun v hv => ?_
      rw [List.contains_append, Bool.not_or, Bool.and_comm]
    rw [this]
    exact sub_pick fun v hv => by
      rw [Nat.testBit_xor, List.contains_append, sub_has, sub_has, sub_has, sub_has, h0 v (c0 hv).1 (c0 hv).2, t1 v (c0 hv).1 (c0 hv).2, t2 v (c0 hv).1 (c0 hv).2]
      cases r1.contains v <;> cases r2.contains v <;> rfl
  split
  · exact sub_pick fun v hv => by
      rw [Nat.testBit_and, not_bit l2 (c1 hv).1 (c1 hv).2, t1 v (c1 hv).1 (c1 hv).2, t2 v (c1 hv).1 (c1 hv).2, List.contains_iff_mem.mpr hv]
      rfl
  split
  · exact sub_pick fun v hv => by
      rw [Nat.testBit_or, not_bit l1 (c0 hv).1 (c0 hv).2, sub_has, t1 v (c0 hv).1 (c0 hv).2, t2 v (c0 hv).1 (c0 hv).2]
      cases r1.contains v <;> cases r2.contains v <;> rfl
  · rfl

/-- the rows stay rows -/
def RowOk (r : List Int) : Prop := r.length ≤ 100 ∧ ∀ x ∈ r, 0 ≤ x ∧ x ≤ 7
theorem RowOk.sub {a b : List Int} (h : RowOk a) : RowOk (sub a b) := ⟨Nat.le_trans (sub_len a b) h.1, fun x hx => h.2 x (List.mem_filter.mp hx).1⟩
theorem drawn_ok (n : Int) : RowOk (drawnL n) := by
  unfold drawnL
  refine ⟨?_, fun x hx => ?_⟩
  · rw [List.length_map, rangeKs_length]
    have h2 : (n.fdiv 8).fmod 7 < 7 := fmod_hi _ (by decide)
    omega
  · obtain ⟨k, _, rfl⟩ := List.mem_map.mp hx
    have h1 := fmod_lo ((n.fdiv 8).fdiv (8 ^ k.toNat)) (n := 8) (by decide)
    have h2 := fmod_hi ((n.fdiv 8).fdiv (8 ^ k.toNat)) (n := 8) (by decide)
    omega
theorem made_ok (rss : List (List Int)) (n : Int) (hB : RowsBnd rss) : RowOk (madeL rss n) := by
  unfold madeL
  dsimp only
  split
  · exact RowOk.sub (hB _)
  split
  · exact RowOk.sub (hB _)
  split
  · exact RowOk.sub (hB _)
  split
  · exact RowOk.sub (RowOk.sub (hB _))
  split
  · exact RowOk.sub (hB _)
  split
  · exact RowOk.sub (hB _)
  · exact drawn_ok n
theorem bnd_snoc {rss : List (List Int)} {r : List Int} (hB : RowsBnd rss) (hr : RowOk r) : RowsBnd (rss ++ [r]) := fun i => by
  by_cases h : i < rss.length
  · have := hB i
    rw [List.getD_eq_getElem?_getD, List.getElem?_append_left h, ← List.getD_eq_getElem?_getD]; exact this
  · by_cases h' : i = rss.length
    · subst h'
      simp only [List.getD_eq_getElem?_getD, List.getElem?_append_right (Nat.le_refl _), Nat.sub_self, List.getElem?_cons_zero, Option.getD_some]
      exact hr
    · have : (rss ++ [r])[i]? = none := by rw [List.getElem?_eq_none]; simp; omega
      simp only [List.getD_eq_getElem?_getD, this, Option.getD_none]
      exact ⟨Nat.zero_le _, fun x hx => nomatch hx⟩
/-- the rows that a step grows -/
def growL (f : List (List Int) → Int → List Int) (rss : List (List Int)) (xs : List Int) : List (List Int) := xs.foldl (fun r x => r ++ [f r x]) rss
theorem grow_eq : ∀ (xs : List Int) (rss : List (List Int)), RowsBnd rss → 0 < rss.length → (∀ v : Int, 0 ≤ v → v ≤ 7 → (rss.getD 0 []).contains v = true) → growL madeL rss xs = growL toldL rss xs
  | [], _, _, _, _ => rfl
  | x :: xs, rss, hB, hl, h0 => by
    show growL madeL (rss ++ [madeL rss x]) xs = growL toldL (rss ++ [toldL rss x]) xs
    rw [← made_told rss x hB h0]
    refine grow_eq xs _ (bnd_snoc hB (made_ok rss x hB)) (by simp) fun v a b => ?_
    rw [List.getD_eq_getElem?_getD, List.getElem?_append_left hl, ← List.getD_eq_getElem?_getD]
    exact h0 v a b
end Part16

section Part17
theorem fill_in17 : (fun w : World => hd.heap_39 w.params) = (fun w : World => hd.heap_39 w.params) ∧ PySem.Challenge.rw_il0156_01.row = PySem.Challenge.rw_il0156_01.row := by
  k_fill
  exact ⟨rfl, rfl⟩

def Has0 (rss : List (List Int)) : Prop := ∀ v : Int, 0 ≤ v → v ≤ 7 → (rss.getD 0 []).contains v = true
/-- a step's contract -/
def Step (w : World) (hb : Heap) (st : Addr) (f : List (List Int) → Int → List Int) : Prop := ∀ (dp un : Nat) (gd : Option (List Code)) (outer : List Env) (s : Shared) (n : Int) (t : Tok) (l : Addr) (rss : List (List Int)) (Q E : Value → Shared → Prop),
  Stk hb outer s.heap → dp + 10 < recursionLimit → 0 ≤ n → n < 1000000000000 → RowsAt s.heap l rss → 0 < rss.length → rss.length ≤ 100 → RowsBnd rss →
  (∀ l vs h' tk, Rel (frs outer) [] s.heap h' → h'.IsList l vs.toArray → IntsAre vs (f rss n) → Q (.ref l) { s with heap := h', toks := tk }) → wpAny (model PG w) (At dp un gd outer) (call (.ref st) [.ref l, .int n t]) Q E s

theorem grow_ok {f : List (List Int) → Int → List Int} (hok : ∀ rss n, RowsBnd rss → Has0 rss → 0 < rss.length → RowOk (f rss n)) : ∀ (ys : List Int) (rss : List (List Int)), RowsBnd rss → Has0 rss → 0 < rss.length →
    RowsBnd (growL f rss ys) ∧ Has0 (growL f rss ys) ∧ (growL f rss ys).length = rss.length + ys.length
  | [], rss, a, b, c => ⟨a, b, rfl⟩
  | y :: ys, rss, a, b, c => by
    have := grow_ok hok ys (rss ++ [f rss y]) (bnd_snoc a (hok rss y a b c)) (fun v h1 h2 => by
      rw [List.getD_eq_getElem?_getD, List.getElem?_append_left c, ← List.getD_eq_getElem?_getD]; exact b v h1 h2) (by simp)
    refine ⟨this.1, this.2.1, ?_⟩
    have e : (growL f rss (y :: ys)).length = (growL f (rss ++ [f rss y]) ys).length := rfl
    rw [e, this.2.2]; simp; omega
theorem grow_snoc (f : List (List Int) → Int → List Int) (rss : List (List Int)) (ys : List Int) (x : Int) : growL f rss (ys ++ [x]) = growL f rss ys ++ [f (growL f rss ys) x] := by
  unfold growL
  rw [List.foldl_append]; rfl

/-- the rows as they stand at a turn -/
structure LoopP (g : Heap) (L R lw : Addr) (outer : List Env) (h0 : Heap) (rss : List (List Int)) (m0 : Str → Option Value) (h : Heap) (as : List Addr) (c : Nat) : Prop where
  fr : ∃ u, Fr g L h (fun y => if y = Str.ofString "number" then u else m0 y)
  rel : Rel (frs outer) [] h0 h
  obj : h.get? R = some (listOf (as.map Value.ref).toArray c)
  len : as.length = rss.length
  fst : as[0]? = some lw
  off : ∀ a ∈ as, a ≠ R
  rows : ∀ i a, as[i]? = some a → ∃ vs, h.IsList a vs.toArray ∧ IntsAre vs (rss.getD i [])
theorem start_rows {g h : Heap} {L R a1 a2 lw c c1 c2 : Nat} {t1 t2 t3 t4 t5 : Tok} {fl : List (Addr × Obj)} {m1 : Str → Option Value} {vw : List Value} {r0 : List Int} (F : Fr g L h (fun y => if y = Str.ofString "rows" then some (.ref R) else m1 y))
    (N : News g L h ((R, listOf #[.ref lw, .ref a2, .ref a1] c) :: (a1, listOf #[.int 1 t1, .int 6 t2] c1) :: (a2, listOf #[.int 3 t3, .int 1 t4, .int 3 t5] c2) :: fl)) (gw : g.IsList lw vw.toArray) (hwi : IntsAre vw r0) :
    ∃ (R : Addr) (as : List Addr) (c : Nat), Fr g L h (fun y => if y = Str.ofString "rows" then some (.ref R) else m1 y) ∧ News g L h [] ∧ R ≠ L ∧ g.get? R = none ∧ h.get? R = some (listOf (as.map Value.ref).toArray c) ∧ as.length = 3 ∧ as[0]? = some lw ∧ (∀ a ∈ as, a ≠ R) ∧
      ∀ i a, as[i]? = some a → ∃ vs, h.IsList a vs.toArray ∧ IntsAre vs ([r0, [3, 1, 3], [1, 6]].getD i []) := by
  obtain ⟨r1, r2, r3⟩ := N _ List.mem_cons_self
  obtain ⟨p1, _, _⟩ := N _ (List.mem_cons_of_mem _ List.mem_cons_self)
  obtain ⟨q1, _, _⟩ := N _ (List.mem_cons_of_mem _ (List.mem_cons_of_mem _ List.mem_cons_self))
  refine ⟨R, [lw, a2, a1], c, F, News.nil, r2, r3, r1, rfl, rfl, fun a ha z => ?_, fun i a e => ?_⟩
  · dsimp only at r1 r3 p1 q1
    simp only [List.mem_cons, List.not_mem_nil, or_false] at ha
    rcases ha with rfl | rfl | rfl
    · obtain ⟨o, ho, _⟩ := gw
      rw [z, r3] at ho; cases ho
    · rw [z, r1] at q1; cases q1
    · rw [z, r1] at p1; cases p1
  · match i, e with
    | 0, e => cases e; exact ⟨vw, F.lst gw, hwi⟩
    | 1, e => cases e; exact ⟨_, ⟨_, q1, rfl, _, rfl⟩, .cons _ _ (.cons _ _ (.cons _ _ .nil))⟩
    | 2, e => cases e; exact ⟨_, ⟨_, p1, rfl, _, rfl⟩, .cons _ _ (.cons _ _ .nil)⟩
    | i + 3, e => cases e
/-- what a turn moves is neither the list of the rows nor a row -/
theorem rows_keep {h h' : Heap} {as : List Addr} {rss : List (List Int)} (rows : ∀ i a, as[i]? = some a → ∃ vs, h.IsList a vs.toArray ∧ IntsAre vs (rss.getD i [])) (k : ∀ a ∈ as, ∀ o, h.get? a = some o → o.cls = .type "list" → (∃ it n, o.data = .seq it n) → h'.get? a = some o) :
    ∀ i a, as[i]? = some a → ∃ vs, h'.IsList a vs.toArray ∧ IntsAre vs (rss.getD i []) := fun i a e => by
  obtain ⟨vs, ⟨o, ho, hc, n, hd⟩, hi⟩ := rows i a e
  exact ⟨vs, ⟨o, k a (List.mem_of_getElem? e) o ho hc ⟨_, n, hd⟩, hc, n, hd⟩, hi⟩

section
variable {w : World} {hb : Heap} {dp un : Nat} {gd : Option (List Code)} {outer : List Env} {s : Shared} {mean : ExcName → Option Value} {mg mb : Str → Option Value} {Q E : Value → Shared → Prop} {st lw ln : Addr} {r0 xs : List Int} {f : List (List Int) → Int → List Int} {vw vn : List Value}
local macro_rules | `(tactic| walk_at "exec For Name Name cons nil") => `(tactic| (refine Hold.out ?_))
local macro_rules | `(tactic| walk_at "pyIter ref") => `(tactic| (refine Hold.out ?_))
local macro_rules | `(tactic| walk_at "call builtin:list.append") => `(tactic| (k_here; (with_reducible show wpAny _ _ (call (Value.builtin _) [Value.ref _, _]) _ _ _); k_dflt (refine' append_K ?k1 ?k2 ?k3 ?_ ?z; (case k1 => k_asm); (case k2 => k_asm); (case k3 => exact Upd.head (by assumption)); (case z => assumption); k_whole); intro h' F' N'))
local macro_rules | `(tactic| walk_at "call ref") => `(tactic| (refine Hold.out ?_))

abbrev gEnv (L : Addr) : Env := envOf (Str.ofString "_law_grown") { kind := ScopeKind.function, names := [(Str.ofString "step", NameKind.local), (Str.ofString "whole", NameKind.local), (Str.ofString "numbers", NameKind.local), (Str.ofString "rows", NameKind.local), (Str.ofString "number", NameKind.local)], isGenerator := false, isCoroutine := false } L 94 (Value.ref 93)
abbrev gBody : List Stmt := [Stmt.Expr (.Call (.Attribute (.Name (Str.ofString "rows") ⟨58, 8, 58, 12⟩) (Str.ofString "append") ⟨58, 8, 58, 19⟩) [.Call (.Name (Str.ofString "step") ⟨58, 20, 58, 24⟩) [.Name (Str.ofString "rows") ⟨58, 25, 58, 29⟩, .Name (Str.ofString "number") ⟨58, 31, 58, 37⟩] [] ⟨58, 20, 58, 38⟩] [] ⟨58, 8, 58, 39⟩) ⟨58, 8, 58, 39⟩]
abbrev gM (R ln lw st : Addr) : Str → Option Value := fun y => if y = Str.ofString "rows" then some (.ref R) else List.lookup y [(Str.ofString "numbers", Value.ref ln), (Str.ofString "whole", Value.ref lw), (Str.ofString "step", Value.ref st)]

def LInv (g : Heap) (L R I lw ln : Addr) (outer : List Env) (h0 : Heap) (rss0 : List (List Int)) (m0 : Str → Option Value) (f : List (List Int) → Int → List Int) (xs : List Int) (s : Shared) (k : Nat) (s' : Shared) : Prop :=
  ∃ i h tk as c, s' = { s with heap := h, toks := tk } ∧ i ≤ xs.length ∧ k = xs.length - i ∧ h.IsListIter I ln i ∧ LoopP g L R lw outer h0 (growL f rss0 (xs.take i)) m0 h as c

theorem loop_walk {g h0 : Heap} {L R I : Addr} (Bs : Bse w mean mg mb hb g h0 L outer) (C : Step w hb st f) (hst : st = 77 ∨ st = 87) {rss0 : List (List Int)} (hlen0 : rss0.length = 3) (hb0 : RowsBnd rss0) (hh0 : Has0 rss0)
    (hok : ∀ rss n, RowsBnd rss → Has0 rss → 0 < rss.length → RowOk (f rss n)) (hd0 : dp + 15 < recursionLimit) (gn : g.IsList ln vn.toArray) (hni : IntsAre vn xs) (hxs : ∀ x ∈ xs, 0 ≤ x ∧ x < 1000000000000) (hxl : xs.length ≤ 18)
    (hRL : R ≠ L) (hRg : g.get? R = none) (hR0 : h0.get? R = none) (hIL : I ≠ L) (hIg : g.get? I = none) (hI0 : h0.get? I = none) (hIR : I ≠ R) {as0 : List Addr} {c0 : Nat} (it0 : s.heap.IsListIter I ln 0) (P0 : LoopP g L R lw outer h0 rss0 (gM R ln lw st) s.heap as0 c0) {Rr : Result → Shared → Prop}
    (kont : ∀ h' tk as c, LoopP g L R lw outer h0 (growL f rss0 xs) (gM R ln lw st) h' as c → Rr (.ok .next) { s with heap := h', toks := tk }) :
    codeAny (model PG w) (At dp un gd (gEnv L :: outer)) (.forLoop (.Name (Str.ofString "number") ⟨57, 8, 57, 14⟩) (.ref I) gBody [] (gEnv L)) Rr s := by
  refine codeAny_forLoop (LInv g L R I lw ln outer h0 rss0 (gM R ln lw st) f xs s) ?_ xs.length
    ⟨0, s.heap, s.toks, as0, c0, rfl, Nat.zero_le _, rfl, it0, P0⟩
  rintro k₃ s' ⟨i, h, tk, as, c, rfl, hi, rfl, it, P⟩
  obtain ⟨⟨u, F⟩, rel, hR, hl, hfst, hoff, hrows⟩ := P
  have gl : h.IsList ln vn.toArray := F.lst gn
  have hRf : R ∉ frs outer := new_apart Bs.S hR0
  have hIf : I ∉ frs outer := new_apart Bs.S hI0
  have clsI : ∀ a ∈ as, ∀ o, h.get? a = some o → o.cls = .type "list" → a ≠ I := fun a _ o ho hc z => by
    obtain ⟨oI, hoI, hcI, _⟩ := it
    rw [z, hoI] at ho; cases ho; rw [hcI] at hc; exact absurd hc (by decide)
  have seqL : ∀ {h' : Heap} {m' : Str → Option Value}, h'.Ns L m' → ∀ a o, h'.get? a = some o → (∃ it n, o.data = .seq it n) → a ≠ L := fun {h' m'} hn a o ho hd z => by
    obtain ⟨oL, es, ep, hL, hLd, _⟩ := hn
    obtain ⟨it, n, hd⟩ := hd
    rw [z, hL] at ho; cases ho; rw [hd] at hLd; cases hLd
  have hns := F.ns
  by_cases hlt : i < xs.length
  · obtain ⟨t, hx⟩ := hni.get i xs[i] (by simp [hlt])
    obtain ⟨hx0, hx1⟩ := hxs xs[i] (List.getElem_mem hlt)
    obtain ⟨ok1, ok2, ok3⟩ := grow_ok hok (xs.take i) rss0 hb0 hh0 (by omega)
    have ok3' : (growL f rss0 (xs.take i)).length = 3 + i := by rw [ok3, hlen0, List.length_take]; omega
    have htake : growL f rss0 (xs.take (i + 1)) = growL f rss0 (xs.take i) ++ [f (growL f rss0 (xs.take i)) xs[i]] := by
      rw [List.take_add_one, List.getElem?_eq_getElem hlt, Option.toList_some, grow_snoc]
    obtain ⟨rss, hrss⟩ : ∃ rss, growL f rss0 (xs.take i) = rss := ⟨_, rfl⟩
    rw [hrss] at ok1 ok2 ok3' hl hrows htake
    refine wpAny_pyNext_list_item it gl (x := .int xs[i] t) (by simpa using hx) fun h₃ hit₃ hs₃ => ?_
    have F₃ := F.change hs₃ hIL hIg
    refine wpAny_assign_Name (wpAny_storeName_local (env := gEnv L) rfl F₃.ns (fun h₄ hn₄ hs₄ => ?_) rfl)
    have k34 : ∀ b o, b ≠ I → b ≠ L → h.get? b = some o → h₄.get? b = some o := fun b o n1 n2 e => hs₄.extBut b o n2 (hs₃.extBut b o n1 e)
    have F₄ : Fr g L h₄ (fun y => if y = Str.ofString "number" then some (.int xs[i] t) else gM R ln lw st y) := by
      refine fr_map (m := fun y => if y = Str.ofString "number" then some (.int xs[i] t) else if y = Str.ofString "number" then u else gM R ln lw st y) ⟨hn₄, fun b o e => k34 b o (fun z => by rw [z, hIg] at e; cases e) (fun z => absurd (Heap.lt_size (z ▸ e)) (Nat.not_lt.mpr F.above)) (F.keep b o e), F.above⟩ fun y => ?_
      by_cases hy : y = Str.ofString "number"
      · rw [if_pos hy, if_pos hy]
      · rw [if_neg hy, if_neg hy, if_neg hy]
    have hR₄ := k34 R _ hIR.symm hRL hR
    have N₄ : News g L h₄ [(R, listOf (as.map Value.ref).toArray c)] := fun p hp => by
      rw [List.mem_singleton.mp hp]; exact ⟨hR₄, hRL, hRg⟩
    have rows₄ := rows_keep hrows fun a ha o ho hc hd => k34 a o (clsI a ha o ho hc) (seqL hns a o ho hd) ho
    have neI : ∀ b o, h0.get? b = some o → b ≠ I := fun b o e z => by rw [z, hI0] at e; cases e
    have neL : ∀ b o, h0.get? b = some o → b ≠ L := fun b o e z => by rw [z, Bs.L0] at e; cases e
    have rel₄ : Rel (frs outer) [] h0 h₄ := ⟨fun b o n1 n2 e => k34 b o (neI b o e) (neL b o e) (rel.keep b o n1 n2 e), fun b o n1 e => by
      obtain ⟨sl, hs⟩ := rel.up b o n1 e
      exact ⟨sl, k34 b _ (neI b o e) (neL b o e) hs⟩⟩
    have S₄ := (Bs.S.rel rel₄ fun _ z => nomatch z).push (name := Str.ofString "_law_grown") (a := 94) (cd := .ref 93) F₄.ns Bs.Lb (hk := rfl) (scope := { kind := ScopeKind.function, names := [(Str.ofString "step", NameKind.local), (Str.ofString "whole", NameKind.local), (Str.ofString "numbers", NameKind.local), (Str.ofString "rows", NameKind.local), (Str.ofString "number", NameKind.local)], isGenerator := false, isCoroutine := false })
    have ra₄ : RowsAt h₄ R rss := ⟨as, ⟨_, hR₄, rfl, c, rfl⟩, hl, rows₄⟩
    have it₄ : h₄.IsListIter I ln (i + 1) := hit₃.at fun o e => hs₄.extBut _ o hIL e
    have Xg := Bs.Xg
    have Tg := Bs.Tg
    clear F₃ F
    try dsimp only
    refine wpAny_mono (Q := TurnEnd (LInv g L R I lw ln outer h0 rss0 (gM R ln lw st) f xs s) (xs.length - i) fun fl s' => Rr (.ok fl) s') ?_ (fun fl s' hh => by cases fl <;> exact hh) fun _ _ x => x
    rcases hst with rfl | rfl
    all_goals (
      k_steps
      refine Hold.mk ?_
      refine C dp _ gd (gEnv L :: outer) _ _ _ _ rss _ _ ?hS (by omega) hx0 hx1 ?hra (by omega) (by omega) ok1 fun D vs h₆ tk₆ R₆ hD hDi => ?_
      case hS => exact S₄
      case hra => exact ra₄
      have F₆ := fr_rel F₄ R₆ Bs.gn (fun z => nomatch z)
      have hRf' : R ∉ L :: frs outer := fun z => (List.mem_cons.mp z).elim hRL hRf
      have hR₆ := R₆.keep R _ hRf' (fun z => nomatch z) hR₄
      have NB : News g L h₆ [(R, listOf (as.map Value.ref).toArray c)] := fun p hp => by
        rw [List.mem_singleton.mp hp]; exact ⟨hR₆, hRL, hRg⟩
      obtain ⟨fl, N₆, hfl, hne⟩ := news_all F₆ NB
      have hne' : ∀ p ∈ fl, p.1 ≠ R := fun p hp => hne p hp _ List.mem_cons_self
      rw [List.singleton_append] at N₆
      have kF₆ := F₆.keep
      have ns₆ := F₆.ns
      have hsz : (as.map Value.ref).toArray.size ≤ sizeLine := by rw [sizeLine_eq]; simp; omega
      clear NB N₄ F₄
      k_steps
      rename Fr _ _ _ _ => F₇
      rename News _ _ _ _ => N₇
      have k67 := all_kept kF₆ hfl F₇ N₇ (fun p hp => List.mem_cons_of_mem _ hp)
      have hR₇ := (N₇ _ List.mem_cons_self).1
      have hpush : (as.map Value.ref).toArray.push (Value.ref D) = ((as ++ [D]).map Value.ref).toArray := by simp
      rw [hpush] at hR₇
      have kk := fun b o (n1 : b ≠ L) (n2 : b ≠ R) (e : h₆.get? b = some o) => k67 b o e n1 fun p hp => by rw [List.mem_singleton.mp hp]; exact n2
      obtain ⟨oD, hoD, hcD, nD, hdD⟩ := id hD
      have hDR : D ≠ R := fun z => by
        rw [z, hR₆] at hoD; cases hoD
        have e : (as.map Value.ref).toArray = vs.toArray := by
          have := hdD; simp only [W.listOf, Data.seq.injEq] at this; exact this.1
        have e' : as.map Value.ref = vs := by simpa using congrArg Array.toList e
        cases as with
        | nil => cases hfst
        | cons a as => rw [← e'] at hDi; cases hDi
      have hDL : D ≠ L := seqL ns₆ D oD hoD ⟨_, nD, hdD⟩
      have rows₆ : ∀ i a, as[i]? = some a → ∃ vs, h₆.IsList a vs.toArray ∧ IntsAre vs (rss.getD i []) := fun j a e => by
        obtain ⟨vs', q1, q2⟩ := rows₄ j a e
        exact ⟨vs', isList_rel R₆ q1 (fun z => nomatch z), q2⟩
      have rows₇ := rows_keep rows₆ fun a ha o ho hc hd => kk a o (seqL ns₆ a o ho hd) (hoff a ha) ho
      have hD₇ := kk D oD hDL hDR hoD
      have rel₆ : Rel (frs outer) [] h0 h₆ := Bs.rel rel₄ R₆ fun _ z => nomatch z
      have neR : ∀ b o, h0.get? b = some o → b ≠ R := fun b o e z => by rw [z, hR0] at e; cases e
      obtain ⟨oI, hoI, hI1⟩ := id it₄
      have hI₆ := R₆.keep I oI (fun z => (List.mem_cons.mp z).elim hIL hIf) (fun z => nomatch z) hoI
      refine ⟨xs.length - (i + 1), by omega, i + 1, _, _, as ++ [D], c + 1, rfl, hlt, rfl, ⟨oI, kk I oI hIL hIR hI₆, hI1⟩, ?_⟩
      rw [htake]
      refine ⟨⟨_, F₇⟩, ⟨fun b o n1 n2 e => kk b o (neL b o e) (neR b o e) (rel₆.keep b o n1 n2 e), fun b o n1 e => ?_⟩, hR₇, by simp [hl], ?_, fun a ha => ?_, fun j a e => ?_⟩
      · obtain ⟨sl, hs⟩ := rel₆.up b o n1 e
        exact ⟨sl, kk b _ (neL b o e) (neR b o e) hs⟩
      · rw [List.getElem?_append_left (by rw [hl]; omega)]; exact hfst
      · rcases List.mem_append.mp ha with ha | ha
        · exact hoff a ha
        · rw [List.mem_singleton.mp ha]; exact hDR
      · by_cases hj : j < as.length
        · rw [List.getElem?_append_left hj] at e
          rw [List.getD_eq_getElem?_getD, List.getElem?_append_left (by omega), ← List.getD_eq_getElem?_getD]
          exact rows₇ j a e
        · rw [List.getElem?_append_right (by omega)] at e
          have hj' : j = as.length := by
            by_cases hz : j - as.length = 0
            · omega
            · rw [List.getElem?_eq_none (by simp; omega)] at e; cases e
          subst hj'
          simp only [Nat.sub_self, List.getElem?_cons_zero, Option.some.injEq] at e
          subst e
          rw [hl]
          simp only [List.getD_eq_getElem?_getD, List.getElem?_append_right (Nat.le_refl _), Nat.sub_self, List.getElem?_cons_zero, Option.getD_some]
          exact ⟨vs, ⟨oD, hD₇, hcD, nD, hdD⟩, hDi⟩)
  · have hin : i = xs.length := by omega
    subst hin
    rw [List.take_length] at hrows hl
    have hlv := hni.length
    refine wpAny_pyNext_list_end rfl it gl (by simp; omega) fun h₃ he₃ => wpAny_execs_nil (kont h₃ tk as c ⟨⟨u, ⟨F.ns.at fun o e => he₃ L o hIL.symm e, fun b o e => he₃ b o (fun z => by rw [z, hIg] at e; cases e) (F.keep b o e), F.above⟩⟩, ?_, he₃ R _ hIR.symm hR, hl, hfst, hoff, ?_⟩)
    · have neI : ∀ b o, h0.get? b = some o → b ≠ I := fun b o e z => by rw [z, hI0] at e; cases e
      refine ⟨fun b o n1 n2 e => he₃ b o (neI b o e) (rel.keep b o n1 n2 e), fun b o n1 e => ?_⟩
      obtain ⟨sl, hs⟩ := rel.up b o n1 e
      exact ⟨sl, he₃ b _ (neI b o e) hs⟩
    · exact rows_keep hrows fun a ha o ho hc hd => he₃ a o (clsI a ha o ho hc) ho

theorem loop_start {g h h0 : Heap} {L R c : Nat} {as : List Addr} {rss0 : List (List Int)} {m1 : Str → Option Value} (Bs : Bse w mean mg mb hb g h0 L outer) (F : Fr g L h (fun y => if y = Str.ofString "rows" then some (.ref R) else m1 y))
    (hm : ∀ y, (if y = Str.ofString "rows" then some (.ref R) else m1 y) = (if y = Str.ofString "number" then none else gM R ln lw st y)) (rel : Rel (frs outer) [] h0 h) (hRo : h.get? R = some (listOf (as.map Value.ref).toArray c)) (hal : as.length = rss0.length) (ha0 : as[0]? = some lw) (haR : ∀ a ∈ as, a ≠ R)
    (har : ∀ i a, as[i]? = some a → ∃ vs, h.IsList a vs.toArray ∧ IntsAre vs (rss0.getD i [])) :
    h.objs.size ≠ L ∧ g.get? h.objs.size = none ∧ h0.get? h.objs.size = none ∧ h.objs.size ≠ R ∧ (h.push { cls := .type "list_iterator", data := .fields #[.ref ln, .int 0 0] }).IsListIter h.objs.size ln 0 ∧
      LoopP g L R lw outer h0 rss0 (gM R ln lw st) (h.push { cls := .type "list_iterator", data := .fields #[.ref ln, .int 0 0] }) as c := by
  have nI : h.get? h.objs.size = none := Heap.get?_none_of_le (Nat.le_refl _)
  have k : ∀ b o, h.get? b = some o → (h.push { cls := .type "list_iterator", data := .fields #[.ref ln, .int 0 0] }).get? b = some o := fun b o e => Heap.get?_push_of_some _ e
  refine ⟨Nat.ne_of_gt F.ns.lt, ?_, Bse.nn Bs rel nI, Nat.ne_of_gt (Heap.lt_size hRo), ⟨_, Heap.get?_push_size _ rfl, rfl, rfl⟩, ⟨none, fr_map (F.keeps k) hm⟩, rel.trans (Rel.of_keeps k), k _ _ hRo, hal, ha0, haR, rows_keep har fun a _ o ho _ _ => k _ _ ho⟩
  cases q : g.get? h.objs.size with
  | none => rfl
  | some o => have := F.keep _ _ q; rw [nI] at this; cases this

theorem grown_call (X : (hd.heap_39 w.params).In hb) (T : Top hd.view_39 (looseW hd.view_39 [Str.ofString "filterfalse"]) mean mg mb hb) (S : Stk hb outer s.heap) (C : Step w hb st f) (hst : st = 77 ∨ st = 87)
    (hok : ∀ rss n, RowsBnd rss → Has0 rss → 0 < rss.length → RowOk (f rss n)) (hd0 : dp + 20 < recursionLimit) (hw : s.heap.IsList lw vw.toArray) (hwi : IntsAre vw r0) (hr0 : RowOk r0) (h00 : ∀ v : Int, 0 ≤ v → v ≤ 7 → r0.contains v = true)
    (hn : s.heap.IsList ln vn.toArray) (hni : IntsAre vn xs) (hxs : ∀ x ∈ xs, 0 ≤ x ∧ x < 1000000000000) (hxl : xs.length ≤ 18)
    (k : ∀ (l : Addr) (as : List Addr) h' tk, Rel (frs outer) [] s.heap h' → h'.IsList l (as.map Value.ref).toArray → as[0]? = some lw → as.length = (growL f [r0, [3, 1, 3], [1, 6]] xs).length →
      (∀ i a, as[i]? = some a → ∃ vs, h'.IsList a vs.toArray ∧ IntsAre vs ((growL f [r0, [3, 1, 3], [1, 6]] xs).getD i [])) → Q (.ref l) { s with heap := h', toks := tk }) :
    wpAny (model PG w) (At dp un gd outer) (call (.ref 94) [.ref st, .ref lw, .ref ln]) Q E s := by
  refine wpAny_call ?_
  have Xs : (hd.heap_39 w.params).In s.heap := X.keeps S.stays
  have Ts := T.keeps S.stays
  have Xg : (hd.heap_39 w.params).In (hideAll s.heap (frs outer)) := X.keeps (hide_keep S.stays fun b o e => S.notIn e)
  have Tg : Top hd.view_39 (looseW hd.view_39 [Str.ofString "filterfalse"]) mean mg mb (hideAll s.heap (frs outer)) := T.keeps (hide_keep S.stays fun b o e => S.notIn e)
  have hgn : ∀ b o, (hideAll s.heap (frs outer)).get? b = some o → b ∉ frs outer ∧ b ∉ ([] : List Addr) := fun b o e => by
    refine ⟨fun z => ?_, fun z => nomatch z⟩
    rw [hideAll_none _ z] at e; cases e
  have hgh : ∀ b o, (hideAll s.heap (frs outer)).get? b = some o → s.heap.get? b = some o := fun b o e => of_hideAll _ e
  have inG : ∀ {a : Addr} {vs : List Value}, s.heap.IsList a vs.toArray → (hideAll s.heap (frs outer)).IsList a vs.toArray := fun {a vs} ⟨o, ho, hc, nn, hd'⟩ => ⟨o, hideAll_get _ ho (S.notDict ho fun es k q => by rw [hd'] at q; cases q), hc, nn, hd'⟩
  have gw := inG hw
  have gn := inG hn
  have hga : ∀ b o, s.heap.get? b = some o → b ∉ frs outer → (hideAll s.heap (frs outer)).get? b = some o := fun b o e n => hideAll_get _ e n
  generalize hg : hideAll s.heap (frs outer) = g at Xg Tg hgn hgh hga gw gn
  clear hw hn inG
  k_dflt (refine' enterH (frs outer) Xs Ts ?k6 ?k7 ?k8 ?k9 ?kB ?_ ?c2 ?c3 ?c4 ?c5)
  case k6 => k_is
  case k7 => k_is
  case k8 => show dp < _; omega
  case k9 => exact BindsTo.of_eq rfl
  case kB => exact locs rfl
  case c2 => exact rfl
  case c3 => exact rfl
  case c4 => exact rfl
  case c5 => decide
  intro L' h₁ eL hk₁ F' N'
  rw [hg] at F' N'
  clear Xs Ts N'
  have hL0 : s.heap.get? L' = none := Heap.get?_none_of_le (by rw [eL]; exact Nat.le_refl _)
  have hLb : hb.get? L' = none := by rw [eL]; exact S.stays.fresh
  obtain ⟨fl, N', hfl, -⟩ := news_all F' (ex := []) News.nil
  rw [List.nil_append] at N'
  have W₀ : Whole g L' h₁ _ fl := ⟨F'.keep, F'.ns, hfl⟩
  have Bs : Bse w mean mg mb hb g s.heap L' outer := ⟨X, T, Xg, Tg, S, hgn, hgh, hL0, hLb⟩
  clear X T hgn hgh
  try dsimp only
  try k_fold
  k_steps
  refine Hold.mk ?_
  rename Fr _ _ _ _ => F₁
  rename News _ _ _ _ => N₁
  obtain ⟨-, R₁⟩ := mid_step Bs (Rel.of_keeps hk₁) W₀ F₁ N₁ (fun p hp => List.mem_cons_of_mem _ (List.mem_cons_of_mem _ (List.mem_cons_of_mem _ hp)))
  obtain ⟨R, as0, c0, F₂, N₂, hRL, hRg, hRo, hal, ha0, haR, har⟩ := start_rows F₁ N₁ gw hwi
  clear F₁ N₁ W₀ hfl
  have hLs : ∀ b ∈ frs outer, s.heap.get? b ≠ none := fun b hb z => by
    obtain ⟨_, o, ho, _⟩ := S.frames.mem hb
    rw [z] at ho; cases ho
  have hRs : s.heap.get? R = none := by
    cases q : s.heap.get? R with
    | none => rfl
    | some o =>
      by_cases hm : R ∈ frs outer
      · obtain ⟨o', es, n, ho', hd'⟩ := (S.rel R₁ fun _ z => nomatch z).dicts R hm
        rw [hRo] at ho'; cases ho'; cases hd'
      · have := hga R o q hm; rw [hRg] at this; cases this
  refine wpAny_For ?_
  k_steps
  refine Hold.mk ?_
  have rss3 : ([r0, [3, 1, 3], [1, 6]] : List (List Int)).length = 3 := rfl
  have b3 : RowsBnd [r0, [3, 1, 3], [1, 6]] := fun i => by
    match i with
    | 0 => exact hr0
    | 1 => exact (by decide : ([3, 1, 3] : List Int).length ≤ 100 ∧ ∀ x ∈ ([3, 1, 3] : List Int), 0 ≤ x ∧ x ≤ 7)
    | 2 => exact (by decide : ([1, 6] : List Int).length ≤ 100 ∧ ∀ x ∈ ([1, 6] : List Int), 0 ≤ x ∧ x ≤ 7)
    | i + 3 => exact ⟨Nat.zero_le _, fun x hx => nomatch hx⟩
  obtain ⟨i1, i2, i3, i4, i5, i6⟩ := loop_start (ln := ln) (lw := lw) (st := st) (rss0 := [r0, [3, 1, 3], [1, 6]]) Bs F₂ (fun y => by
    by_cases hy : y = Str.ofString "number"
    · subst hy; rfl
    · rw [if_neg hy]; rfl) R₁ hRo hal ha0 haR har
  refine wpAny_pyIter_list (F₂.lst gn) ?_
  refine loop_walk (dp := dp + 1) (rss0 := [r0, [3, 1, 3], [1, 6]]) Bs C hst rss3 b3 h00 hok (by omega) gn hni hxs hxl hRL hRg hRs i1 i2 i3 i4 i5 i6 fun h' tk as c P => ?_
  show wpAny _ _ (execs _ _) _ _ _
  obtain ⟨⟨u, F₄⟩, rel₄, hR₄, hl₄, hf₄, ho₄, hr₄⟩ := P
  have N₄ : News g L' h' [] := News.nil
  clear F₂ N₂
  k_steps
  exact k _ as _ _ rel₄ ⟨_, hR₄, rfl, c, rfl⟩ hf₄ hl₄ hr₄
end
end Part17

section Part18
def rowD (r : List Int) : PyData := .list (r.map PyData.int)
theorem rowD_eqv : ∀ r : List Int, PyData.eqvAll (r.map PyData.int) (r.map PyData.int) = true
  | [] => by simp [PyData.eqvAll]
  | _ :: r => by simp [PyData.eqvAll, PyData.eqv, rowD_eqv r]
theorem rowsD_eqv : ∀ rss : List (List Int), PyData.eqvAll (rss.map rowD) (rss.map rowD) = true
  | [] => by simp [PyData.eqvAll]
  | r :: rss => by simp [PyData.eqvAll, PyData.eqv, rowD, rowD_eqv r]; exact rowsD_eqv rss
theorem rowsD_lay : ∀ rss : List (List Int), PyData.canLayAll0 (rss.map rowD) = true ∧ PyData.depthAll (rss.map rowD) ≤ 2
  | [] => by simp [PyData.canLayAll0, PyData.depthAll]
  | r :: rss => by
    obtain ⟨a, b⟩ := rowsD_lay rss
    have h1 := canLayAll0_ints r
    have h2 := W.depthAll_ints r
    refine ⟨by simp [PyData.canLayAll0, PyData.canLay0, rowD, h1]; exact a, ?_⟩
    simp only [List.map_cons, PyData.depthAll, rowD, PyData.depth]
    have b' : PyData.depthAll (List.map (fun r => PyData.list (List.map PyData.int r)) rss) ≤ 2 := b
    omega
theorem rowsD_shaped (rss : List (List Int)) : SeqAt.shaped (.list (rss.map rowD)) = true := by
  obtain ⟨a, b⟩ := rowsD_lay rss
  have h2 : PyData.depth (.list (rss.map rowD)) ≤ 64 := by simp only [PyData.depth]; omega
  show (PyData.canLay0 (.list (rss.map rowD)) && decide (PyData.depth (.list (rss.map rowD)) ≤ 64)) = true
  rw [Bool.and_eq_true]
  exact ⟨by simp only [PyData.canLay0]; exact a, decide_eq_true h2⟩
/-- a list of lists of ints stands -/
def RowsL (h : Heap) (l : Addr) (rss : List (List Int)) : Prop := RowsAt h l rss
theorem rows_reads {h : Heap} : ∀ {as : List Addr} {rss : List (List Int)}, as.length = rss.length → (∀ i a, as[i]? = some a → ∃ vs, h.IsList a vs.toArray ∧ IntsAre vs (rss.getD i [])) → ∃ bs, ReadsAll h (as.map Value.ref) (rss.map rowD) bs
  | [], [], _, _ => ⟨_, .nil⟩
  | [], _ :: _, e, _ => by cases e
  | _ :: _, [], e, _ => by cases e
  | a :: as, r :: rss, e, k => by
    obtain ⟨vs, h1, h2⟩ := k 0 a rfl
    obtain ⟨bs, h3⟩ := rows_reads (as := as) (rss := rss) (by simpa using e) fun i b q => k (i + 1) b q
    exact ⟨_, .cons (reads_of_ints h1 h2) h3⟩
theorem rowsL_reads {h : Heap} {l : Addr} {rss : List (List Int)} (x : RowsL h l rss) : ∃ bs, Reads h (.ref l) (.list (rss.map rowD)) bs := by
  obtain ⟨as, ⟨o, ho, hc, n, hd⟩, hl, k⟩ := x
  obtain ⟨bs, r⟩ := rows_reads hl k
  exact ⟨_, .list ho hc hd (by simpa using r)⟩
theorem eq_rows {prog : Program} {w : World} {A : Around} {E : Value → Shared → Prop} {s : Shared} {Q : Value → Shared → Prop} {a b : Addr} {rss rss' : List (List Int)} (ha : RowsL s.heap a rss) (hb : RowsL s.heap b rss') (e : rss = rss') (hu : A.units + 64 < cLine) (h : Q (.bool true) s) :
    wpAny (model prog w) A (compareOp .Eq (.ref a) (.ref b)) Q E s := by
  subst e
  obtain ⟨as, ra⟩ := rowsL_reads ha
  obtain ⟨bs, rb⟩ := rowsL_reads hb
  refine eq_dataH ra rb (rowsD_shaped rss) (rowsD_shaped rss) hu ?_
  rw [PyData.eqv, rowsD_eqv]; exact h
theorem RowsL.rel {fs : List Addr} {h h' : Heap} {l : Addr} {rss : List (List Int)} (x : RowsL h l rss) (R : Rel fs [] h h') : RowsL h' l rss := by
  obtain ⟨as, hl, e, k⟩ := x
  exact ⟨as, isList_rel R hl (fun z => nomatch z), e, fun i a q => let ⟨vs, h1, h2⟩ := k i a q; ⟨vs, isList_rel R h1 (fun z => nomatch z), h2⟩⟩

section
variable {w : World} {hb : Heap} {mean : ExcName → Option Value} {mg mb : Str → Option Value}
theorem step_made (X : (hd.heap_39 w.params).In hb) (T : Top hd.view_39 (looseW hd.view_39 [Str.ofString "filterfalse"]) mean mg mb hb) : Step w hb 77 madeL :=
  fun _ _ _ _ _ _ _ _ _ _ _ S h1 h2 h3 h4 h5 h6 h7 k => made_call X T S h1 h2 h3 h4 h5 h6 h7 k
theorem step_told (X : (hd.heap_39 w.params).In hb) (T : Top hd.view_39 (looseW hd.view_39 [Str.ofString "filterfalse"]) mean mg mb hb) : Step w hb 87 toldL :=
  fun _ _ _ _ _ _ _ _ _ _ _ S h1 h2 h3 h4 h5 h6 h7 k => told_call (X.keeps S.stays) (T.keeps S.stays) S.below h1 h2 h3 h4 h5 h6 h7 fun l vs h' tk hk hl hi => k l vs h' tk (Rel.of_keeps hk) hl hi
theorem told_ok (rss : List (List Int)) (n : Int) (hB : RowsBnd rss) (h0 : Has0 rss) (_ : 0 < rss.length) : RowOk (toldL rss n) := by
  rw [← made_told rss n hB h0]; exact made_ok rss n hB
end

section
variable {w : World} {g : Heap} {L st lw ln un : Nat} {dp : Nat} {gd : Option (List Code)} {s : Shared} {mean : ExcName → Option Value} {mg mb : Str → Option Value} {Q E : Value → Shared → Prop} {m : Str → Option Value} {news : List (Addr × Obj)} {r0 xs : List Int} {f : List (List Int) → Int → List Int} {vw vn : List Value} {env : Env}
/-- the grown rows, called from the law's own frame -/
theorem grown_in (X : (hd.heap_39 w.params).In g) (T : Top hd.view_39 (looseW hd.view_39 [Str.ofString "filterfalse"]) mean mg mb g) (F : Fr g L s.heap m) (N : News g L s.heap news) (C : Step w g st f) (hst : st = 77 ∨ st = 87)
    (hok : ∀ rss n, RowsBnd rss → Has0 rss → 0 < rss.length → RowOk (f rss n)) (hd0 : dp + 20 < recursionLimit) (hw : s.heap.IsList lw vw.toArray) (hwi : IntsAre vw r0) (hr0 : RowOk r0) (h00 : ∀ v : Int, 0 ≤ v → v ≤ 7 → r0.contains v = true)
    (hn : s.heap.IsList ln vn.toArray) (hni : IntsAre vn xs) (hxs : ∀ x ∈ xs, 0 ≤ x ∧ x < 1000000000000) (hxl : xs.length ≤ 18)
    (k : ∀ (l : Addr) h' tk, Fr g L h' m → News g L h' news → RowsL h' l (growL f [r0, [3, 1, 3], [1, 6]] xs) → Rel [L] [] s.heap h' → Q (.ref l) { s with heap := h', toks := tk })
    (hf : env.frame = some L := by rfl) (hk : env.scope.kind = .function := by rfl) : wpAny (model PG w) (At dp un gd [env]) (call (.ref 94) [.ref st, .ref lw, .ref ln]) Q E s := by
  have gL : g.get? L = none := Heap.get?_none_of_le F.above
  have hfs : frs [env] = [L] := by show [env].filterMap (·.frame) = [L]; rw [List.filterMap_cons, hf]; rfl
  have S : Stk g [env] s.heap := ⟨F.keep, .cons (by rw [hk]; decide) hf F.ns gL trivial, fun b hb => by
    rw [hfs] at hb
    obtain ⟨o, es, ep, ho, hd, _⟩ := F.ns
    rw [List.mem_singleton.mp hb]; exact ⟨o, es, ep, ho, hd⟩⟩
  refine grown_call X T S C hst hok hd0 hw hwi hr0 h00 hn hni hxs hxl fun l as h' tk R hl _ he hr => ?_
  have R' : Rel [L] [] s.heap h' := hfs ▸ R
  refine k l h' tk (fr_rel F R' (fun b o e => ⟨(fun z => nomatch z), fun z => nomatch z⟩) (fun z => nomatch z)) (fun p hp => ?_) ⟨as, hl, he, hr⟩ R'
  obtain ⟨h1, h2, h3⟩ := N p hp
  exact ⟨R'.keep _ _ (fun z => h2 (List.mem_singleton.mp z)) (fun z => nomatch z) h1, h2, h3⟩
end

theorem bnd3 {r0 : List Int} (hr0 : RowOk r0) : RowsBnd [r0, [3, 1, 3], [1, 6]] := fun i => by
  match i with
  | 0 => exact hr0
  | 1 => exact (by decide : ([3, 1, 3] : List Int).length ≤ 100 ∧ ∀ x ∈ ([3, 1, 3] : List Int), 0 ≤ x ∧ x ≤ 7)
  | 2 => exact (by decide : ([1, 6] : List Int).length ≤ 100 ∧ ∀ x ∈ ([1, 6] : List Int), 0 ≤ x ∧ x ≤ 7)
  | i + 3 => exact ⟨Nat.zero_le _, fun x hx => nomatch hx⟩
/-- the row of all eight -/
theorem whole_ok (S : Int) : RowOk (List.map (fun k' => (S + 3 * k').fmod 8) (rangeKs 0 ((8 : Int) - 0).toNat)) := by
  refine ⟨by rw [List.length_map, rangeKs_length]; decide, fun x hx => ?_⟩
  obtain ⟨k, _, rfl⟩ := List.mem_map.mp hx
  have h1 := fmod_lo (S + 3 * k) (n := 8) (by decide)
  have h2 := fmod_hi (S + 3 * k) (n := 8) (by decide)
  omega
theorem whole_has (S : Int) (v : Int) (h0 : 0 ≤ v) (h7 : v ≤ 7) : (List.map (fun k' => (S + 3 * k').fmod 8) (rangeKs 0 ((8 : Int) - 0).toNat)).contains v = true := by
  rw [List.contains_iff_mem]
  refine List.mem_map.mpr ⟨(3 * (v - S)) % 8, List.mem_map.mpr ⟨((3 * (v - S)) % 8).toNat, List.mem_range.mpr ?_, ?_⟩, ?_⟩
  · have h : ((8 : Int) - 0).toNat = 8 := by decide
    rw [h]; omega
  · omega
  · show (S + 3 * ((3 * (v - S)) % 8)).fmod 8 = v
    rw [Int.fmod_eq_emod_of_nonneg _ (by decide)]
    omega
theorem nums_ok (ns : List Int) : ∀ x ∈ List.map (fun k' : Int => k'.fmod (10 ^ Int.toNat 12)) (List.take 16 ns) ++ [267, 265], 0 ≤ x ∧ x < 1000000000000 := fun x hx => by
  have e : (10 : Int) ^ Int.toNat 12 = 1000000000000 := by decide
  rcases List.mem_append.mp hx with hx | hx
  · obtain ⟨k, _, rfl⟩ := List.mem_map.mp hx
    rw [e]
    exact ⟨fmod_lo _ (by decide), fmod_hi _ (by decide)⟩
  · simp only [List.mem_cons, List.not_mem_nil, or_false] at hx
    rcases hx with rfl | rfl <;> decide
theorem nums_len (ns : List Int) : (List.map (fun k' : Int => k'.fmod (10 ^ Int.toNat 12)) (List.take 16 ns) ++ [267, 265]).length ≤ 18 := by
  simp; omega
end Part18

section Part19
local macro_rules | `(tactic| walk_at "call ref") => `(tactic| (refine Hold.out ?_))
local macro_rules | `(tactic| walk_at "compareOp Eq ref ref") => `(tactic| (refine Hold.out ?_))
theorem fin : PySem.Challenge.rw_il0156_01.Holds := hd (by
  k_go0
  all_goals try k_fold
  k_steps
  refine Hold.mk ?_
  rename Frag.In _ _ => KX
  rename Top _ _ _ _ _ _ => T
  rename Fr _ _ _ _ => F₁
  rename News _ _ _ _ => N₁
  rename IntsAre _ (List.map _ (rangeKs _ _)) => hw
  rename IntsAre _ (_ ++ _) => hn
  k_dflt (refine grown_in KX T F₁ N₁ (step_made KX T) (.inl rfl) (fun rss n a _ _ => made_ok rss n a) (by decide) (News.isList N₁ (List.Mem.head _)) hw (whole_ok _) (whole_has _) ⟨_, (N₁ _ (List.mem_cons_of_mem _ List.mem_cons_self)).1, rfl, _, rfl⟩ hn (nums_ok _) (nums_len _) (fun l1 h2 tk2 F₂ N₂ R₂ _ => ?_))
  clear F₁ N₁
  k_steps
  refine Hold.mk ?_
  k_dflt (refine grown_in KX T F₂ N₂ (step_told KX T) (.inr rfl) told_ok (by decide) (News.isList N₂ (List.Mem.head _)) hw (whole_ok _) (whole_has _) ⟨_, (N₂ _ (List.mem_cons_of_mem _ List.mem_cons_self)).1, rfl, _, rfl⟩ hn (nums_ok _) (nums_len _) (fun l2 h3 tk3 F₃ N₃ R₃ Rel₃ => ?_))
  have R₂' := R₂.rel Rel₃
  clear F₂ N₂
  k_steps
  refine Hold.mk ?_
  k_dflt (refine eq_rows R₂' R₃ (grow_eq _ _ (bnd3 (whole_ok _)) (Nat.zero_lt_succ _) (whole_has _)) (by units_room) ?_)
  k_steps
  trace_state
  all_goals (try k_data)
  all_goals w_report)
end Part19

end Mine

theorem PySem.Challenge.cw_il0156_01_holds : PySem.Challenge.rw_il0156_01.Holds := by
  exact Mine.fin
