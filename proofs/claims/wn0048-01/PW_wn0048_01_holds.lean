import PyProof.Rows.All
import Wide.All
import OpenK.AllK
import Wide.FinOn
import PyProof.GenRules
import PyProof.GenQ
import PyProof.GenObj
import Lean
import PySem.Challenge.RW_wn0048_01
open PySem PySem.W PyProof.Rows
set_option Elab.async false
set_option maxRecDepth 100000
set_option maxHeartbeats 8000000
namespace Mine
open_top hd for PySem.Challenge.rw_wn0048_01
theorem top_off : hd.heap_39 = hd.heap_39 := by
  w_top off
  rfl
noncomputable abbrev PG : Program := PySem.Challenge.rw_wn0048_01.row.prog
/-- the surroundings of a call, and what it hands back -/
noncomputable def Con (w : World) (f : Addr) (vs : List Value) (news : List (Addr × Obj)) (dk : Nat) (pre : Prop) (Ret : (Value → List (Addr × Obj) → Prop)) : Prop :=
  ∀ (p : Program) (loose : List Str) (mean : ExcName → Option Value) (mg mb : Str → Option Value) (dp un : Nat) (gd : Option (List Code)) (cn : Str) (cs : Scope) (a : Addr) (ccd : Value) (cl : List (Str × Addr)) (outer : List Env) (A₀ : Around) (base h₀ : Heap) (L : Addr) (m : Str → Option Value) (s : Shared)
    (Q E : Value → Shared → Prop),
    Below A₀ base outer h₀ → Fr h₀ L s.heap m → (hd.heap_39 w.params).In h₀ → News h₀ L s.heap news → Top p loose mean mg mb h₀ → cs.kind = .function → dp + dk < recursionLimit → un + 8 * dk + 1000 < cLine → pre →
    (∀ v tl h' tk', Ret v tl → Fr h₀ L h' m → News h₀ L h' (tl ++ news) → Q v { s with heap := h', toks := tk' }) →
    wpAny (model PG w) (ktrTop dp un gd cn cs L a ccd cl outer) (call (.ref f) vs) Q E s
section
variable {prog : Program} {w : World} {A A₀ : Around} {s : Shared} {K : Frag} {L : Addr} {h₀ base : Heap} {m mg mb : Str → Option Value} {news : List (Addr × Obj)} {p : Program} {loose : List Str} {mean : ExcName → Option Value}
/-- a def is entered: its bindings told, the tokens' number a letter -/
theorem enterT (binds : List (Str × Value)) {env : Env} {outer : List Env} {E : Value → Shared → Prop} {Q : Value → Shared → Prop} {name qual : Str} {params : Arguments} {body : List Stmt} {scope : Scope} {dV kV doc pm cdv ct oc : Value} {an od : Option Addr} {osl : Array (Option Value)} {f : Addr} {pos : List Value}
    (B : Below A₀ base outer h₀) (F : Fr h₀ L s.heap m) (X₀ : K.In h₀) (N : News h₀ L s.heap news) (T : Top p loose mean mg mb h₀) (hA : A.frames = some (env :: outer)) (hf : env.frame = some L) (hke : env.scope.kind = .function)
    (ho : K.lookup f = some ⟨oc, od, .func (fnOf name qual params body scope dV kV doc pm an cdv ct), osl⟩) (hcd : codeIn K cdv qual = true) (hroom : A.depth < recursionLimit)
    (hbind : BindsTo s (fnOf name qual params body scope dV kV doc pm an cdv ct) ⟨pos, []⟩ binds) (hloc : ∀ y ∈ binds, scope.names.lookup y.1 = some .local)
    (h : ∀ g L' h₁ tk, Fr h₀ L g m → Fr g L' h₁ (fun y => binds.reverse.lookup y) → News g L' h₁ news → Below A base (env :: outer) g → K.In g → Top p loose mean mg mb g →
      wpAny (model prog w) (A.deeper (envOf qual scope L' f cdv)) (execs body (envOf qual scope L' f cdv))
        (fun fl s' => LeaveK h₀ L m g (fun r s' => match r with | .ok (.ret v) => Q v s' | .ok _ => False | .error e => E e s') (match fl with | .ret v => v | _ => .none) s')
        (fun e s' => wpAny (model prog w) (A.deeper (envOf qual scope L' f cdv)) (leaving (envOf qual scope L' f cdv) e) (fun _ s'' => E e s'') (fun e' s'' => E e' s'') s')
        { s with heap := h₁, toks := tk })
    (hco : scope.isCoroutine = false) (hgen : scope.isGenerator = false) (hk : scope.kind = .function)
    (hcell : ∀ x ∈ scope.names, x.2 ≠ .cell) : wpAny (model prog w) A (call (.ref f) pos) Q E s :=
  wpAny_call (code_def B F X₀ N T hA hf hke ho hcd hroom hbind hloc (fun g L' h₁ FG F' N' B' X' T' => h g L' h₁ _ FG F' N' B' X' T') hco hgen hk hcell)
theorem enter2 (n1 n2 : Str) {v1 v2 : Value} {env : Env} {outer : List Env} {E : Value → Shared → Prop} {Q : Value → Shared → Prop} {name qual : Str} {params : Arguments} {body : List Stmt} {scope : Scope} {dV kV doc pm cdv ct oc : Value} {an od : Option Addr} {osl : Array (Option Value)} {f : Addr} 
    (B : Below A₀ base outer h₀) (F : Fr h₀ L s.heap m) (X₀ : K.In h₀) (N : News h₀ L s.heap news) (T : Top p loose mean mg mb h₀) (hA : A.frames = some (env :: outer)) (hf : env.frame = some L) (hke : env.scope.kind = .function)
    (ho : K.lookup f = some ⟨oc, od, .func (fnOf name qual params body scope dV kV doc pm an cdv ct), osl⟩) (hcd : codeIn K cdv qual = true) (hroom : A.depth < recursionLimit)
    (hbind : BindsTo s (fnOf name qual params body scope dV kV doc pm an cdv ct) ⟨[v1, v2], []⟩ [(n1, v1), (n2, v2)]) (hloc : ∀ y ∈ [(n1, v1), (n2, v2)], scope.names.lookup y.1 = some .local)
    (h : ∀ g L' h₁ tk, Fr h₀ L g m → Fr g L' h₁ (fun y => [(n1, v1), (n2, v2)].reverse.lookup y) → News g L' h₁ news → Below A base (env :: outer) g → K.In g → Top p loose mean mg mb g →
      wpAny (model prog w) (A.deeper (envOf qual scope L' f cdv)) (execs body (envOf qual scope L' f cdv))
        (fun fl s' => LeaveK h₀ L m g (fun r s' => match r with | .ok (.ret v) => Q v s' | .ok _ => False | .error e => E e s') (match fl with | .ret v => v | _ => .none) s')
        (fun e s' => wpAny (model prog w) (A.deeper (envOf qual scope L' f cdv)) (leaving (envOf qual scope L' f cdv) e) (fun _ s'' => E e s'') (fun e' s'' => E e' s'') s')
        { s with heap := h₁, toks := tk })
    (hco : scope.isCoroutine = false) (hgen : scope.isGenerator = false) (hk : scope.kind = .function)
    (hcell : ∀ x ∈ scope.names, x.2 ≠ .cell) : wpAny (model prog w) A (call (.ref f) [v1, v2]) Q E s :=
  enterT [(n1, v1), (n2, v2)] B F X₀ N T hA hf hke ho hcd hroom hbind hloc h hco hgen hk hcell
end
theorem nameL {M : Model} {A : Around} {E : Value → Shared → Prop} {s : Shared} {h₀ : Heap} {L a : Addr} {m : Str → Option Value} {cn : Str} {cs : Scope} {ccd : Value} {cl : List (Str × Addr)} {x : Str} {pos : Pos} {v : Value} {Q : Value → Shared → Prop}
    (hx : some NameKind.local = (envX cn cs L a ccd cl).kindOf x) (F : Fr h₀ L s.heap m) (hv : some v = m x) (hk : ScopeKind.function = cs.kind) (hd : (x == ("__debug__" : Str)) = false) (h : Q v s) :
    wpAny M A (eval (.Name x pos) (envX cn cs L a ccd cl)) Q E s := nameX_L F hv.symm h hk.symm hx.symm hd
theorem gen_toks {α : Type} {M : Model} {A : Around} {t : Sem α} {Q : α → Shared → Prop} {E : Value → Shared → Prop} {h : Heap} {g : Array GenState} {d : Drawn} {x : Nat} {os : OsState}
    (H : ∀ tk, wpAny M A t Q E ⟨h, g, d, tk, os⟩) : wpAny M A t Q E ⟨h, g, d, x + 1, os⟩ := H _
theorem ne_below {l : List (Addr × Obj)} {d : Addr} (h : ∀ p ∈ l, p.1 < d) : ∀ p ∈ l, p.1 ≠ d := fun p hp => Nat.ne_of_lt (h p hp)
local macro_rules | `(tactic| walk_at "eval Name") => `(tactic| (k_here; k_dflt (refine' nameL ?a ?F ?v ?k ?b ?_; (case a => exact rfl); (case F => k_asm); (case k => exact rfl); (case b => exact rfl); (case v => exact rfl); k_whole)))
local macro_rules | `(tactic| walk_at "execs cons") => `(tactic| (k_here; (with_reducible refine gen_toks ?_); intro tk))
local macro_rules | `(tactic| walk_at "execs nil") => `(tactic| (k_here; (with_reducible refine gen_toks ?_); intro tk))
local macro_rules | `(tactic| walk_at "call type:range") => `(tactic| (k_here; first
  | ((with_reducible refine' range1_rows ?zF ?zN ?_); (case zF => k_asm); (case zN => k_asm); intro _ _ _ _ _ _ _ _ _)
  | ((with_reducible refine' range2_rows ?zF ?zN ?_); (case zF => k_asm); (case zN => k_asm); intro _ _ _ _ _ _ _ _ _)))
local macro_rules | `(tactic| kst_facts1) => `(tactic| first | exact True.intro | with_reducible exact IntsAre.nil | (with_reducible assumption))
local macro_rules | `(tactic| walk_at "pyIter ref") => `(tactic| (k_here; k_extra "pyIter ref"))
local macro_rules | `(tactic| k_all) => `(tactic| with_reducible exact ne_below (by with_reducible assumption))
local macro_rules | `(tactic| walk_at "exec For Name Call cons nil") => `(tactic| (k_here; k_extra "gen for"))
local macro_rules | `(tactic| walk_at "call ref") => `(tactic| (k_here; k_extra "gen call"))
local macro_rules | `(tactic| walk_at "subscriptTail") => `(tactic| (k_here; k_extra "my sub"))
local macro_rules | `(tactic| walk_at "call builtin:str.join") => `(tactic| (k_here; k_extra "my join"))
local macro_rules | `(tactic| walk_at "call type:int") => `(tactic| (k_here; k_extra "my int"))
local macro_rules | `(tactic| walk_at "InvEndN") => `(tactic| k_dflt kst_close)
section
/-! texts as lists of their signs' numbers -/
noncomputable abbrev Lt (x : Str) : List Nat := x.cps.toList
theorem Lt_len (x : Str) : (Lt x).length = x.length := Array.length_toList
theorem Lt_app (x y : Str) : Lt (x ++ y) = Lt x ++ Lt y := by
  show (x.cps ++ y.cps).toList = _
  rw [Array.toList_append]
theorem Lt_inj {x y : Str} (h : Lt x = Lt y) : x = y := by
  obtain ⟨a⟩ := x
  obtain ⟨b⟩ := y
  have : a = b := Array.ext' h
  rw [this]
theorem Lt_mk (l : List Nat) : Lt ⟨l.toArray⟩ = l := rfl
theorem Lt_beq (x y : Str) : (x == y) = decide (Lt x = Lt y) := by
  by_cases h : x = y
  · subst h; simp
  · have : Lt x ≠ Lt y := fun e => h (Lt_inj e)
    simp [h, this]
theorem Lt_item {x : Str} {i : Int} (h0 : 0 ≤ i) (h1 : i < (x.length : Int)) : Lt (Txt.item x i) = [(Lt x).getD i.toNat 0] := by
  have hi : i.toNat < x.length := by omega
  show [((seqIndex? i x.length).bind (x.cps[·]?)).getD 0] = _
  have e : seqIndex? i x.length = some i.toNat := by
    unfold seqIndex?
    simp [h0, h1, Int.not_lt.mpr h0]
  rw [e]
  simp [List.getD_eq_getElem?_getD, Array.getElem?_toList]
theorem Lt_itemN {x : Str} {i : Int} (h0 : i < 0) (h1 : -(x.length : Int) ≤ i) : Lt (Txt.item x i) = [(Lt x).getD (i + x.length).toNat 0] := by
  show [((seqIndex? i x.length).bind (x.cps[·]?)).getD 0] = _
  have e : seqIndex? i x.length = some (i + x.length).toNat := by
    unfold seqIndex?
    have a : 0 ≤ i + x.length := by lia
    simp only [h0, if_true, a]
    simp; lia
  rw [e]
  simp [List.getD_eq_getElem?_getD, Array.getElem?_toList]
theorem clip_le (n : Nat) (i : Int) : clipAt n i ≤ n := by
  have := clipAt_cast n i
  omega
theorem toNat_sub2 {n k : Nat} (h : k + 2 ≤ n) : ((n : Int) - 1 - (k : Int) - 1).toNat = n - 1 - (k + 1) := by
  obtain ⟨d, rfl⟩ := Nat.exists_eq_add_of_le h
  have e : ((k + 2 + d : Nat) : Int) - 1 - (k : Int) - 1 = (d : Int) := by omega
  rw [e, Int.toNat_natCast]
  omega
theorem cnt_len {n : Nat} {c : Int} (h : n = c.toNat) (h1 : 1 ≤ c) : (c - 1).toNat = n - 1 := by
  obtain ⟨m, hm⟩ := Int.eq_ofNat_of_zero_le (Int.sub_nonneg_of_le h1)
  have hc : c = (m : Int) + 1 := by omega
  subst h hc
  rw [Int.add_sub_cancel]
  rfl
theorem Lt_slice (x : Str) (lo hi : Option Int) : Lt (Txt.slice x lo hi) = ((Lt x).drop (lo.elim 0 (clipAt x.length))).take (hi.elim x.length (clipAt x.length) - lo.elim 0 (clipAt x.length)) := by
  have e : Builtin.Str.strSliceIndices lo hi 1 x.length = (List.range (hi.elim x.length (clipAt x.length) - lo.elim 0 (clipAt x.length))).map ((lo.elim 0 (clipAt x.length)) + ·) := by
    rw [← sliceRange_one]
    unfold Builtin.Str.strSliceIndices
    cases lo <;> cases hi <;> simp [clipAt_cast]
  have e2 : ((Builtin.Str.strSliceIndices lo hi 1 x.length).filterMap (x.cps[·]?)) = ((Lt x).drop (lo.elim 0 (clipAt x.length))).take (hi.elim x.length (clipAt x.length) - lo.elim 0 (clipAt x.length)) := by
    rw [e]; exact pick_run _ _ _
  have ha : lo.elim 0 (clipAt x.length) ≤ x.length := by cases lo <;> simp [clip_le]
  have hb : hi.elim x.length (clipAt x.length) ≤ x.length := by cases hi <;> simp [clip_le]
  unfold Txt.slice
  split
  · rename_i h
    simp only [Bool.and_eq_true, beq_iff_eq] at h
    have hl := h.2
    rw [e, List.length_map, List.length_range] at hl
    have hx := Lt_len x
    have a0 : lo.elim 0 (clipAt x.length) = 0 ∨ x.length = 0 := by lia
    have bn : hi.elim x.length (clipAt x.length) - lo.elim 0 (clipAt x.length) = x.length := hl
    rw [bn]
    rcases a0 with a0 | a0
    · rw [a0, List.drop_zero, List.take_of_length_le (Nat.le_of_eq hx)]
    · have : Lt x = [] := List.eq_nil_of_length_eq_zero (by rw [hx, a0])
      rw [this]; simp
  · rw [Lt_mk, e2]
theorem Lt_upto {x : Str} {j : Int} (h : 0 ≤ j) : Lt (Txt.slice x none (some j)) = (Lt x).take j.toNat := by
  obtain ⟨n, rfl⟩ := Int.eq_ofNat_of_zero_le h
  rw [Lt_slice]
  simp only [Option.elim, clipAt_nat, List.drop_zero, Nat.sub_zero, Int.toNat_natCast]
  rw [← Lt_len x, Nat.min_comm, List.take_eq_take_iff]
  lia
theorem Lt_from {x : Str} {i : Int} (h : 0 ≤ i) : Lt (Txt.slice x (some i) none) = (Lt x).drop i.toNat := by
  obtain ⟨n, rfl⟩ := Int.eq_ofNat_of_zero_le h
  rw [Lt_slice]
  simp only [Option.elim, clipAt_nat, Int.toNat_natCast]
  have hx := Lt_len x
  rcases Nat.le_total n x.length with q | q
  · rw [Nat.min_eq_left q, List.take_of_length_le (by simp [hx])]
  · rw [Nat.min_eq_right q, List.drop_of_length_le (by lia), List.drop_of_length_le (by lia)]; simp
theorem Lt_uptoN {x : Str} {j : Int} (h : j < 0) : Lt (Txt.slice x none (some j)) = (Lt x).take (x.length - (-j).toNat) := by
  obtain ⟨n, rfl⟩ : ∃ n : Nat, j = -(n : Int) := ⟨(-j).toNat, by lia⟩
  rw [Lt_slice]
  simp only [Option.elim, clipAt_neg _ n (by lia), List.drop_zero, Nat.sub_zero, Int.neg_neg, Int.toNat_natCast]
theorem Lt_fromN {x : Str} {i : Int} (h : i < 0) : Lt (Txt.slice x (some i) none) = (Lt x).drop (x.length - (-i).toNat) := by
  obtain ⟨n, rfl⟩ : ∃ n : Nat, i = -(n : Int) := ⟨(-i).toNat, by lia⟩
  rw [Lt_slice]
  simp only [Option.elim, clipAt_neg _ n (by lia), Int.neg_neg, Int.toNat_natCast]
  rw [List.take_of_length_le (by rw [List.length_drop, Lt_len]; lia)]
theorem Lt_run {x : Str} {i j : Int} (h : 0 ≤ i) (h2 : 0 ≤ j) : Lt (Txt.slice x (some i) (some j)) = ((Lt x).take j.toNat).drop i.toNat := by
  obtain ⟨n, rfl⟩ := Int.eq_ofNat_of_zero_le h
  obtain ⟨m, rfl⟩ := Int.eq_ofNat_of_zero_le h2
  rw [Lt_slice]
  simp only [Option.elim, clipAt_nat, Int.toNat_natCast]
  have hx := Lt_len x
  rw [List.drop_take]
  rcases Nat.le_total n x.length with q | q
  · rw [Nat.min_eq_left q, List.take_eq_take_iff, List.length_drop, hx, Nat.sub_min_sub_right, Nat.min_assoc, Nat.min_self, ← Nat.sub_min_sub_right]
  · rw [Nat.min_eq_right q, List.drop_of_length_le (by lia), List.drop_of_length_le (by lia)]; simp
theorem getD_get {l : List Nat} {n : Nat} (h : n < l.length) : l.getD n 0 = l[n] := by simp [List.getD_eq_getElem?_getD, h]
end
section
theorem map_put {nm : Str} {m m' : Str → Option Value} {v : Option Value} (a : m' nm = v) (b : ∀ z, z ≠ nm → m' z = m z) : m' = fun y => if y = nm then v else m y := by
  funext y
  by_cases h : y = nm
  · rw [if_pos h, h, a]
  · rw [if_neg h, b y h]
section
variable {prog : Program} {w : World} {A : Around} {E : Value → Shared → Prop} {s : Shared} {h₀ : Heap} {L : Addr}
/-- an item of a list of ints, from its end -/
theorem sub_neg_ints {value slice : PySem.Expr} {l : Addr} {vs : List Value} {ns : List Int} {k : Int} {u : Tok} {Q : Value → Shared → Prop} (hl : s.heap.IsList l vs.toArray) (hi : IntsAre vs ns) (h0 : k < 0) (h1 : -(ns.length : Int) ≤ k) (hf : -(2 ^ 63) ≤ k)
    (h : ∀ t, Q (.int (ns.getD (k + ns.length).toNat 0) t) s)
    (hs : subscripted slice false (.ref l) (.int k u) = operate [.ref l, .int k u] (getItem (.ref l) (.int k u)) := by with_unfolding_all rfl) :
    wpAny (model prog w) A (subscriptTail value slice (.ref l) (.int k u)) Q E s := by
  have hlt : (k + ns.length).toNat < ns.length := by lia
  obtain ⟨t, ht⟩ := hi.get (k + ns.length).toNat _ (List.getElem?_eq_getElem hlt)
  have e : ns.getD (k + ns.length).toNat 0 = ns[(k + ns.length).toNat] := by simp [List.getD_eq_getElem?_getD, hlt]
  refine tail_any hl.typeIs slot_list_getitem.lookup (wpAny_getItem_list_neg hl h0 (by simpa [hi.length] using h1) hf ?_ (h t)) hs
  rw [e]
  simpa [hi.length] using ht
/-- an item of a list of ints -/
theorem sub_pos_ints {value slice : PySem.Expr} {l : Addr} {vs : List Value} {ns : List Int} {k : Int} {u : Tok} {Q : Value → Shared → Prop} (hl : s.heap.IsList l vs.toArray) (hi : IntsAre vs ns) (h0 : 0 ≤ k) (h1 : k < (ns.length : Int)) (hf : k < 2 ^ 63)
    (h : ∀ t, Q (.int (ns.getD k.toNat 0) t) s)
    (hs : subscripted slice false (.ref l) (.int k u) = operate [.ref l, .int k u] (getItem (.ref l) (.int k u)) := by with_unfolding_all rfl) :
    wpAny (model prog w) A (subscriptTail value slice (.ref l) (.int k u)) Q E s := by
  have hlt : k.toNat < ns.length := by lia
  obtain ⟨t, ht⟩ := hi.get k.toNat _ (List.getElem?_eq_getElem hlt)
  have e : ns.getD k.toNat 0 = ns[k.toNat] := by simp [List.getD_eq_getElem?_getD, hlt]
  refine tail_any hl.typeIs slot_list_getitem.lookup (wpAny_getItem_list hl h0 hf ?_ (h t)) hs
  rw [e]
  simpa using ht
theorem isList_of {l : Addr} {vs : List Value} {c : Nat} {news : List (Addr × Obj)} {h : Heap} (N : News h₀ L h news) (hm : (l, listOf vs.toArray c) ∈ news) : h.IsList l vs.toArray := News.isList N hm

/-- a while whose turn stores one list of ints anew under a name -/
noncomputable def LstTurn (h₀ : Heap) (L : Addr) (s : Shared) (nm : Str) (m : Str → Option Value) (keep : List (Addr × Obj)) (P : List Int → Prop) (k : Nat) (f : Flow) (s₃ : Shared) : Prop :=
  f = .next ∧ ∃ h' tk l' vs' c' row' m' news', s₃ = { s with heap := h', toks := tk } ∧ Fr h₀ L h' m' ∧ News h₀ L h' news' ∧ (l', listOf (List.toArray vs') c') ∈ news' ∧ (∀ p ∈ keep, p ∈ news') ∧ m' nm = some (.ref l') ∧ (∀ z, z ≠ nm → m' z = m z) ∧ IntsAre vs' row' ∧ row'.length < k ∧ P row'
theorem LstTurn.intro {s : Shared} {nm : Str} {m : Str → Option Value} {keep : List (Addr × Obj)} {P : List Int → Prop} {k : Nat} {h' : Heap} {tk : Nat} {l' : Addr} {vs' : List Value} {c' : Nat} {row' : List Int} {m' : Str → Option Value} {news' : List (Addr × Obj)}
    (F : Fr h₀ L h' m') (N : News h₀ L h' news') (h1 : (l', listOf (List.toArray vs') c') ∈ news') (h2 : ∀ p ∈ keep, p ∈ news') (h3 : m' nm = some (.ref l')) (h4 : ∀ z, z ≠ nm → m' z = m z) (h5 : IntsAre vs' row') (h6 : row'.length < k) (h7 : P row') :
    LstTurn h₀ L s nm m keep P k .next { s with heap := h', toks := tk } := ⟨rfl, h', tk, l', vs', c', row', m', news', rfl, F, N, h1, h2, h3, h4, h5, h6, h7⟩
theorem While_lst (nm : Str) (keep : List (Addr × Obj)) (P : List Int → Prop) {env : Env} {test : PySem.Expr} {body : List Stmt} {pos : Pos} {m : Str → Option Value} {news : List (Addr × Obj)} {l : Addr} {vs : List Value} {c : Nat} {row : List Int} {Q : Flow → Shared → Prop}
    (F : Fr h₀ L s.heap m) (N : News h₀ L s.heap news) (hm : m nm = some (.ref l)) (hl : (l, listOf vs.toArray c) ∈ news) (hk : ∀ p ∈ keep, p ∈ news) (hi : IntsAre vs row) (hP : P row)
    (turn : ∀ l vs c row h tk, Fr h₀ L h (fun y => if y = nm then some (.ref l) else m y) → News h₀ L h ((l, listOf (List.toArray vs) c) :: keep) → IntsAre vs row → P row →
      wpAny (model prog w) A (isTrue test env (eval test env)) (fun b s₂ => if b = true then wpAny (model prog w) A (execs body env) (LstTurn h₀ L s nm m keep P row.length) E s₂ else Q .next s₂) E { s with heap := h, toks := tk })
    (hE : PassesOwn (model prog w) A env E := by passes_own) :
    wpAny (model prog w) A (exec (.While test body [] pos) env) Q E s := by
  refine While_inv2 (fun n m₁ news₁ => ∃ l vs c row, news₁ = (l, listOf (List.toArray vs) c) :: keep ∧ m₁ = (fun y => if y = nm then some (.ref l) else m y) ∧ IntsAre vs row ∧ P row ∧ row.length = n) (n₀ := row.length) (m := fun y => if y = nm then some (.ref l) else m y) (news := (l, listOf vs.toArray c) :: keep)
    (by rw [← map_put hm fun _ _ => rfl]; exact F) (fun p hp => ?_) ⟨l, vs, c, row, rfl, rfl, hi, hP, rfl⟩ ?_ hE
  · rcases List.mem_cons.mp hp with rfl | hp
    · exact N _ hl
    · exact N _ (hk p hp)
  · rintro n m₁ news₁ h₁ tk₁ F₁ N₁ ⟨l, vs, c, row, rfl, rfl, hi, hP, rfl⟩
    refine wpAny_mono (turn l vs c row h₁ tk₁ F₁ N₁ hi hP) (fun b s₂ hb => ?_) fun _ _ e => e
    cases b with
    | false => exact hb
    | true =>
      refine wpAny_mono hb (fun f s₃ h₃ => ?_) fun _ _ e => e
      obtain ⟨rfl, h', tk, l', vs', c', row', m', news', rfl, F', N', h1, h2, h3, h4, h5, h6, h7⟩ := h₃
      refine ⟨h', tk, _, _, row'.length, rfl, (by rw [← map_put h3 h4]; exact F'), (fun p hp => ?_), h6, l', vs', c', row', rfl, rfl, h5, h7, rfl⟩
      rcases List.mem_cons.mp hp with rfl | hp
      · exact N' _ h1
      · exact N' _ (h2 p hp)
end
end
section
section
variable {prog : Program} {w : World} {A : Around} {R : GenEnd} {Y : Protocol} {n : Nat} {s₀ : Shared} {c : Code} {fs : List Frame} {s : Shared} {env : Env}
  {K : Flow → Sem Fin} {H : Value → Sem Fin} {gd : Bool → Bool} {lv : List Value → List Value}

theorem seg_If {test : PySem.Expr} {body orelse : List Stmt} {pos : Pos}
    (h : wpAny (model prog w) (A.over c fs) (isTrue test env (eval test env)) (fun b s' => if b = true then Seg (model prog w) A R Y n s₀ c ((execs body env).wrap K H gd lv) fs s' else Seg (model prog w) A R Y n s₀ c ((execs orelse env).wrap K H gd lv) fs s')
      (fun x s' => Seg (model prog w) A R Y n s₀ c (H x) fs s') s) :
    Seg (model prog w) A R Y n s₀ c ((exec (.If test body orelse pos) env).wrap K H gd lv) fs s := by
  rw [exec_If]
  show Seg _ A R Y n s₀ c (.at pos fun _ => (isTrue test env (eval test env) >>= fun b => if b = true then execs body env else execs orelse env).wrap K H gd lv) fs s
  refine seg_at ?_
  rw [Sem.bind_eq_wrap', Sem.wrap_wrap]
  refine seg_wrap (wpAny_mono h (fun b s' hb => ?_) fun _ _ x => x)
  cases b with
  | true => rw [if_pos rfl] at hb; exact hb
  | false => rw [if_neg Bool.false_ne_true] at hb; exact hb

noncomputable def ownBack (env : Env) (r : Result) : Sem Flow :=
  (match r with | .ok f => (.pure f : Sem Flow) | .error e => .raise e).onRaise fun x => do
    if (← field x 1) == Value.none then unsupported "frame.own-activation:exception-without-traceback"
    setFlight x env.frame

theorem seg_runOwn {c' : Code} (h : ∀ p, Seg (model prog w) A R Y n s₀ c' ((model prog w).den c') (.ret (fun r => (ownBack env r).wrap K H gd lv) none (gd false) (lv []) c p [] :: fs) s) :
    Seg (model prog w) A R Y n s₀ c ((runOwn c' env).wrap K H gd lv) fs s := seg_call h

theorem seg_For {x : Str} {px pos : Pos} {iter : PySem.Expr} {body : List Stmt}
    (h : wpAny (model prog w) (A.over c fs) (eval iter env) (fun xv s₁ => wpAny (model prog w) (A.over c fs) (pyIter xv) (fun it s₂ =>
        ∀ p, Seg (model prog w) A R Y n s₀ (.forLoop (.Name x px) it body [] env) ((model prog w).den (.forLoop (.Name x px) it body [] env)) (.ret (fun r => (ownBack env r).wrap K H gd lv) none (gd false) (lv []) c p [] :: fs) s₂)
        (fun e s' => Seg (model prog w) A R Y n s₀ c (H e) fs s') s₁) (fun e s' => Seg (model prog w) A R Y n s₀ c (H e) fs s') s)
    (hs : ∀ v, foldedSetIterable iter env v = pure v := by intro _; rfl) :
    Seg (model prog w) A R Y n s₀ c ((exec (.For (.Name x px) iter body [] pos) env).wrap K H gd lv) fs s := by
  rw [exec_For]
  show Seg _ A R Y n s₀ c (.at pos fun _ => (eval iter env >>= fun v => (foldedSetIterable iter env v >>= fun x' => (standAt iter.pos >>= fun _ => (holding [x'] (pyIter x') >>= fun it => runOwn (.forLoop (.Name x px) it body [] env) env)))).wrap K H gd lv) fs s
  refine seg_at ?_
  rw [Sem.bind_eq_wrap', Sem.wrap_wrap]
  refine seg_wrap (wpAny_mono h (fun v s₁ h₁ => ?_) fun _ _ e => e)
  rw [hs]
  show Seg _ A R Y n s₀ c (.at iter.pos fun _ => (holding [v] (pyIter v) >>= fun it => runOwn (.forLoop (.Name x px) it body [] env) env).wrap K H gd lv) fs s₁
  refine seg_at ?_
  rw [Sem.bind_eq_wrap', Sem.wrap_wrap]
  exact seg_wrap (wpAny_holding (wpAny_mono h₁ (fun it s₂ h₂ => seg_runOwn h₂) fun _ _ e => e))

noncomputable def loopH (env : Env) (e : Value) : Sem Fin := (do noteFrame e env; theTreesLotGoes e : Sem Unit).wrap (fun _ => .raise e) .raise id id

theorem seg_forLoop {x : Str} {px : Pos} {it : Value} {body : List Stmt}
    (h : wpAny (model prog w) (A.over (.forLoop (.Name x px) it body [] env) fs) (pyNext it) (fun r s' => match r with
        | none => Seg (model prog w) A R Y n s₀ (.block [] env) (.pure (.done .next)) fs s'
        | some v => wpAny (model prog w) (A.over (.forLoop (.Name x px) it body [] env) fs) (bindName env x v) (fun _ s'' =>
            Seg (model prog w) A R Y n s₀ (.forLoop (.Name x px) it body [] env) ((execs body env).wrap (fun f => match f with
              | .next | .cont => .pure (.again (.forLoop (.Name x px) it body [] env))
              | .brk => .pure (.done .next)
              | .ret v => .pure (.done (.ret v))) (loopH env) id id) fs s'') (fun _ _ => False) s') (fun _ _ => False) s) :
    Seg (model prog w) A R Y n s₀ (.forLoop (.Name x px) it body [] env) ((model prog w).den (.forLoop (.Name x px) it body [] env)) fs s := by
  show Seg _ A R Y n s₀ _ ((forTurn (.Name x px) it body [] env).onRaise (fun x => do noteFrame x env; theTreesLotGoes x)) fs s
  unfold forTurn
  rw [Sem.onRaise_eq_wrap]
  show Seg _ A R Y n s₀ _ (.at px fun _ => ((((pyNext it).onRaise fun _ => standAt { px with line := 0 }) >>= _) : Sem Fin).wrap _ _ _ _) fs s
  refine seg_at ?_
  rw [Sem.onRaise_eq_wrap, Sem.bind_eq_wrap', Sem.wrap_wrap, Sem.wrap_wrap]
  refine seg_wrap (wpAny_mono h (fun r s' hr => ?_) fun _ _ e => e.elim)
  cases r with
  | none =>
    refine seg_again (c' := .block [] env) rfl ?_
    exact hr
  | some v =>
    show Seg _ A R Y n s₀ _ (.at px fun _ => (bindName env x v >>= fun _ => (execs body env >>= _) : Sem Fin).wrap _ _ _ _) fs s'
    refine seg_at ?_
    rw [Sem.bind_eq_wrap', Sem.wrap_wrap]
    refine seg_wrap (wpAny_mono hr (fun _ s'' h₂ => ?_) fun _ _ e => e.elim)
    show Seg _ A R Y n s₀ _ ((execs body env >>= _ : Sem Fin).wrap _ _ _ _) fs s''
    rw [Sem.bind_eq_wrap', Sem.wrap_wrap]
    rw [Sem.wrap_congr (execs body env) _ _ (K' := fun f => match f with
              | .next | .cont => .pure (.again (.forLoop (.Name x px) it body [] env))
              | .brk => .pure (.done .next)
              | .ret v => .pure (.done (.ret v))) (H' := loopH env) (fun f => by cases f <;> rfl) (fun e => by first | exact Sem.bind_eq_wrap _ _ | (show (do noteFrame e env; theTreesLotGoes e : Sem Unit).bind (fun _ => .raise e) = _; rw [Sem.bind_eq_wrap]; rfl))]
    exact h₂
end
end
section
/-- where the generator of a row's sizes stands: ahead of the rest of the row, or within its endless loop -/
inductive GS where
  | «at» (r : List Int) (last : Option Int)
  | rep (v : Int)
/-- what it tells next: nothing (it raises), its end, or a number and where it stands then -/
noncomputable def gout : GS → Option (Option (Int × GS))
  | .at [] _ => some none
  | .at (x :: r) last => if x = 127 then some none else if x = 0 then (match last with | none => none | some v => some (some (v, .rep v))) else some (some (x, .at r (some x)))
  | .rep v => some (some (v, .rep v))
noncomputable def gnext (st : GS) : GS := match gout st with
  | some (some (_, st')) => st'
  | _ => st
/-- an iterator over a list -/
noncomputable def IsIt (o : Obj) : Prop := o.cls = .type "list_iterator" ∧ ∃ vs, o.data = .fields vs
/-- an object that a generator's run leaves as it is -/
noncomputable def Safe (Lg b : Addr) (o : Obj) : Prop := ¬ IsIt o ∨ b < Lg
noncomputable def GKept (Lg : Addr) (s s' : Shared) : Prop :=
  (∀ b o, b ≠ Lg → Safe Lg b o → s.heap.get? b = some o → s'.heap.get? b = some o) ∧ s'.gens = s.gens ∧ s'.os = s.os ∧ s'.drawn = s.drawn
theorem GKept.refl (Lg : Addr) (s : Shared) : GKept Lg s s := ⟨fun _ _ _ _ e => e, rfl, rfl, rfl⟩
theorem GKept.heap {Lg : Addr} {s s' : Shared} (k : GKept Lg s s') {h' : Heap} {tk : Nat} (e : ∀ b o, b ≠ Lg → Safe Lg b o → s'.heap.get? b = some o → h'.get? b = some o) : GKept Lg s { s' with heap := h', toks := tk } :=
  ⟨fun b o h1 h2 h3 => e b o h1 h2 (k.1 b o h1 h2 h3), k.2.1, k.2.2.1, k.2.2.2⟩
noncomputable def Over (h₀ h : Heap) : Prop := ∀ b o, h₀.get? b = some o → h.get? b = some o
noncomputable def GR (Lg : Addr) (h₀ : Heap) (tr : Nat → GS) : GenEnd := fun n s₀ r s' => r = .ok (.ret .none) ∧ gout (tr n) = some none ∧ GKept Lg s₀ s' ∧ Over h₀ s'.heap
noncomputable def GY (Lg l : Addr) (ol : Obj) (h₀ : Heap) (tr : Nat → GS) : Protocol := fun n s₀ v s' kap =>
  (∃ x t st', v = .int x t ∧ gout (tr (n + 1)) = some (some (x, st'))) ∧ GKept Lg s₀ s' ∧ Over h₀ s'.heap ∧ ∃ I oI oL, Lg < I ∧ h₀.get? I = none ∧ IsIt oI ∧ s'.heap.get? I = some oI ∧ s'.heap.get? Lg = some oL ∧
    (n ≠ 0 → ∀ s'', s''.heap.get? I = some oI → s''.heap.get? Lg = some oL → s''.heap.get? l = some ol → (∀ b o, h₀.get? b = some o → s''.heap.get? b = some o) → kap (.send .none) s'')

section
variable {w : World} {A : Around} {env : Env} {h₀ : Heap} {Lg l : Addr} {ol : Obj} {tr : Nat → GS} {vs : List Value} {row : List Int} {c : Nat} {x y : Str}

structure GenEnv (env : Env) (Lg : Addr) (x y : Str) : Prop where
  loc : env.locals = Lg
  kind : env.scope.kind = .function
  kx : env.kindOf x = some .local
  ky : env.kindOf y = some .local
  pl : (env.scope.kind == .class || (env.scope.kind == .module && env.locals != env.globals)) = false
  co : env.scope.isCoroutine = false
  ia : interactive env = false
  xy : x ≠ y
  dx : (x == ("__debug__" : Str)) = false
  dy : (y == ("__debug__" : Str)) = false

/-- the endless loop -/
theorem gen_rep (G : GenEnv env Lg x y) {M : Nat} (htr : ∀ k, k < M → tr k = gnext (tr (k + 1))) {tw : PySem.Expr} {py : Pos} {pY pE : Pos}
    (hTw : ∀ (A : Around) (s : Shared) (Q : Bool → Shared → Prop) (E : Value → Shared → Prop), Q true s → wpAny (model PG w) A (isTrue tw env (eval tw env)) Q E s) :
    ∀ n (fs : List Frame) (s s₀ : Shared) (m : Str → Option Value) (v : Int) (t : Tok) (I : Addr) (oI : Obj), n + 1 ≤ M → splitAtGen fs = none → fs.any Frame.guarded = false → gout (tr (n + 1)) = some (some (v, .rep v)) →
      Fr h₀ Lg s.heap m → m y = some (.int v t) → GKept Lg s₀ s → Lg < I → h₀.get? I = none → IsIt oI → s.heap.get? I = some oI →
      Seg (model PG w) A (GR Lg h₀ tr) (GY Lg l ol h₀ tr) (n + 1) s₀ (.whileLoop tw [.Expr (.Yield (some (.Name y py)) pY) pE] [] env)
        ((model PG w).den (.whileLoop tw [.Expr (.Yield (some (.Name y py)) pY) pE] [] env)) fs s := by
  intro n
  induction n with
  | zero =>
    intro fs s s₀ m v t I oI hM hf1 hf2 ht F hm k h1 h2 h3 h4
    refine seg_whileLoop (hTw _ _ _ _ ?_)
    rw [if_pos rfl]
    refine seg_execs_cons (seg_Expr_Yield hf1 rfl hf2 (wpAny_Name (wpAny_loadName_local G.kind G.ky (G.loc ▸ F.ns) hm ?_) G.dy) G.co G.ia)
    intro kap _
    obtain ⟨oL, es, ep, hL, hLd, hLk, hLf⟩ := F.ns
    exact ⟨⟨v, t, .rep v, rfl, ht⟩, k, F.keep, I, oI, oL, h1, h2, h3, h4, hL, fun q => absurd rfl q⟩
  | succ n ih =>
    intro fs s s₀ m v t I oI hM hf1 hf2 ht F hm k h1 h2 h3 h4
    refine seg_whileLoop (hTw _ _ _ _ ?_)
    rw [if_pos rfl]
    refine seg_execs_cons (seg_Expr_Yield hf1 rfl hf2 (wpAny_Name (wpAny_loadName_local G.kind G.ky (G.loc ▸ F.ns) hm ?_) G.dy) G.co G.ia)
    intro kap hkap
    obtain ⟨oL, es, ep, hL, hLd, hLk, hLf⟩ := F.ns
    refine ⟨⟨v, t, .rep v, rfl, ht⟩, k, F.keep, I, oI, oL, h1, h2, h3, h4, hL, fun _ s'' e1 e2 e3 e4 => hkap .none s'' ?_⟩
    have ht' : gout (tr (n + 1)) = some (some (v, .rep v)) := by
      have e : tr (n + 1) = .rep v := by rw [htr (n + 1) (by lia)]; unfold gnext; rw [ht]
      rw [e]; rfl
    exact seg_again rfl (ih fs s'' s'' m v t I oI (by lia) hf1 hf2 ht' ⟨⟨oL, es, ep, e2, hLd, hLk, hLf⟩, e4, F.above⟩ hm (GKept.refl _ _) h1 h2 h3 e1)

noncomputable def lastOk (m : Str → Option Value) (y : Str) : Option Int → Prop
  | none => m y = some .none
  | some v => ∃ t, m y = some (.int v t)

theorem gen_loop (G : GenEnv env Lg x y) {M : Nat} (htr : ∀ k, k < M → tr k = gnext (tr (k + 1))) (hno : ∀ k, gout (tr k) ≠ none) (hol : ol = listOf vs.toArray c) (hi : IntsAre vs row) (hlL : l ≠ Lg)
    {t1 t2 t3 tw : PySem.Expr} {b3 : List Stmt} {px py py2 pr p1 p2 p3 pw pY pE pY2 pE2 : Pos} {a2 : Stmt}
    (hT1 : ∀ (A : Around) (s : Shared) (m : Str → Option Value) (v : Int) (t : Tok) (Q : Bool → Shared → Prop) (E : Value → Shared → Prop), Fr h₀ Lg s.heap m → m x = some (.int v t) → (∀ tk, Q (decide (v = 127)) { s with toks := tk }) → wpAny (model PG w) A (isTrue t1 env (eval t1 env)) Q E s)
    (hT2 : ∀ (A : Around) (s : Shared) (m : Str → Option Value) (v : Int) (t : Tok) (Q : Bool → Shared → Prop) (E : Value → Shared → Prop), Fr h₀ Lg s.heap m → m x = some (.int v t) → (∀ tk, Q (decide (v = 0)) { s with toks := tk }) → wpAny (model PG w) A (isTrue t2 env (eval t2 env)) Q E s)
    (hT3 : ∀ (A : Around) (s : Shared) (m : Str → Option Value) (v : Int) (t : Tok) (Q : Bool → Shared → Prop) (E : Value → Shared → Prop), Fr h₀ Lg s.heap m → m y = some (.int v t) → (∀ tk, Q false { s with toks := tk }) → wpAny (model PG w) A (isTrue t3 env (eval t3 env)) Q E s)
    (hTw : ∀ (A : Around) (s : Shared) (Q : Bool → Shared → Prop) (E : Value → Shared → Prop), Q true s → wpAny (model PG w) A (isTrue tw env (eval tw env)) Q E s)
    (hA2 : ∀ (A : Around) (s : Shared) (m : Str → Option Value) (u : Value) (Q : Flow → Shared → Prop) (E : Value → Shared → Prop), Fr h₀ Lg s.heap m → m x = some u → (∀ h' tk, h'.Ns Lg (fun z => if z = y then some u else m z) → Heap.SameBut Lg s.heap h' → Q .next { s with heap := h', toks := tk }) → wpAny (model PG w) A (exec a2 env) Q E s)
    {fr : Frame} {k : Result → Sem Fin} {cF : Code} {pF : Pos} (hfr : fr = .ret k none false [] cF pF []) (hk1 : k (.ok .next) = .pure (.done (.ret .none))) (hk2 : k (.ok (.ret .none)) = .pure (.done (.ret .none)))
    (hA : ∀ c, (A.over c [fr]).handled = none) :
    ∀ n i (s s₀ : Shared) (m : Str → Option Value) (last : Option Int) (I : Addr), n + 1 ≤ M → tr (n + 1) = .at (row.drop i) last → Fr h₀ Lg s.heap m → lastOk m y last → s.heap.get? l = some ol → s.heap.IsListIter I l i → Lg < I → h₀.get? I = none → GKept Lg s₀ s →
      Seg (model PG w) A (GR Lg h₀ tr) (GY Lg l ol h₀ tr) (n + 1) s₀
        (.forLoop (.Name x px) (.ref I) [.If t1 [.Return none pr] [] p1, .If t2 [.If t3 b3 [] p3, .While tw [.Expr (.Yield (some (.Name y py)) pY) pE] [] pw] [] p2, .Expr (.Yield (some (.Name x py2)) pY2) pE2, a2] [] env)
        ((model PG w).den (.forLoop (.Name x px) (.ref I) [.If t1 [.Return none pr] [] p1, .If t2 [.If t3 b3 [] p3, .While tw [.Expr (.Yield (some (.Name y py)) pY) pE] [] pw] [] p2, .Expr (.Yield (some (.Name x py2)) pY2) pE2, a2] [] env)) [fr] s := by
  intro n
  induction n using Nat.strongRecOn with
  | ind n ih =>
  intro i s s₀ m last I hM ht F hlast hl hit hLI hI0 hk
  have hIL : I ≠ Lg := Nat.ne_of_gt hLI
  have hIsL : s.heap.IsList l vs.toArray := ⟨ol, hl, by rw [hol], c, by rw [hol]⟩
  obtain ⟨oI, hoI, hoIc, hoId⟩ := id hit
  have hIt : IsIt oI := ⟨hoIc, _, hoId⟩
  have safeI : ∀ b o, Safe Lg b o → s.heap.get? b = some o → b ≠ I := by
    rintro b o (q | q) e rfl
    · exact q (by rw [← Option.some.inj (hoI.symm.trans e)]; exact hIt)
    · exact absurd (Nat.lt_trans q hLI) (Nat.lt_irrefl _)
  have hlI : l ≠ I := by
    intro e
    rw [← e, hl] at hoI
    have := Option.some.inj hoI
    rw [← this, hol] at hoIc
    exact absurd (show Value.type "list" = Value.type "list_iterator" from hoIc) (by decide)
  have endR : ∀ s' : Shared, gout (tr (n + 1)) = some none → GKept Lg s₀ s' → Over h₀ s'.heap → ∀ (t : Sem Fin), t = .pure (.done (.ret .none)) → Seg (model PG w) A (GR Lg h₀ tr) (GY Lg l ol h₀ tr) (n + 1) s₀ cF t [] s' := by
    intro s' hg hk' hov t e
    subst e
    exact seg_end (.ok (.ret .none)) ⟨rfl, hg, hk', hov⟩
  refine seg_forLoop ?_
  cases hd : row.drop i with
  | nil =>
    have hx : vs.toArray[i]? = none := by
      have : row.length ≤ i := by simpa using hd
      simp [hi.length, this]
    refine wpAny_pyNext_list_end (hA _) hit hIsL hx (fun h' he => ?_)
    show Seg _ A _ _ (n + 1) s₀ _ (leafOf (.ok .next)) [fr] _
    rw [hfr]
    refine seg_leaf (.ok .next) (endR _ (by rw [ht, hd]; rfl) (hk.heap (tk := s.toks) fun b o h1 h2 h3 => he b o (safeI b o h2 h3) h3) (fun b o h3 => he b o (fun e => ?_) (F.keep b o h3)) _ hk1)
    · rw [e, hI0] at h3; cases h3
  | cons v r =>
    have hlt : i < row.length := by
      have := congrArg List.length hd
      simp at this; omega
    have hv : row[i]? = some v := by
      have := congrArg (·[0]?) hd
      simpa using this
    have hr : row.drop (i + 1) = r := by
      have := congrArg (List.drop 1) hd
      simpa [Nat.add_comm] using this
    obtain ⟨t, htv⟩ := hi.get i v hv
    rw [hd] at ht
    refine wpAny_pyNext_list_item hit hIsL (x := .int v t) (by simpa using htv) (fun h1 hit1 hs1 => ?_)
    have k1 : GKept Lg s₀ { s with heap := h1 } := hk.heap (tk := s.toks) fun b o q1 q2 q3 => (hs1.2 b (safeI b o q2 q3)).trans q3
    have F1 : Fr h₀ Lg h1 m := by
      obtain ⟨oL, es, ep, hL, r'⟩ := F.ns
      refine ⟨⟨oL, es, ep, (hs1.2 Lg (Ne.symm hIL)).trans hL, r'⟩, fun b o e => (hs1.2 b fun q => ?_).trans (F.keep b o e), F.above⟩
      rw [q, hI0] at e; cases e
    have l1 : h1.get? l = some ol := (hs1.2 l hlI).trans hl
    show wpAny _ _ (bindName env x (.int v t)) _ _ { s with heap := h1 }
    refine wpAny_bindName (wpAny_storeName_local G.kx (G.loc.symm ▸ F1.ns) (fun h2 hn2 hs2 => ?_) G.pl)
    rw [G.loc] at hn2 hs2
    have F2 : Fr h₀ Lg h2 (fun z => if z = x then some (.int v t) else m z) := F1.set hn2 hs2
    have l2 : h2.get? l = some ol := (hs2.2 l hlL).trans l1
    have it2 : h2.IsListIter I l (i + 1) := by
      obtain ⟨o, ho, r'⟩ := hit1
      exact ⟨o, (hs2.2 I hIL).trans ho, r'⟩
    have k2 : GKept Lg s₀ { s with heap := h2, toks := s.toks + 1 } := k1.heap fun b o q1 q2 q3 => (hs2.2 b q1).trans q3
    have mx : (fun z => if z = x then some (Value.int v t) else m z) x = some (.int v t) := by simp
    refine seg_execs_cons (seg_If (hT1 _ _ _ v t _ _ F2 mx fun tk3 => ?_))
    by_cases c1 : v = 127
    · rw [if_pos (decide_eq_true c1)]
      refine seg_execs_cons ?_
      show Seg _ A _ _ (n + 1) s₀ _ (.at pr fun _ => leafOf (.ok (.ret .none))) [fr] _
      refine seg_at ?_
      rw [hfr]
      refine seg_leaf (.ok (.ret .none)) (endR _ (by rw [ht, c1]; rfl) ?_ (by exact F2.keep) _ hk2)
      exact ⟨k2.1, k2.2⟩
    · rw [if_neg (by simpa using c1)]
      refine seg_execs_nil ?_
      refine seg_execs_cons (seg_If (hT2 _ _ _ v t _ _ F2 mx fun tk4 => ?_))
      by_cases c2 : v = 0
      · rw [if_pos (decide_eq_true c2)]
        have hz := hno (n + 1)
        rw [ht, c2] at hz
        cases hla : last with
        | none => rw [hla] at hz; exact absurd rfl hz
        | some v' =>
          rw [hla] at hlast ht
          obtain ⟨t', hmy⟩ := hlast
          have my : (fun z => if z = x then some (Value.int v t) else m z) y = some (.int v' t') := by simp [Ne.symm G.xy, hmy]
          refine seg_execs_cons (seg_If (hT3 _ _ _ v' t' _ _ F2 my fun tk5 => ?_))
          rw [if_neg (by decide)]
          refine seg_execs_nil ?_
          refine seg_execs_cons ?_
          obtain ⟨o2, ho2, hc2, hd2⟩ := it2
          refine seg_While fun p => gen_rep G htr hTw n _ _ s₀ _ v' t' I o2 hM ?_ ?_ ?_ F2 my ⟨k2.1, k2.2⟩ hLI hI0 ⟨hc2, _, hd2⟩ ho2
          · rw [hfr]; rfl
          · rw [hfr]; rfl
          · rw [ht, c2]; rfl
      · rw [if_neg (by simpa using c2)]
        refine seg_execs_nil ?_
        have hg : gout (tr (n + 1)) = some (some (v, .at r (some v))) := by rw [ht]; simp [gout, c1, c2]
        refine seg_execs_cons (seg_Expr_Yield (by rw [hfr]; rfl) rfl (by rw [hfr]; rfl) (wpAny_Name (wpAny_loadName_local G.kind G.kx (G.loc.symm ▸ F2.ns) mx ?_) G.dx) G.co G.ia)
        intro kap hkap
        obtain ⟨o2, ho2, hc2, hd2⟩ := it2
        obtain ⟨oL, es, ep, hL, hLr⟩ := F2.ns
        refine ⟨⟨v, t, _, rfl, hg⟩, ⟨k2.1, k2.2⟩, F2.keep, I, o2, oL, hLI, hI0, ⟨hc2, _, hd2⟩, ho2, hL, fun hn0 s'' e1 e2 e3 e4 => hkap .none s'' ?_⟩
        obtain ⟨n', rfl⟩ : ∃ n', n = n' + 1 := ⟨n - 1, by omega⟩
        have ht' : tr (n' + 1) = .at (row.drop (i + 1)) (some v) := by rw [htr (n' + 1) (by lia)]; unfold gnext; rw [hg, hr]
        refine seg_execs_cons (seg_wrap (hA2 _ _ _ _ _ _ ⟨⟨oL, es, ep, e2, hLr⟩, e4, F2.above⟩ mx fun h5 tk5 hn5 hs5 => ?_))
        refine seg_execs_nil (seg_again rfl ?_)
        refine ih n' (by lia) (i + 1) _ s'' _ (some v) I (by lia) ht' ((⟨⟨oL, es, ep, e2, hLr⟩, e4, F2.above⟩ : Fr h₀ Lg s''.heap _).set hn5 hs5) ⟨t, by simp⟩ ((hs5.2 l hlL).trans e3) ⟨o2, (hs5.2 I hIL).trans e1, hc2, hd2⟩ hLI hI0 ?_
        exact (GKept.refl Lg s'').heap fun b o q1 _ q3 => (hs5.2 b q1).trans q3
end
end
section
section
variable {w : World} {A : Around} {E : Value → Shared → Prop} {s : Shared} {a Lg l : Addr} {g n : Nat} {gs : GenState} {R : GenEnd} {Y : Protocol} {Q : Option Value → Shared → Prop}
/-- one turn of a generator that does not raise; what it is left as is bare -/
theorem gen_next (hh : A.handled = none) (hl : s.heap.NoLimit) (hroom : A.depth < recursionLimit) (hg : s.heap.IsGen a g) (hgs : s.gens[g]? = some gs)
    (hgo : gs.Goes (model PG w) A.in1 R Y n (.send .none) (s.setGen g .running)) (hR : ∀ r s₁, R n (s.setGen g .running) r s₁ → r = .ok (.ret .none))
    (hY : ∀ v s₁ gs', gs'.bare = true → Y (n - 1) (s.setGen g .running) v s₁ (fun r' s'' => match n with | 0 => False | m + 1 => gs'.Goes (model PG w) A.in1 R Y m r' s'') → Q (some v) (s₁.setGen g gs'))
    (hN : ∀ s₁, R n (s.setGen g .running) (.ok (.ret .none)) s₁ → ∀ h', (∀ b o, s₁.heap.get? b = some o → h'.get? b = some o) → Q none { s₁.setGen g .finished with heap := h' }) :
    wpAny (model PG w) A (pyNext (.ref a)) Q E s := by
  have live : gs.status = .fresh ∨ gs.status = .suspended := by
    cases gs with
    | fresh c => exact .inl rfl
    | suspended => exact .inr rfl
    | running => exact hgo.elim
    | finished => exact hgo.elim
  refine wpAny_bind (wpAny_attempt (wpAny_callSpecial?_slot (name := Str.ofString "__next__") hg.typeIs slot_gen_next (wpAny_call_entry slot_gen_next hg.typeIs entry_gen_next ?_ (args_gen_next _))))
  show wpAny _ _ (Builtin.Generator.genWake (.ref a) (.send .none)) _ _ s
  unfold Builtin.Generator.genWake
  refine wpAny_bind (wpAny_holding (wpAny_genNumber hg (wpAny_bind (wpAny_genState hgs ?_))))
  rcases live with e | e <;>
  · rw [e]
    refine wpAny_bind (wpAny_roomToWake hl hroom ?_)
    show wpAny _ _ (.resume g (.send .none) [] _) _ _ s
    refine wpAny_resumeQ hgs hgo (fun x s₁ hx => ?_) (fun v s₁ gs' hb hv => ?_)
    · have e := hR x s₁ hx
      subst e
      refine wpAny_bind (m := newExc (.type "StopIteration") []) ?_
      simp only [newExc, newTuple]
      refine wpAny_bind (wpAny_newObj_type ?_ (by size_fits))
      refine wpAny_bind (m := firstArgMember _ _) (wpAny_of_eq (a := Value.none) (by first | rfl | (simp only [firstArgMember]; rfl)) ?_)
      refine wpAny_newObj_type ?_ (by size_fits)
      simp only [raiseNew]
      refine wpAny_bind (wpAny_bind (wpAny_handled ?_))
      rw [show A.in1.handled = none from hh]
      refine wpAny_throw (wpAny_bind (wpAny_isInstance (T := "StopIteration") (b := true) ⟨_, Heap.get?_push_size _ rfl, rfl⟩ isSubtype_stop ?_))
      exact wpAny_pure (hN s₁ hx _ fun b o hb => Heap.get?_push_of_some _ (Heap.get?_push_of_some _ hb))
    · exact wpAny_pure ⟨v, rfl, wpAny_pure (hY v s₁ gs' hb hv)⟩
end
theorem set_get {gens : Array GenState} {g : Nat} {x y : GenState} {gs : GenState} (h : gens[g]? = some gs) : ((gens.setIfInBounds g x).setIfInBounds g y)[g]? = some y := by
  have hlt : g < gens.size := (Array.getElem?_eq_some_iff.mp h).1
  simp [hlt]
theorem set_bare {gens : Array GenState} {g : Nat} {x y : GenState} (h : AllBare gens) (hx : x.bare = true) (hy : y.bare = true) : AllBare ((gens.setIfInBounds g x).setIfInBounds g y) := by
  have one : ∀ {gens : Array GenState} {x : GenState}, AllBare gens → x.bare = true → AllBare (gens.setIfInBounds g x) := by
    intro gens x h hx z hz
    rcases Array.mem_or_eq_of_mem_setIfInBounds hz with q | q
    · exact h z q
    · rw [q]; exact hx
  exact one (one h hx) hy
noncomputable def GenLive (w : World) (A : Around) (h₀ : Heap) (Lg l : Addr) (ol : Obj) (tr : Nat → GS) (n : Nat) (keep : List (Addr × Obj)) (gs : GenState) : Prop :=
  ∀ s'' : Shared, (∀ p ∈ keep, s''.heap.get? p.1 = some p.2) → s''.heap.get? l = some ol → (∀ b o, h₀.get? b = some o → s''.heap.get? b = some o) → gs.Goes (model PG w) A (GR Lg h₀ tr) (GY Lg l ol h₀ tr) n (.send .none) s''
section
variable {w : World} {A : Around} {E : Value → Shared → Prop} {s : Shared} {a Lg l : Addr} {ol : Obj} {h₀ : Heap} {tr : Nat → GS} {g n : Nat} {gs : GenState} {keep : List (Addr × Obj)} {Q : Option Value → Shared → Prop}
theorem gen_pull (hh : A.handled = none) (hl : s.heap.NoLimit) (hroom : A.depth < recursionLimit) (hg : s.heap.IsGen a g) (hgs : s.gens[g]? = some gs) (hb : AllBare s.gens)
    (live : GenLive w A.in1 h₀ Lg l ol tr (n + 1) keep gs) (hk : ∀ p ∈ keep, s.heap.get? p.1 = some p.2) (hol : s.heap.get? l = some ol) (h0 : ∀ b o, h₀.get? b = some o → s.heap.get? b = some o)
    (hY : ∀ x t st' s' gs' I oI oL, gout (tr (n + 1)) = some (some (x, st')) → (∀ b o, b ≠ Lg → Safe Lg b o → s.heap.get? b = some o → s'.heap.get? b = some o) → Over h₀ s'.heap → s'.gens[g]? = some gs' → AllBare s'.gens → s'.os = s.os → s'.drawn = s.drawn →
      Lg < I → h₀.get? I = none → IsIt oI → s'.heap.get? I = some oI → s'.heap.get? Lg = some oL → (n ≠ 0 → GenLive w A.in1 h₀ Lg l ol tr n [(Lg, oL), (I, oI)] gs') → Q (some (.int x t)) s')
    (hN : gout (tr (n + 1)) = some none → ∀ s', (∀ b o, b ≠ Lg → Safe Lg b o → s.heap.get? b = some o → s'.heap.get? b = some o) → Over h₀ s'.heap → AllBare s'.gens → s'.os = s.os → s'.drawn = s.drawn → Q none s') :
    wpAny (model PG w) A (pyNext (.ref a)) Q E s := by
  refine gen_next (n := n + 1) hh hl hroom hg hgs (live (s.setGen g .running) hk hol h0) (fun r s₁ h => h.1) (fun v s₁ gs' hbare hy => ?_) (fun s₁ hr h' hk' => ?_)
  · obtain ⟨⟨x, t, st', rfl, hgo⟩, ⟨k1, k2, k3, k4⟩, kov, I, oI, oL, h1, h2, h3, h4, h5, h6⟩ := hy
    have eg : (s₁.setGen g gs').gens = (s.gens.setIfInBounds g .running).setIfInBounds g gs' := by
      show s₁.gens.setIfInBounds g gs' = _
      rw [k2]; rfl
    refine hY x t st' _ gs' I oI oL hgo k1 kov (by rw [eg]; exact set_get hgs) (by rw [eg]; exact set_bare hb rfl hbare) k3 k4 h1 h2 h3 h4 h5 fun hn s'' e1 e2 e3 => ?_
    exact h6 hn s'' (e1 (I, oI) (by simp)) (e1 (Lg, oL) (by simp)) e2 e3
  · obtain ⟨-, hgo, ⟨k1, k2, k3, k4⟩, kov⟩ := hr
    have eg : (s₁.setGen g .finished).gens = (s.gens.setIfInBounds g .running).setIfInBounds g .finished := by
      show s₁.gens.setIfInBounds g .finished = _
      rw [k2]; rfl
    exact hN hgo _ (fun b o q1 q2 q3 => hk' b o (k1 b o q1 q2 q3)) (fun b o q => hk' b o (kov b o q)) (by show AllBare (s₁.setGen g .finished).gens; rw [eg]; exact set_bare hb rfl rfl) k3 k4
end
end
section
section
variable {w : World} {A : Around} {env : Env} {h₀ : Heap} {Lg l : Addr} {ol oL : Obj} {tr : Nat → GS} {vs : List Value} {row : List Int} {c : Nat} {x y gn : Str}

theorem gen_func (G : GenEnv env Lg x y) {n : Nat} (htr : ∀ k, k < n + 1 → tr k = gnext (tr (k + 1))) (hno : ∀ k, gout (tr k) ≠ none) (hol : ol = listOf vs.toArray c) (hi : IntsAre vs row) (hlL : l ≠ Lg) (hA : A.handled = none)
    {t1 t2 t3 tw iter : PySem.Expr} {b3 : List Stmt} {px py py2 pr p1 p2 p3 pw pY pE pY2 pE2 pf : Pos} {a1 a2 : Stmt}
    (hT1 : ∀ (A : Around) (s : Shared) (m : Str → Option Value) (v : Int) (t : Tok) (Q : Bool → Shared → Prop) (E : Value → Shared → Prop), Fr h₀ Lg s.heap m → m x = some (.int v t) → (∀ tk, Q (decide (v = 127)) { s with toks := tk }) → wpAny (model PG w) A (isTrue t1 env (eval t1 env)) Q E s)
    (hT2 : ∀ (A : Around) (s : Shared) (m : Str → Option Value) (v : Int) (t : Tok) (Q : Bool → Shared → Prop) (E : Value → Shared → Prop), Fr h₀ Lg s.heap m → m x = some (.int v t) → (∀ tk, Q (decide (v = 0)) { s with toks := tk }) → wpAny (model PG w) A (isTrue t2 env (eval t2 env)) Q E s)
    (hT3 : ∀ (A : Around) (s : Shared) (m : Str → Option Value) (v : Int) (t : Tok) (Q : Bool → Shared → Prop) (E : Value → Shared → Prop), Fr h₀ Lg s.heap m → m y = some (.int v t) → (∀ tk, Q false { s with toks := tk }) → wpAny (model PG w) A (isTrue t3 env (eval t3 env)) Q E s)
    (hTw : ∀ (A : Around) (s : Shared) (Q : Bool → Shared → Prop) (E : Value → Shared → Prop), Q true s → wpAny (model PG w) A (isTrue tw env (eval tw env)) Q E s)
    (hA2 : ∀ (A : Around) (s : Shared) (m : Str → Option Value) (u : Value) (Q : Flow → Shared → Prop) (E : Value → Shared → Prop), Fr h₀ Lg s.heap m → m x = some u → (∀ h' tk, h'.Ns Lg (fun z => if z = y then some u else m z) → Heap.SameBut Lg s.heap h' → Q .next { s with heap := h', toks := tk }) → wpAny (model PG w) A (exec a2 env) Q E s)
    (hA1 : ∀ (A : Around) (s : Shared) (m : Str → Option Value) (Q : Flow → Shared → Prop) (E : Value → Shared → Prop), Fr h₀ Lg s.heap m → (∀ h' tk, h'.Ns Lg (fun z => if z = y then some Value.none else m z) → Heap.SameBut Lg s.heap h' → Q .next { s with heap := h', toks := tk }) → wpAny (model PG w) A (exec a1 env) Q E s)
    (hIt : ∀ (A : Around) (s : Shared) (m : Str → Option Value) (u : Value) (Q : Value → Shared → Prop) (E : Value → Shared → Prop), Fr h₀ Lg s.heap m → m gn = some u → Q u s → wpAny (model PG w) A (eval iter env) Q E s)
    (hs : ∀ v, foldedSetIterable iter env v = pure v) (gy : gn ≠ y)
    {m : Str → Option Value} (hns : ∀ h : Heap, h.get? Lg = some oL → h.Ns Lg m) (hm : m gn = some (.ref l)) (hab : h₀.objs.size ≤ Lg) (ht : tr (n + 1) = .at row none) :
    GenLive w A h₀ Lg l ol tr (n + 1) [(Lg, oL)]
      (.fresh (.func [a1, .For (.Name x px) iter [.If t1 [.Return none pr] [] p1, .If t2 [.If t3 b3 [] p3, .While tw [.Expr (.Yield (some (.Name y py)) pY) pE] [] pw] [] p2, .Expr (.Yield (some (.Name x py2)) pY2) pE2, a2] [] pf] env)) := by
  intro s hk hl h0
  have hL := hk (Lg, oL) (by simp)
  have F : Fr h₀ Lg s.heap m := ⟨hns _ hL, h0, hab⟩
  refine ⟨rfl, seg_func (seg_execs_cons (seg_wrap (hA1 _ _ _ _ _ F fun h1 tk1 hn1 hs1 => ?_)))⟩
  have F1 : Fr h₀ Lg h1 (fun z => if z = y then some Value.none else m z) := F.set hn1 hs1
  have l1 : h1.get? l = some ol := (hs1.2 l hlL).trans hl
  have k1 : GKept Lg s { s with heap := h1, toks := tk1 } := (GKept.refl Lg s).heap fun b o q1 _ q3 => (hs1.2 b q1).trans q3
  have hIsL : h1.IsList l vs.toArray := ⟨ol, l1, by rw [hol], c, by rw [hol]⟩
  have hgn : (fun z => if z = y then some Value.none else m z) gn = some (.ref l) := by simp [gy, hm]
  refine seg_execs_cons (seg_For (hIt _ _ _ _ _ _ F1 hgn (wpAny_pyIter_list hIsL ?_)) hs)
  intro p
  have hlt : Lg < h1.objs.size := F1.ns.lt
  refine gen_loop G htr hno hol hi hlL hT1 hT2 hT3 hTw hA2 rfl rfl rfl (fun c => ?_) n 0 _ s _ none h1.objs.size (Nat.le_refl _) (by simpa using ht) (F1.push _) (by show (fun z => if z = y then some Value.none else m z) y = _; simp) (Heap.get?_push_of_some _ l1) ⟨_, Heap.get?_push_size _ rfl, rfl, rfl⟩ hlt ?_ ?_
  · show (marksOver _ (A.handled, A.handled)).1 = none
    rw [hA]; rfl
  · cases q : h₀.get? h1.objs.size with
    | none => rfl
    | some o => exact absurd (Nat.lt_of_lt_of_le (Heap.lt_size q) (Nat.le_trans hab (Nat.le_of_lt hlt))) (Nat.lt_irrefl _)
  · exact ⟨fun b o q1 q2 q3 => Heap.get?_push_of_some _ (k1.1 b o q1 q2 q3), rfl, rfl, rfl⟩
end
end
section
section
variable {prog : Program} {w : World} {A : Around} {E : Value → Shared → Prop} {s : Shared} {K : Frag} {L : Addr} {h₀ : Heap} {m : Str → Option Value} {news : List (Addr × Obj)} {Q : Value → Shared → Prop}
theorem gen_call (binds : List (Str × Value)) {name qual : Str} {params : Arguments} {body : List Stmt} {scope : Scope} {dV kV doc pm cdv ct oc : Value} {an od : Option Addr} {osl : Array (Option Value)} {f : Addr} {pos : List Value}
    (F : Fr h₀ L s.heap m) (X₀ : K.In h₀) (N : News h₀ L s.heap news) (hlim : h₀.NoLimit)
    (ho : K.lookup f = some ⟨oc, od, .func (fnOf name qual params body scope dV kV doc pm an cdv ct), osl⟩) (hcd : codeIn K cdv qual = true) (hroom : A.depth < recursionLimit)
    (hbind : bindArgs (fnOf name qual params body scope dV kV doc pm an cdv ct) ⟨pos, []⟩ = pure binds) (hloc : ∀ y ∈ binds, scope.names.lookup y.1 = some .local)
    (h : ∀ a Lg oL h' tk t1 t2, Fr h₀ L h' m → News h₀ L h' ((a, ({ cls := .type "generator", data := .fields #[.int s.gens.size 0, .str name t1, .str qual t2] } : Obj)) :: (Lg, oL) :: news) → Lg < a → (∀ p ∈ news, p.1 < Lg) → L < Lg → h₀.objs.size ≤ Lg →
      (∀ h : Heap, h.get? Lg = some oL → h.Ns Lg (fun y => binds.reverse.lookup y)) → (∀ b o, s.heap.get? b = some o → h'.get? b = some o) → s.heap.objs.size = Lg → Q (.ref a) { s with heap := h', gens := s.gens.push (.fresh (.func body (envOf qual scope Lg f cdv))), toks := tk })
    (hco : scope.isCoroutine = false) (hgen : scope.isGenerator = true) (hk : scope.kind = .function) (hcell : ∀ x ∈ scope.names, x.2 ≠ .cell) :
    wpAny (model prog w) A (call (.ref f) pos) Q E s := by
  have X := X₀.keeps F.keep
  have hl := hlim.keeps F.keep
  refine wpAny_call (codeAny_call_generator hroom (X _ _ ho) rfl hco hgen rfl (codeRec_of X hcd) ?_)
  rw [hbind]
  refine wpAny_pure (wpAny_newFunctionEnv hcell hloc (fun h₁ hns hsb => ⟨hl.fresh _ hsb, ?_⟩) hk)
  have keep : ∀ b o, s.heap.get? b = some o → h₁.get? b = some o := fun b o e => hsb.extBut b o (Nat.ne_of_lt (Heap.lt_size e)) (Heap.get?_push_of_some _ e)
  obtain ⟨oL, es, ep, hL, hLr⟩ := hns
  have hlt : s.heap.objs.size < h₁.objs.size := Heap.lt_size hL
  have hLlt := F.ns.lt
  obtain ⟨oF, es', ep', hF, hFr⟩ := F.ns
  refine h h₁.objs.size s.heap.objs.size oL _ _ (s.toks + binds.length) (s.toks + binds.length + 1) ⟨⟨oF, es', ep', Heap.get?_push_of_some _ (keep _ _ hF), hFr⟩, fun b o e => Heap.get?_push_of_some _ (keep b o (F.keep b o e)), F.above⟩ ?_ hlt (fun p hp => Heap.lt_size (N p hp).1) hLlt (Nat.le_trans F.above (Nat.le_of_lt hLlt)) (fun h q => ⟨oL, es, ep, q, hLr⟩) (fun b o e => Heap.get?_push_of_some _ (keep b o e)) rfl
  have none_of : ∀ b, s.heap.objs.size ≤ b → h₀.get? b = none := fun b hb => by
    cases q : h₀.get? b with
    | none => rfl
    | some o => exact absurd (Nat.lt_of_lt_of_le (Heap.lt_size (F.keep _ _ q)) hb) (Nat.lt_irrefl _)
  intro p hp
  rcases List.mem_cons.mp hp with rfl | hp
  · exact ⟨Heap.get?_push_size _ rfl, Nat.ne_of_gt (Nat.lt_trans hLlt hlt), none_of _ (Nat.le_of_lt hlt)⟩
  · rcases List.mem_cons.mp hp with rfl | hp
    · exact ⟨Heap.get?_push_of_some _ hL, Nat.ne_of_gt hLlt, none_of _ (Nat.le_refl _)⟩
    · exact ⟨Heap.get?_push_of_some _ (keep _ _ (N p hp).1), (N p hp).2⟩
end
end
section
noncomputable abbrev genO (k : Nat) (t1 t2 : Tok) : Obj := { cls := .type "generator", data := .fields #[.int k 0, .str (Str.ofString "_grouping_intervals") t1, .str (Str.ofString "_grouping_intervals") t2] }
noncomputable def NoIt (Lg : Addr) (l : List (Addr × Obj)) : Prop := ∀ p ∈ l, p.1 ≠ Lg ∧ Safe Lg p.1 p.2
theorem noIt_list {vs : Array Value} {c : Nat} : ¬ IsIt (listOf vs c) := fun h => by
  obtain ⟨_, _, h⟩ := h
  cases h
theorem noIt_gen {k : Nat} {t1 t2 : Tok} : ¬ IsIt (genO k t1 t2) := fun h => absurd h.1 (by show ¬ Value.type "generator" = Value.type "list_iterator"; decide)
section
variable {w : World} {A : Around} {s : Shared} {env : Env} {h₀ : Heap} {L Lg a l : Addr} {ol : Obj} {tr : Nat → GS} {g N : Nat} {t1 t2 : Tok} {x : Str} {px : Pos} {body : List Stmt} {Q : Flow → Shared → Prop} {rest : List (Addr × Obj)}

structure GnInv (w : World) (A1 : Around) (h₀ : Heap) (L Lg l a : Addr) (ol go : Obj) (tr : Nat → GS) (g N : Nat) (os : OsState) (rest : List (Addr × Obj)) (J : Nat → (Str → Option Value) → List (Addr × Obj) → Prop) (n : Nat) (s' : Shared) (j : Nat) (m : Str → Option Value) (nx keep : List (Addr × Obj)) (gs : GenState) : Prop where
  le : j ≤ N
  n_is : n = N + 1 - j
  os_is : s'.os = os
  fr : Fr h₀ L s'.heap m
  news : News h₀ L s'.heap (nx ++ (a, go) :: (keep ++ rest))
  no_it : NoIt Lg nx
  gen : s'.gens[g]? = some gs
  bare : AllBare s'.gens
  live : GenLive w A1 h₀ Lg l ol tr (N + 1 - j) keep gs
  j_is : J j m nx
noncomputable def GenTurn (h₀ : Heap) (L Lg : Addr) (own : List (Addr × Obj)) (s₁ : Shared) (Q : Flow → Shared → Prop) (J : Nat → (Str → Option Value) → List (Addr × Obj) → Prop) (N j : Nat) (f : Flow) (s₃ : Shared) : Prop := match f with
  | .next | .cont => j < N ∧ ∃ h' tk' m' nx' led, s₃ = { s₁ with heap := h', toks := tk' } ∧ Fr h₀ L h' m' ∧ News h₀ L h' led ∧ (∀ p ∈ nx', p ∈ led) ∧ (∀ p ∈ own, p ∈ led) ∧ NoIt Lg nx' ∧ J (j + 1) m' nx'
  | .brk => Q .next s₃
  | .ret v => Q (.ret v) s₃

theorem for_gen (J : Nat → (Str → Option Value) → List (Addr × Obj) → Prop) {m : Str → Option Value} {nx : List (Addr × Obj)} {gs : GenState} {oL : Obj} {R : Result → Shared → Prop}
    (hh : A.handled = none) (hroom : A.depth < recursionLimit) (hlim : h₀.NoLimit) (hx : env.kindOf x = some .local) (hp : (env.scope.kind == .class || (env.scope.kind == .module && env.locals != env.globals)) = false) (hloc : env.locals = L)
    (hLL : L ≠ Lg) (hLg : h₀.get? Lg = none)
    (F : Fr h₀ L s.heap m) (News' : News h₀ L s.heap (nx ++ (a, genO g t1 t2) :: (Lg, oL) :: rest)) (hgs : s.gens[g]? = some gs) (hb : AllBare s.gens) (live : GenLive w A.in1 h₀ Lg l ol tr (N + 1) [(Lg, oL)] gs)
    (hl : (l, ol) ∈ rest) (hrest : NoIt Lg rest) (haL : a ≠ Lg) (hnx : NoIt Lg nx) (hJ : J 0 m nx)
    (turn : ∀ j m nx y t st' I oI oL s₁, j ≤ N → J j m nx → NoIt Lg nx → gout (tr (N + 1 - j)) = some (some (y, st')) → AllBare s₁.gens → s₁.os = s.os → Fr h₀ L s₁.heap (fun z => if z = x then some (.int y t) else m z) →
      News h₀ L s₁.heap (nx ++ (a, genO g t1 t2) :: (Lg, oL) :: (I, oI) :: rest) → IsIt oI →
      wpAny (model PG w) A (execs body env) (GenTurn h₀ L Lg ((a, genO g t1 t2) :: (Lg, oL) :: (I, oI) :: rest) s₁ (fun f s' => R (.ok f) s') J N j) (fun _ _ => False) s₁)
    (done : ∀ j m nx s₁, j ≤ N → J j m nx → gout (tr (N + 1 - j)) = some none → AllBare s₁.gens → s₁.os = s.os → Fr h₀ L s₁.heap m → News h₀ L s₁.heap (nx ++ rest) → R (.ok .next) s₁) :
    codeAny (model PG w) A (.forLoop (.Name x px) (.ref a) body [] env) R s := by
  refine codeAny_forLoop (fun n s' => ∃ j m nx keep gs, GnInv w A.in1 h₀ L Lg l a ol (genO g t1 t2) tr g N s.os rest J n s' j m nx keep gs) ?_ (N + 1) ⟨0, m, nx, [(Lg, oL)], gs, ⟨Nat.zero_le _, rfl, rfl, F, News', hnx, hgs, hb, live, hJ⟩⟩
  rintro n s' ⟨j, m', nx', keep, gs', hI⟩
  have hj := hI.le
  have hnn := hI.n_is
  have hos := hI.os_is
  have F' := hI.fr
  have N' := hI.news
  have hnx' := hI.no_it
  have hgs' := hI.gen
  have hb' := hI.bare
  have live' := hI.live
  have hJ' := hI.j_is
  clear hI
  subst hnn
  obtain ⟨k, hk⟩ : ∃ k, N + 1 - j = k + 1 := ⟨N - j, by lia⟩
  rw [hk] at live'
  have memA : (a, genO g t1 t2) ∈ nx' ++ (a, genO g t1 t2) :: (keep ++ rest) := List.mem_append.mpr (.inr (.head _))
  have memK : ∀ p ∈ keep, p ∈ nx' ++ (a, genO g t1 t2) :: (keep ++ rest) := fun p hp => List.mem_append.mpr (.inr (.tail _ (List.mem_append.mpr (.inl hp))))
  have memR : ∀ p ∈ rest, p ∈ nx' ++ (a, genO g t1 t2) :: (keep ++ rest) := fun p hp => List.mem_append.mpr (.inr (.tail _ (List.mem_append.mpr (.inr hp))))
  have frame : ∀ s₁ : Shared, (∀ b o, b ≠ Lg → Safe Lg b o → s'.heap.get? b = some o → s₁.heap.get? b = some o) → Over h₀ s₁.heap → Fr h₀ L s₁.heap m' := by
    intro s₁ hkept hov
    obtain ⟨oF, es, ep, hF, hFd, hFr⟩ := F'.ns
    exact ⟨⟨oF, es, ep, hkept _ _ hLL (.inl fun ⟨_, vs, e⟩ => by rw [hFd] at e; cases e) hF, hFd, hFr⟩, hov, F'.above⟩
  have led : ∀ s₁ : Shared, (∀ b o, b ≠ Lg → Safe Lg b o → s'.heap.get? b = some o → s₁.heap.get? b = some o) → ∀ p, p ∈ nx' ++ (a, genO g t1 t2) :: (keep ++ rest) → p.1 ≠ Lg → Safe Lg p.1 p.2 → s₁.heap.get? p.1 = some p.2 ∧ p.1 ≠ L ∧ h₀.get? p.1 = none :=
    fun s₁ hkept p hp h1 h2 => ⟨hkept _ _ h1 h2 (N' p hp).1, (N' p hp).2⟩
  refine gen_pull (n := k) hh (hlim.keeps F'.keep) hroom ⟨genO g t1 t2, _, _, (N' _ memA).1, rfl, rfl, rfl⟩ hgs' hb' live' (fun p hp => (N' p (memK p hp)).1) (N' _ (memR _ hl)).1 F'.keep ?_ ?_
  · intro y t st' s₁ gs₁ I oI oL₁ hgo hkept hov hg1 hb1 hos1 _ hI1 hI2 hI3 hI4 hI5 hlive
    have F₁ := frame s₁ hkept hov
    have hIL : I ≠ L := by
      intro e
      obtain ⟨oF, es, ep, hF, hFd, hFr⟩ := F₁.ns
      rw [← e, hI4] at hF
      obtain ⟨_, vs, q⟩ := hI3
      rw [Option.some.inj hF, hFd] at q
      cases q
    have N₁ : News h₀ L s₁.heap (nx' ++ (a, genO g t1 t2) :: (Lg, oL₁) :: (I, oI) :: rest) := by
      intro p hp
      rcases List.mem_append.mp hp with hp | hp
      · exact led s₁ hkept p (List.mem_append.mpr (.inl hp)) (hnx' p hp).1 (hnx' p hp).2
      · rcases List.mem_cons.mp hp with rfl | hp
        · exact led s₁ hkept _ memA haL (.inl noIt_gen)
        · rcases List.mem_cons.mp hp with rfl | hp
          · exact ⟨hI5, Ne.symm hLL, hLg⟩
          · rcases List.mem_cons.mp hp with rfl | hp
            · exact ⟨hI4, hIL, hI2⟩
            · exact led s₁ hkept p (memR p hp) (hrest p hp).1 (hrest p hp).2
    show wpAny _ _ (assign (.Name x px) env (.int y t)) _ _ s₁
    refine PyProof.Rows.assign_Name (wpAny_storeName_local hx (hloc.symm ▸ F₁.ns) (fun h₂ hn₂ hs₂ => ?_) hp)
    rw [hloc] at hn₂ hs₂
    have F₂ : Fr h₀ L h₂ (fun z => if z = x then some (.int y t) else m' z) := F₁.set hn₂ hs₂
    have N₂ := N₁.set hs₂
    refine wpAny_mono (turn j m' nx' y t st' I oI oL₁ { s₁ with heap := h₂, toks := s₁.toks + 1 } hj hJ' hnx' (hk ▸ hgo) hb1 (hos1.trans hos) F₂ N₂ hI3) (fun f s₃ h₃ => ?_) fun _ _ e => e.elim
    have fin : (j < N ∧ ∃ h' tk' m'' nx'' led', s₃ = { ({ s₁ with heap := h₂, toks := s₁.toks + 1 } : Shared) with heap := h', toks := tk' } ∧ Fr h₀ L h' m'' ∧ News h₀ L h' led' ∧ (∀ p ∈ nx'', p ∈ led') ∧ (∀ p ∈ (a, genO g t1 t2) :: (Lg, oL₁) :: (I, oI) :: rest, p ∈ led') ∧ NoIt Lg nx'' ∧ J (j + 1) m'' nx'') →
        ∃ n', n' < N + 1 - j ∧ ∃ j m nx keep gs, GnInv w A.in1 h₀ L Lg l a ol (genO g t1 t2) tr g N s.os rest J n' s₃ j m nx keep gs := by
      rintro ⟨hjN, h', tk', m'', nx'', led', rfl, F₃, N₃, e1, e2, e3, e4⟩
      refine ⟨N + 1 - (j + 1), Nat.sub_succ_lt_self _ _ (Nat.lt_succ_of_lt hjN), j + 1, m'', nx'', [(Lg, oL₁), (I, oI)], gs₁, ⟨hjN, rfl, hos1.trans hos, F₃, fun p hp => ?_, e3, hg1, hb1, ?_, e4⟩⟩
      · rcases List.mem_append.mp hp with hp | hp
        · exact N₃ p (e1 p hp)
        · exact N₃ p (e2 p hp)
      · have : N + 1 - (j + 1) = k := by rw [Nat.sub_add_eq, hk]; rfl
        rw [this]
        exact hlive (by lia)
    cases f with
    | next => exact fin h₃
    | cont => exact fin h₃
    | brk => exact h₃
    | ret v => exact h₃
  · intro hgo s₁ hkept hov hb1 hos1 _
    refine wpAny_execs_nil (done j m' nx' s₁ hj hJ' (hk ▸ hgo) hb1 (hos1.trans hos) (frame s₁ hkept hov) fun p hp => ?_)
    rcases List.mem_append.mp hp with hp | hp
    · exact led s₁ hkept p (List.mem_append.mpr (.inl hp)) (hnx' p hp).1 (hnx' p hp).2
    · exact led s₁ hkept p (memR p hp) (hrest p hp).1 (hrest p hp).2
end
end
section
noncomputable def ConG (w : World) (f : Addr) (vs : List Value) (news : List (Addr × Obj)) (dk : Nat) (pre : Prop) (Ret : (Value → List (Addr × Obj) → Prop)) : Prop :=
  ∀ (p : Program) (loose : List Str) (mean : ExcName → Option Value) (mg mb : Str → Option Value) (dp un : Nat) (gd : Option (List Code)) (cn : Str) (cs : Scope) (a : Addr) (ccd : Value) (cl : List (Str × Addr)) (outer : List Env) (A₀ : Around) (base h₀ : Heap) (L : Addr) (m : Str → Option Value) (s : Shared)
    (Q E : Value → Shared → Prop),
    Below A₀ base outer h₀ → Fr h₀ L s.heap m → (hd.heap_39 w.params).In h₀ → News h₀ L s.heap news → Top p loose mean mg mb h₀ → cs.kind = .function → dp + dk < recursionLimit → un + 8 * dk + 1000 < cLine → pre → AllBare s.gens →
    (∀ v tl s', Ret v tl → Fr h₀ L s'.heap m → News h₀ L s'.heap (tl ++ news) → AllBare s'.gens → s'.os = s.os → Q v s') →
    wpAny (model PG w) (ktrTop dp un gd cn cs L a ccd cl outer) (call (.ref f) vs) Q E s
noncomputable def itG : Nat → GS → GS
  | 0, st => st
  | n + 1, st => gnext (itG n st)
noncomputable def trOf (M : Nat) (st : GS) (k : Nat) : GS := itG (M - k) st
theorem trOf_next (M : Nat) (st : GS) : ∀ k, k < M → trOf M st k = gnext (trOf M st (k + 1)) := fun k h => by
  unfold trOf
  have : M - k = (M - (k + 1)) + 1 := (Nat.succ_pred_eq_of_pos (Nat.sub_pos_of_lt h)).symm
  rw [this]; rfl
theorem trOf_at (M : Nat) (st : GS) {j N : Nat} (h : M = N + 1) (hj : j ≤ N) : trOf M st (N + 1 - j) = itG j st := by
  unfold trOf
  have : M - (N + 1 - j) = j := by rw [h]; exact Nat.sub_sub_self (Nat.le_succ_of_le hj)
  rw [this]
noncomputable def Fine : GS → Prop
  | .at (x :: _) none => x ≠ 0
  | _ => True
theorem fine_gout {st : GS} (h : Fine st) : gout st ≠ none := by
  match st, h with
  | .rep v, _ => exact fun h => nomatch h
  | .at [] _, _ => exact fun h => nomatch h
  | .at (x :: r) last, h =>
    by_cases h1 : x = 127
    · simp [gout, h1]
    · by_cases h2 : x = 0
      · cases last with
        | none => exact absurd h2 h
        | some v => simp [gout, h2]
      · simp [gout, h1, h2]
theorem fine_next {st : GS} (h : Fine st) : Fine (gnext st) := by
  match st, h with
  | .rep v, _ => trivial
  | .at [] _, h => exact h
  | .at (x :: r) last, h =>
    by_cases h1 : x = 127
    · have e : gnext (.at (x :: r) last) = .at (x :: r) last := by simp [gnext, gout, h1]
      rw [e]; exact h
    · by_cases h2 : x = 0
      · cases last with
        | none => exact absurd h2 h
        | some v =>
          have e : gnext (.at (x :: r) (some v)) = .rep v := by simp [gnext, gout, h2]
          rw [e]; trivial
      · have e : gnext (.at (x :: r) last) = .at r (some x) := by simp [gnext, gout, h1, h2]
        rw [e]; cases r <;> trivial
theorem fine_it {st : GS} (h : Fine st) : ∀ n, Fine (itG n st)
  | 0 => h
  | n + 1 => fine_next (fine_it h n)
theorem fine_tr {st : GS} (h : Fine st) (M : Nat) : ∀ k, gout (trOf M st k) ≠ none := fun _ => fine_gout (fine_it h _)
/-- what it tells in its first n turns -/
noncomputable def outs : Nat → GS → List Int
  | 0, _ => []
  | n + 1, st => match gout st with
    | some (some (x, st')) => x :: outs n st'
    | _ => []
theorem itG_succ (n : Nat) (st : GS) : itG (n + 1) st = itG n (gnext st) := by
  induction n with
  | zero => rfl
  | succ n ih => show gnext (itG (n + 1) st) = gnext (itG n (gnext st)); rw [ih]
theorem outs_more {st z : GS} {y : Int} (q : gout st = some (some (y, z))) (k : Nat) : outs (k + 1) st = y :: outs k z := by simp [outs, q]
theorem outs_none {st : GS} (q : ∀ y z, gout st ≠ some (some (y, z))) (k : Nat) : outs k st = [] := by
  cases k with
  | zero => rfl
  | succ k =>
    cases h : gout st with
    | none => simp [outs, h]
    | some r => cases r with
      | none => simp [outs, h]
      | some yz => exact absurd h (q yz.1 yz.2)
theorem outs_head {n : Nat} {st : GS} (hl : (outs (n + 1) st).length = n + 1) : ∃ y z, gout st = some (some (y, z)) ∧ gnext st = z ∧ (outs n z).length = n := by
  cases h : gout st with
  | none => rw [outs_none (fun _ _ e => by rw [h] at e; cases e)] at hl; cases hl
  | some r => cases r with
    | none => rw [outs_none (fun _ _ e => by rw [h] at e; cases e)] at hl; cases hl
    | some yz =>
      refine ⟨yz.1, yz.2, rfl, by unfold gnext; rw [h], ?_⟩
      rw [outs_more h] at hl
      simpa using hl
theorem outs_snoc : ∀ (n : Nat) (st : GS) (x : Int) (st' : GS), (outs n st).length = n → gout (itG n st) = some (some (x, st')) → outs (n + 1) st = outs n st ++ [x]
  | 0, st, x, st', _, h => by rw [outs_more (show gout st = some (some (x, st')) from h)]; rfl
  | n + 1, st, x, st', hl, h => by
    obtain ⟨y, z, q, e, hz⟩ := outs_head hl
    rw [itG_succ, e] at h
    rw [outs_more q, outs_more q, outs_snoc n z x st' hz h]; rfl
theorem outs_stop : ∀ (n k : Nat) (st : GS), (outs n st).length = n → gout (itG n st) = some none → n ≤ k → outs k st = outs n st
  | 0, k, st, _, h, _ => outs_none (fun _ _ e => by rw [show gout st = some none from h] at e; cases e) k
  | n + 1, 0, _, _, _, hk => absurd hk (Nat.not_succ_le_zero _)
  | n + 1, k + 1, st, hl, h, hk => by
    obtain ⟨y, z, q, e, hz⟩ := outs_head hl
    rw [itG_succ, e] at h
    rw [outs_more q, outs_more q, outs_stop n k z hz h (by lia)]
end
section
theorem c_gen {w : World} {A : Around} {E : Value → Shared → Prop} {s : Shared} {L l : Addr} {h₀ : Heap} {m : Str → Option Value} {news : List (Addr × Obj)} {Q : Value → Shared → Prop} {vs : List Value} {row : List Int} {c : Nat}
    {p : Program} {loose : List Str} {mean : ExcName → Option Value} {mg mb : Str → Option Value}
    (F : Fr h₀ L s.heap m) (X : (hd.heap_39 w.params).In h₀) (N : News h₀ L s.heap news) (T : Top p loose mean mg mb h₀) (hroom : A.depth < recursionLimit) (hl : (l, listOf vs.toArray c) ∈ news) (hi : IntsAre vs row)
    (hret : ∀ a Lg oL gs h' tk t1 t2, Fr h₀ L h' m → News h₀ L h' ((a, genO s.gens.size t1 t2) :: (Lg, oL) :: news) → Lg < a → (∀ p ∈ news, p.1 < Lg) → L < Lg → gs.bare = true →
      (∀ (A' : Around) (tr : Nat → GS) (n : Nat), A'.handled = none → (∀ k, k < n + 1 → tr k = gnext (tr (k + 1))) → (∀ k, gout (tr k) ≠ none) → tr (n + 1) = .at row none → GenLive w A' h₀ Lg l (listOf vs.toArray c) tr (n + 1) [(Lg, oL)] gs) →
      Q (.ref a) { s with heap := h', gens := s.gens.push gs, toks := tk }) :
    wpAny (model PG w) A (call (.ref 65) [.ref l]) Q E s := by
  k_with_none
  k_dflt (refine' gen_call [(Str.ofString "grouping", .ref l)] F X N T.nolimit ?ho ?hcd hroom ?hbind ?hloc ?_ ?h1 ?h2 ?h3 ?h4)
  case ho => k_is
  case hcd => k_is
  case hbind => exact rfl
  case hloc => exact locs rfl
  case h1 => exact rfl
  case h2 => exact rfl
  case h3 => exact rfl
  case h4 => decide
  intro a Lg oL h' tk t1 t2 F' N' hLa hnL hLL hab hns _ _
  refine hret a Lg oL _ h' tk t1 t2 F' N' hLa hnL hLL rfl ?_
  intro A' tr n hA' htr hno ht
  have hlL : l ≠ Lg := Nat.ne_of_lt (hnL _ hl)
  refine gen_func (x := Str.ofString "interval") (y := Str.ofString "last_interval") (gn := Str.ofString "grouping") ?G htr hno rfl hi hlL hA' ?T1 ?T2 ?T3 ?Tw ?A2 ?A1 ?It ?hs (by decide) hns rfl hab ht
  case G => exact ⟨rfl, rfl, rfl, rfl, rfl, rfl, rfl, by decide, by decide, by decide⟩
  case hs => intro _; rfl
  case T1 =>
    intro A s m v t Q E F hm hQ
    walk1
    refine ld F hm ?_
    k_steps
    all_goals exact hQ _
  case T2 =>
    intro A s m v t Q E F hm hQ
    walk1
    refine ld F hm ?_
    k_steps
    all_goals exact hQ _
  case T3 =>
    intro A s m v t Q E F hm hQ
    walk1
    refine ld F hm ?_
    k_steps
    all_goals exact hQ _
  case Tw =>
    intro A s Q E hQ
    k_steps
    exact hQ
  case It =>
    intro A s m v Q E F hm hQ
    exact ld F hm hQ
  case A2 =>
    intro A s m v Q E F hm hQ
    walk1
    refine ld F hm ?_
    exact wpAny_storeName_local rfl F.ns (fun h' hn hs => hQ h' _ hn hs) rfl
  case A1 =>
    intro A s m Q E F hQ
    walk1
    walk1
    exact wpAny_storeName_local rfl F.ns (fun h' hn hs => hQ h' _ hn hs) rfl
end
section
noncomputable def plainTo (figures : Str) (lines : Int) : Nat → Str
  | 0 => Str.ofString ""
  | k + 1 =>
    if 0 < (figures.length : Int) - 1 - (k : Int) ∧ Int.fmod (Int.fdiv lines (2 ^ ((figures.length : Int) - 1 - (k : Int) - 1).toNat)) 2 = 1
    then (plainTo figures lines k ++ Txt.item figures (k : Int)) ++ Str.ofString "_" else plainTo figures lines k ++ Txt.item figures (k : Int)


theorem pl_len (x : Str) : (x ++ Str.ofString "_").length = x.length + 1 := by
  rw [Str.length_append]; rfl
theorem pl_len' (x f : Str) (k : Int) : (x ++ Txt.item f k).length = x.length + 1 := by
  rw [Str.length_append, len_item]
theorem plain_1 {figures : Str} {lines k : Int} {x : Str} {pre : List Int} (hx : x = plainTo figures lines pre.length) (hl : x.length ≤ 2 * pre.length) (hk : k = 0 + (pre.length : Int))
    (c1 : 0 < (figures.length : Int) - 1 - k) (c2 : (lines.fdiv (2 ^ ((figures.length : Int) - 1 - k - 1).toNat)).fmod 2 = 1) :
    (x ++ Txt.item figures k) ++ Str.ofString "_" = plainTo figures lines (pre ++ [k]).length ∧ ((x ++ Txt.item figures k) ++ Str.ofString "_").length ≤ 2 * (pre ++ [k]).length := by
  rw [Int.zero_add] at hk
  subst hk
  rw [List.length_append, List.length_singleton]
  refine ⟨?_, ?_⟩
  · rw [plainTo, if_pos ⟨c1, c2⟩, hx]
  · rw [pl_len, pl_len']; lia
theorem plain_2 {figures : Str} {lines k : Int} {x : Str} {pre : List Int} (hx : x = plainTo figures lines pre.length) (hl : x.length ≤ 2 * pre.length) (hk : k = 0 + (pre.length : Int))
    (c2 : ¬ (lines.fdiv (2 ^ ((figures.length : Int) - 1 - k - 1).toNat)).fmod 2 = 1) :
    (x ++ Txt.item figures k) = plainTo figures lines (pre ++ [k]).length ∧ (x ++ Txt.item figures k).length ≤ 2 * (pre ++ [k]).length := by
  rw [Int.zero_add] at hk
  subst hk
  rw [List.length_append, List.length_singleton]
  refine ⟨?_, ?_⟩
  · rw [plainTo, if_neg (fun h => c2 h.2), hx]
  · rw [pl_len']; lia
theorem plain_3 {figures : Str} {lines k : Int} {x : Str} {pre : List Int} (hx : x = plainTo figures lines pre.length) (hl : x.length ≤ 2 * pre.length) (hk : k = 0 + (pre.length : Int))
    (c1 : ¬ 0 < (figures.length : Int) - 1 - k) :
    (x ++ Txt.item figures k) = plainTo figures lines (pre ++ [k]).length ∧ (x ++ Txt.item figures k).length ≤ 2 * (pre ++ [k]).length := by
  rw [Int.zero_add] at hk
  subst hk
  rw [List.length_append, List.length_singleton]
  refine ⟨?_, ?_⟩
  · rw [plainTo, if_neg (fun h => c1 h.1), hx]
  · rw [pl_len']; lia

theorem plain_fin {figures : Str} {lines : Int} {x : Str} {t : Tok} (hx : x = plainTo figures lines (rangeKs 0 ((figures.length : Int) - 0).toNat).length) : Value.str x t = Value.str (plainTo figures lines figures.length) t := by
  have e : ((figures.length : Int) - 0).toNat = figures.length := by lia
  rw [rangeKs_length, e] at hx
  rw [hx]

local macro_rules | `(tactic| omega) => `(tactic| lia)
theorem c_plain (w : World) (figures : Str) (lines : Int) (t u : Tok) (news : List (Addr × Obj)) :
    Con w 128 [.str figures t, .int lines u] news 1 (figures.length ≤ 6 ∧ 0 ≤ lines ∧ lines < 32) (fun v tl => tl = [] ∧ ∃ t, v = .str (plainTo figures lines figures.length) t) := by
  unfold Con
  k_with_none
  intro p loose mean mg mb dp un gd cn cs a ccd cl outer A₀ base h₀ L m s Q E B F X N T hk hd hu hpre hret
  obtain ⟨hp1, hp2, hp3⟩ := hpre
  k_with "pyIter ref" => k_state (fun pre text => text = plainTo figures lines pre.length ∧ text.length ≤ 2 * pre.length) "text"
  k_with "state" => first | exact plain_1 (by assumption) (by assumption) (by assumption) (by assumption) (by assumption) | exact plain_2 (by assumption) (by assumption) (by assumption) (by assumption) | exact plain_3 (by assumption) (by assumption) (by assumption) (by assumption) | exact ⟨rfl, Nat.zero_le _⟩
  k_dflt (refine' enterT [(Str.ofString "figures", .str figures t), (Str.ofString "lines", .int lines u)] ?k1 ?k2 ?k3 ?k4 ?k5 ?kA ?kF ?kK ?k6 ?k7 ?k8 ?k9 ?kB ?_ ?c2 ?c3 ?c4 ?c5)
  (case kA => exact rfl)
  (case kF => exact rfl)
  (case kK => first | assumption | exact rfl)
  (case k1 => k_asm)
  (case k2 => k_asm)
  (case k3 => k_asm)
  (case k4 => k_asm)
  (case k5 => k_asm)
  (case k6 => k_is)
  (case k7 => k_is)
  (case k8 => ktr_room)
  (case k9 => exact BindsTo.of_eq rfl)
  (case c5 => decide)
  (case kB => exact locs rfl)
  (case c2 => exact rfl)
  (case c3 => exact rfl)
  (case c4 => exact rfl)
  k_whole
  intro eg eL eh et eFG eF eN eB eX eT
  (try dsimp only)
  (try k_lift eB)
  (try k_fold)
  k_steps
  all_goals (exact hret _ [] _ _ ⟨rfl, _, plain_fin (by assumption)⟩ (by k_asm) (by k_asm))
end
section
/-- ten figures, all unlike, parted between what is drawn and what is left -/
noncomputable def FigOk (figures pool : Str) : Prop := (Lt figures ++ Lt pool).Perm [48, 49, 50, 51, 52, 53, 54, 55, 56, 57]
theorem fmod_bds {a b : Int} (hb : 0 < b) : 0 ≤ a.fmod b ∧ a.fmod b < b := ⟨Int.fmod_nonneg_of_pos _ hb, Int.fmod_lt_of_pos _ hb⟩
theorem item_mod {prog : Program} {w : World} {A : Around} {E : Value → Shared → Prop} {s : Shared} {value slice : PySem.Expr} {x : Str} {t u : Tok} {d : Int} {Q : Value → Shared → Prop}
    (hp : 0 < x.length) (hn : x.length ≤ 16777216) (h : 0 ≤ d.fmod (x.length : Int) → d.fmod (x.length : Int) < (x.length : Int) → (Txt.item x (d.fmod (x.length : Int))).length = 1 → Q (.str (Txt.item x (d.fmod (x.length : Int))) s.toks) { s with toks := s.toks + 1 })
    (hs : subscripted slice false (.str x t) (.int (d.fmod (x.length : Int)) u) = operate [.str x t, .int (d.fmod (x.length : Int)) u] (getItem (.str x t) (.int (d.fmod (x.length : Int)) u)) := by with_unfolding_all rfl)
    (ht : ∀ r, letTemporaryGo value (.str x t) r = pure () := by intro _; with_unfolding_all rfl) :
    wpAny (model prog w) A (subscriptTail value slice (.str x t) (.int (d.fmod (x.length : Int)) u)) Q E s := by
  have b := fmod_bds (a := d) (b := (x.length : Int)) (by lia)
  exact KXi.item rfl (by omega) b.2 hn (h b.1 b.2) hs ht
theorem fig_step {figures pool : Str} {d k : Int} {pre : List Int} (h1 : figures.length = pre.length) (h2 : pool.length + pre.length = 10) (h3 : FigOk figures pool)
    (b0 : 0 ≤ d.fmod (pool.length : Int)) (b1 : d.fmod (pool.length : Int) < (pool.length : Int)) :
    (figures ++ Txt.item pool (d.fmod (pool.length : Int))).length = (pre ++ [k]).length ∧
    (Txt.slice pool none (some (d.fmod (pool.length : Int))) ++ Txt.slice pool (some (d.fmod (pool.length : Int) + 1)) none).length + (pre ++ [k]).length = 10 ∧
    FigOk (figures ++ Txt.item pool (d.fmod (pool.length : Int))) (Txt.slice pool none (some (d.fmod (pool.length : Int))) ++ Txt.slice pool (some (d.fmod (pool.length : Int) + 1)) none) := by
  generalize d.fmod (pool.length : Int) = i at *
  obtain ⟨n, rfl⟩ := Int.eq_ofNat_of_zero_le b0
  have hn : n < (Lt pool).length := by rw [Lt_len]; omega
  have e1 := Lt_item b0 b1
  have e2 := Lt_upto (x := pool) b0
  have e3 := Lt_from (x := pool) (i := (n : Int) + 1) (by lia)
  have t1 : ((n : Int) + 1).toNat = n + 1 := by lia
  rw [Int.toNat_natCast] at e1 e2
  rw [t1] at e3
  have hp := Lt_len pool
  refine ⟨?_, ?_, ?_⟩
  · rw [Str.length_append, len_item, List.length_append, h1]; rfl
  · rw [Str.length_append, ← Lt_len, ← Lt_len, e2, e3, List.length_take, List.length_drop, List.length_append, List.length_singleton]; lia
  · unfold FigOk at h3 ⊢
    rw [Lt_app, Lt_app, e1, e2, e3]
    have hg : (Lt pool).getD n 0 = (Lt pool)[n] := getD_get hn
    have hs : Lt pool = (Lt pool).take n ++ (Lt pool)[n] :: (Lt pool).drop (n + 1) := by
      rw [← List.drop_eq_getElem_cons hn, List.take_append_drop]
    refine List.Perm.trans ?_ h3
    rw [hg, List.append_assoc]
    conv => rhs; rw [hs]
    refine List.Perm.append_left _ ?_
    simp only [List.singleton_append]
    exact List.perm_middle.symm
theorem fig_fin {figures pool : Str} {count : Int} {t : Tok} (h1 : figures.length = (rangeKs 0 (count - 0).toNat).length) (h3 : FigOk figures pool) :
    ([] : List (Addr × Obj)) = [] ∧ ∃ fig pool t', Value.str figures t = .str fig t' ∧ fig.length = count.toNat ∧ FigOk fig pool := by
  rw [rangeKs_length, Int.sub_zero] at h1
  exact ⟨rfl, figures, pool, t, rfl, h1, h3⟩
local macro_rules | `(tactic| omega) => `(tactic| lia)
theorem c_figures (w : World) (draw count : Int) (t u : Tok) (news : List (Addr × Obj)) :
    Con w 86 [.int draw t, .int count u] news 1 (4 ≤ count ∧ count ≤ 6) (fun v tl => tl = [] ∧ ∃ fig pool t, v = .str fig t ∧ fig.length = count.toNat ∧ FigOk fig pool) := by
  unfold Con
  k_with_none
  k_with "my sub" => ((with_reducible show wpAny _ _ (subscriptTail _ _ (Value.str _ _) (Value.int (Int.fmod _ (Nat.cast (Str.length _))) _)) _ _ _); (refine item_mod ?zp ?zn ?_; (case zp => omega); (case zn => omega)); intro _ _ _)
  intro p loose mean mg mb dp un gd cn cs a ccd cl outer A₀ base h₀ L m s Q E B F X N T hk hd hu hpre hret
  obtain ⟨hp1, hp2⟩ := hpre
  k_with "pyIter ref" => k_state (fun pre pool figures (draw : Int) => figures.length = pre.length ∧ pool.length + pre.length = 10 ∧ FigOk figures pool) "pool" "figures" "draw"
  k_with "state" => first | exact ⟨rfl, by decide, by unfold FigOk; decide⟩ | exact fig_step (by assumption) (by assumption) (by assumption) (by assumption) (by assumption)
  k_dflt (refine' enterT [(Str.ofString "draw", .int draw t), (Str.ofString "count", .int count u)] ?k1 ?k2 ?k3 ?k4 ?k5 ?kA ?kF ?kK ?k6 ?k7 ?k8 ?k9 ?kB ?_ ?c2 ?c3 ?c4 ?c5)
  (case kA => exact rfl)
  (case kF => exact rfl)
  (case kK => first | assumption | exact rfl)
  (case k1 => k_asm)
  (case k2 => k_asm)
  (case k3 => k_asm)
  (case k4 => k_asm)
  (case k5 => k_asm)
  (case k6 => k_is)
  (case k7 => k_is)
  (case k8 => ktr_room)
  (case k9 => exact BindsTo.of_eq rfl)
  (case c5 => decide)
  (case kB => exact locs rfl)
  (case c2 => exact rfl)
  (case c3 => exact rfl)
  (case c4 => exact rfl)
  k_whole
  intro eg eL eh et eFG eF eN eB eX eT
  (try dsimp only)
  (try k_lift eB)
  (try k_fold)
  k_steps
  all_goals (exact hret _ [] _ _ (fig_fin (by assumption) (by assumption)) (by k_asm) (by k_asm))
end
section
noncomputable def rowTo (lines : Int) : Nat → List Int × Int
  | 0 => ([], 0)
  | k + 1 => if Int.fmod (Int.fdiv lines (2 ^ k)) 2 = 1 then ((rowTo lines k).1 ++ [(rowTo lines k).2 + 1], 0) else ((rowTo lines k).1, (rowTo lines k).2 + 1)
noncomputable def RowSt (lines : Int) (n : Nat) (row : List Int) (size : Int) : Prop := rowTo lines n = (row, size) ∧ row.length ≤ n ∧ 0 ≤ size ∧ size ≤ n
theorem row_step1 {lines k : Int} {row : List Int} {size : Int} {pre : List Int} (h : RowSt lines pre.length row size) (l : row.length ≤ pre.length) (_z0 : 0 ≤ size) (_z1 : size ≤ pre.length) (hk : k = 0 + (pre.length : Int)) (c : (lines.fdiv (2 ^ k.toNat)).fmod 2 = 1) :
    RowSt lines (pre ++ [k]).length (row ++ [size + 1]) 0 ∧ (row ++ [size + 1]).length ≤ (pre ++ [k]).length ∧ (0 : Int) ≤ 0 ∧ (0 : Int) ≤ (pre ++ [k]).length := by
  have e : k.toNat = pre.length := by lia
  rw [e] at c
  rw [List.length_append, List.length_append, List.length_singleton, List.length_singleton]
  refine ⟨⟨?_, ?_, ?_, ?_⟩, ?_, ?_, ?_⟩
  · rw [rowTo, if_pos c, h.1]
  all_goals first | lia | (rw [List.length_append, List.length_singleton]; lia)
theorem row_step2 {lines k : Int} {row : List Int} {size : Int} {pre : List Int} (h : RowSt lines pre.length row size) (l : row.length ≤ pre.length) (z0 : 0 ≤ size) (z1 : size ≤ pre.length) (hk : k = 0 + (pre.length : Int)) (c : ¬ (lines.fdiv (2 ^ k.toNat)).fmod 2 = 1) :
    RowSt lines (pre ++ [k]).length row (size + 1) ∧ row.length ≤ (pre ++ [k]).length ∧ (0 : Int) ≤ size + 1 ∧ size + 1 ≤ (pre ++ [k]).length := by
  have e : k.toNat = pre.length := by lia
  rw [e] at c
  rw [List.length_append, List.length_singleton]
  refine ⟨⟨?_, ?_, ?_, ?_⟩, ?_, ?_, ?_⟩
  · rw [rowTo, if_neg c, h.1]
  all_goals lia
noncomputable def stripR : List Int → List Int
  | a :: b :: t => if a = b then stripR (b :: t) else a :: b :: t
  | l => l
noncomputable def stripDup (l : List Int) : List Int := (stripR l.reverse).reverse
theorem two_last : ∀ {row : List Int}, 1 < row.length → ∃ t b a, row = t ++ [b, a] := by
  intro row h
  have e := row.take_append_drop (row.length - 2)
  have hl : (row.drop (row.length - 2)).length = 2 := by rw [List.length_drop]; omega
  match hd : row.drop (row.length - 2), hl with
  | [b, a], _ => exact ⟨_, b, a, by rw [hd] at e; exact e.symm⟩
theorem strip_of_short {row : List Int} (h : ¬ 1 < row.length) : stripDup row = row := by
  match row, h with
  | [], _ => rfl
  | [a], _ => rfl
  | _ :: _ :: _, h => exact absurd (by simp) h
theorem strip_of_two (t : List Int) (b a : Int) : stripDup (t ++ [b, a]) = if a = b then stripDup (t ++ [b]) else t ++ [b, a] := by
  unfold stripDup
  rw [List.reverse_append, List.reverse_append]
  show (stripR (a :: b :: t.reverse)).reverse = _
  rw [stripR]
  split
  · rfl
  · simp
theorem getD_last2 (t : List Int) (b a : Int) : (t ++ [b, a]).getD (-1 + ((t ++ [b, a]).length : Int)).toNat 0 = a ∧ (t ++ [b, a]).getD (-2 + ((t ++ [b, a]).length : Int)).toNat 0 = b := by
  have e1 : (-1 + ((t ++ [b, a]).length : Int)).toNat = t.length + 1 := by rw [List.length_append]; simp; lia
  have e2 : (-2 + ((t ++ [b, a]).length : Int)).toNat = t.length := by rw [List.length_append]; simp; (clear e1; lia)
  rw [e1, e2]
  constructor <;> simp [List.getD_eq_getElem?_getD]
theorem strip_stop {row X : List Int} (hP : stripDup row = X ∧ row.length ≤ 5) (h : ¬ row.getD (-2 + (row.length : Int)).toNat 0 = row.getD (-1 + (row.length : Int)).toNat 0) (h1 : 1 < row.length) : X = row := by
  obtain ⟨t, b, a, rfl⟩ := two_last h1
  obtain ⟨e1, e2⟩ := getD_last2 t b a
  rw [e1, e2] at h
  rw [← hP.1, strip_of_two, if_neg (fun e => h e.symm)]
theorem strip_go {row X : List Int} (hP : stripDup row = X ∧ row.length ≤ 5) (h : row.getD (-2 + (row.length : Int)).toNat 0 = row.getD (-1 + (row.length : Int)).toNat 0) (h1 : 1 < row.length) : stripDup (row.take (row.length - 1)) = X ∧ (row.take (row.length - 1)).length ≤ 5 := by
  refine ⟨?_, by rw [List.length_take]; (clear h h1; omega)⟩
  obtain ⟨t, b, a, rfl⟩ := two_last h1
  obtain ⟨e1, e2⟩ := getD_last2 t b a
  rw [e1, e2] at h
  have : (t ++ [b, a]).take ((t ++ [b, a]).length - 1) = t ++ [b] := by
    have : (t ++ [b, a]).length - 1 = (t ++ [b]).length := by simp
    rw [this, show t ++ [b, a] = (t ++ [b]) ++ [a] by simp, List.take_left]
  rw [this, ← hP.1, strip_of_two, if_pos h.symm]
noncomputable def rowF (lines count way : Int) : List Int :=
  let r := rowTo lines (count - 1).toNat
  if way = 1 then r.1 ++ [127, 1] else if way = 2 then (if r.1 = [] ∨ r.1.getD (-1 + (r.1.length : Int)).toNat 0 < r.2 + 1 then r.1 ++ [r.2 + 1, 0, 2] else stripDup r.1 ++ [0, 2]) else if way = 3 then r.1 ++ [126] else r.1
theorem rst {lines count : Int} {r : List Int} {z : Int} (h : RowSt lines (rangeKs 0 (count - 1 - 0).toNat).length r z) : rowTo lines (count - 1).toNat = (r, z) := by
  have := h.1
  rw [rangeKs_length, Int.sub_zero] at this
  exact this
theorem row_P {lines count : Int} {r : List Int} {z : Int} (h : RowSt lines (rangeKs 0 (count - 1 - 0).toNat).length r z) (hc : count ≤ 6) : stripDup r = stripDup (rowTo lines (count - 1).toNat).1 ∧ r.length ≤ 5 := by
  rw [rst h]
  refine ⟨rfl, ?_⟩
  have := h.2.1
  rw [rangeKs_length] at this
  omega
theorem row_e1 {lines count way : Int} {r : List Int} {z : Int} {ws : List Value} (h : RowSt lines (rangeKs 0 (count - 1 - 0).toNat).length r z) (w : way = 1) (hI : IntsAre ws (r ++ [127, 1])) : IntsAre ws (rowF lines count way) := by
  unfold rowF; rw [rst h]; simpa [w] using hI
theorem row_e2 {lines count way : Int} {r : List Int} {z : Int} {ws : List Value} (h : RowSt lines (rangeKs 0 (count - 1 - 0).toNat).length r z) (w : way = 2) (c : decide (r = []) = true) (hI : IntsAre ws (r ++ [z + 1, 0, 2])) : IntsAre ws (rowF lines count way) := by
  unfold rowF; rw [rst h]; rw [if_neg (by lia), if_pos w, if_pos (.inl (of_decide_eq_true c))]; exact hI
theorem row_e3 {lines count way : Int} {r : List Int} {z : Int} {ws : List Value} (h : RowSt lines (rangeKs 0 (count - 1 - 0).toNat).length r z) (w : way = 2) (c : r.getD (-1 + (r.length : Int)).toNat 0 < z + 1) (hI : IntsAre ws (r ++ [z + 1, 0, 2])) : IntsAre ws (rowF lines count way) := by
  unfold rowF; rw [rst h]; rw [if_neg (by lia), if_pos w, if_pos (.inr c)]; exact hI
theorem row_e4 {lines count way : Int} {r row : List Int} {z : Int} {ws : List Value} (h : RowSt lines (rangeKs 0 (count - 1 - 0).toNat).length r z) (w : way = 2) (c1 : decide (r = []) = false) (c : ¬ r.getD (-1 + (r.length : Int)).toNat 0 < z + 1)
    (hP : stripDup row = stripDup (rowTo lines (count - 1).toNat).1 ∧ row.length ≤ 5) (a : 1 < (row.length : Int)) (b : row.getD (-2 + (row.length : Int)).toNat 0 ≠ row.getD (-1 + (row.length : Int)).toNat 0) (hI : IntsAre ws (row ++ [0, 2])) : IntsAre ws (rowF lines count way) := by
  have e := strip_stop ⟨rfl, hP.2⟩ b (by lia)
  unfold rowF
  rw [if_neg (by lia), if_pos w, if_neg, ← hP.1, e]
  · exact hI
  · rw [rst h]; rintro (q | q)
    · exact of_decide_eq_false c1 q
    · exact c q
theorem row_e5 {lines count way : Int} {r row : List Int} {z : Int} {ws : List Value} (h : RowSt lines (rangeKs 0 (count - 1 - 0).toNat).length r z) (w : way = 2) (c1 : decide (r = []) = false) (c : ¬ r.getD (-1 + (r.length : Int)).toNat 0 < z + 1)
    (hP : stripDup row = stripDup (rowTo lines (count - 1).toNat).1 ∧ row.length ≤ 5) (a : ¬ 1 < (row.length : Int)) (hI : IntsAre ws (row ++ [0, 2])) : IntsAre ws (rowF lines count way) := by
  have e := strip_of_short (row := row) (by lia)
  unfold rowF
  rw [if_neg (by lia), if_pos w, if_neg, ← hP.1, e]
  · exact hI
  · rw [rst h]; rintro (q | q)
    · exact of_decide_eq_false c1 q
    · exact c q
theorem row_e6 {lines count way : Int} {r : List Int} {z : Int} {ws : List Value} (h : RowSt lines (rangeKs 0 (count - 1 - 0).toNat).length r z) (w : way = 3) (hI : IntsAre ws (r ++ [126])) : IntsAre ws (rowF lines count way) := by
  unfold rowF; rw [rst h]; simpa [w] using hI
theorem row_e7 {lines count way : Int} {r : List Int} {z : Int} {ws : List Value} (h : RowSt lines (rangeKs 0 (count - 1 - 0).toNat).length r z) (w1 : way ≠ 1) (w2 : way ≠ 2) (w3 : way ≠ 3) (hI : IntsAre ws r) : IntsAre ws (rowF lines count way) := by
  unfold rowF; rw [rst h]; simpa [w1, w2, w3] using hI
theorem row_news {h₀ h : Heap} {L D : Addr} {o : Obj} {full news : List (Addr × Obj)} (N : News h₀ L h full) (hm : (D, o) ∈ full) (hs : ∀ p ∈ news, p ∈ full) : News h₀ L h ([(D, o)] ++ news) := fun p hp => by
  rcases List.mem_cons.mp hp with rfl | hp
  · exact N _ hm
  · exact N _ (hs p hp)
noncomputable def ListRet (ns : List Int) (v : Value) (tl : List (Addr × Obj)) : Prop := ∃ r vs c, v = .ref r ∧ tl = [(r, listOf (List.toArray vs) c)] ∧ IntsAre vs ns
local macro_rules | `(tactic| walk_at "exec While BoolOp cons nil") => `(tactic| (k_here; k_extra "my while"))
local macro_rules | `(tactic| omega) => `(tactic| lia)
theorem c_row (w : World) (lines count way : Int) (t u v : Tok) (news : List (Addr × Obj)) :
    Con w 93 [.int lines t, .int count u, .int way v] news 1 (0 ≤ lines ∧ lines < 32 ∧ 4 ≤ count ∧ count ≤ 6 ∧ 0 ≤ way ∧ way < 4) (ListRet (rowF lines count way)) := by
  unfold Con
  k_with_none
  k_with "my sub" => ((with_reducible show wpAny _ _ (subscriptTail _ _ (Value.ref _) (Value.int _ _)) _ _ _); k_dflt (refine' sub_neg_ints ?zl ?zi ?za ?zb ?zc ?_; (case zl => exact isList_of (by k_asm) (by k_mem)); (case zi => assumption); (case za => decide); (case zb => first | omega | (rename decide (_ = []) = false => hz; have hz2 := List.length_pos_iff.mpr (of_decide_eq_false hz); omega)); (case zc => decide)); intro _)
  intro p loose mean mg mb dp un gd cn cs a ccd cl outer A₀ base h₀ L m s Q E B F X N T hk hd hu hpre hret
  obtain ⟨hp1, hp2, hp3, hp4, hp5, hp6⟩ := hpre
  k_with "pyIter ref" => k_state (fun pre row size => RowSt lines pre.length row size ∧ row.length ≤ pre.length ∧ 0 ≤ size ∧ size ≤ pre.length) "row" "size"
  k_with "state" => k_dflt first | exact ⟨⟨rfl, Nat.zero_le _, by decide, by decide⟩, Nat.zero_le _, by decide, by decide⟩ | exact row_step1 (by assumption) (by assumption) (by assumption) (by assumption) (by assumption) (by assumption) | exact row_step2 (by assumption) (by assumption) (by assumption) (by assumption) (by assumption) (by assumption)
  k_dflt (refine' enterT [(Str.ofString "lines", .int lines t), (Str.ofString "count", .int count u), (Str.ofString "way", .int way v)] ?k1 ?k2 ?k3 ?k4 ?k5 ?kA ?kF ?kK ?k6 ?k7 ?k8 ?k9 ?kB ?_ ?c2 ?c3 ?c4 ?c5)
  (case kA => exact rfl)
  (case kF => exact rfl)
  (case kK => first | assumption | exact rfl)
  (case k1 => k_asm)
  (case k2 => k_asm)
  (case k3 => k_asm)
  (case k4 => k_asm)
  (case k5 => k_asm)
  (case k6 => k_is)
  (case k7 => k_is)
  (case k8 => ktr_room)
  (case k9 => exact BindsTo.of_eq rfl)
  (case c5 => decide)
  (case kB => exact locs rfl)
  (case c2 => exact rfl)
  (case c3 => exact rfl)
  (case c4 => exact rfl)
  k_whole
  intro eg eL eh et eFG eF eN eB eX eT
  (try dsimp only)
  (try k_lift eB)
  (try k_fold)
  k_with "my while" => (rename Fr _ _ _ _ => lF'; rename News _ _ _ _ => lN'; refine' While_lst (Str.ofString "row") news (fun row => stripDup row = stripDup (rowTo lines (count - 1).toNat).1 ∧ row.length ≤ 5) lF' lN' rfl ?zm ?zk ?zi ?zP ?_; (case zm => k_mem); (case zi => assumption); (case zk => exact fun p hp => .tail _ (.tail _ hp)); (case zP => exact row_P (by assumption) (by assumption)); intro _ _ _ _ _ _ _ _ _ _)
  k_steps
  all_goals try
    (refine' hret _ _ _ _ ⟨_, _, _, rfl, rfl, ?e⟩ ?zF (row_news ?zN ?m ?s)
     case zF => k_asm
     case zN => k_asm
     case m => k_mem
     case s => (intro p hp; repeat (first | exact hp | apply List.Mem.tail))
     case e => first
        | exact row_e1 (by assumption) (by assumption) (by assumption)
        | exact row_e2 (by assumption) (by assumption) (by assumption) (by assumption)
        | exact row_e3 (by assumption) (by assumption) (by assumption) (by assumption)
        | exact row_e4 (by assumption) (by assumption) (by assumption) (by assumption) (by assumption) (by assumption) (by assumption) (by assumption)
        | exact row_e5 (by assumption) (by assumption) (by assumption) (by assumption) (by assumption) (by assumption) (by assumption)
        | exact row_e6 (by assumption) (by assumption) (by assumption)
        | exact row_e7 (by assumption) (by assumption) (by assumption) (by assumption) (by assumption))
  refine' LstTurn.intro ?zF ?zN ?zm ?zk ?zr ?zq ?zi ?zl (strip_go ?z1 ?z2 ?z3)
  case zF => k_asm
  case zN => k_asm
  case zm => k_mem
  case zr => rfl
  case zk => exact fun p hp => .tail _ (.tail _ hp)
  case zi => assumption
  case zl => (rw [List.length_take]; omega)
  case z1 => assumption
  case z2 => assumption
  case z3 => omega
  case zq =>
    intro z hz
    simp only [hz, if_false]
end
section
noncomputable def ListRet' (ns : List Int) (v : Value) (tl : List (Addr × Obj)) : Prop := ∃ r vs c, v = .ref r ∧ tl = [(r, listOf (List.toArray vs) c)] ∧ IntsAre vs ns
/-- a generator's loop's turn: the frame but for the loop's name, the told list at its place -/
noncomputable def ToldJ (lt : Addr) (st : GS) (x nm : Str) (m0 : Str → Option Value) (j : Nat) (m : Str → Option Value) (nx : List (Addr × Obj)) : Prop :=
  (∃ u : Str → Option Value, m = fun z => if z = x then u z else if z = nm then some (.ref lt) else m0 z) ∧ ∃ ws c, nx = [(lt, listOf (List.toArray ws) c)] ∧ IntsAre ws (outs j st) ∧ (outs j st).length = j
theorem toldJ_at {lt : Addr} {st : GS} {x nm : Str} {m0 : Str → Option Value} (_ : nm ≠ x) : ToldJ lt st x nm m0 0 (fun z => if z = nm then some (.ref lt) else m0 z) [(lt, listOf #[] 0)] := by
  refine ⟨⟨fun z => if z = nm then some (.ref lt) else m0 z, ?_⟩, [], 0, rfl, .nil, rfl⟩
  funext z
  by_cases h : z = x
  · simp [h]
  · simp [h]
theorem noIt_of {Lg : Addr} {news : List (Addr × Obj)} (h1 : ∀ p ∈ news, p.1 < Lg) : NoIt Lg news := fun p hp => ⟨Nat.ne_of_lt (h1 p hp), .inr (h1 p hp)⟩
theorem reord3 {α : Type} {x a b : α} {l : List α} : ∀ p ∈ [x] ++ a :: b :: l, p ∈ a :: b :: x :: l := by
  intro p hp
  simp only [List.mem_append, List.mem_cons, List.not_mem_nil, or_false] at hp ⊢
  rcases hp with h | h | h | h
  · exact .inr (.inr (.inl h))
  · exact .inl h
  · exact .inr (.inl h)
  · exact .inr (.inr (.inr h))
theorem it_ne {h₀ h : Heap} {L I lt : Addr} {oI : Obj} {vs : Array Value} {c : Nat} {led : List (Addr × Obj)} (N : News h₀ L h led) (h1 : (I, oI) ∈ led) (h2 : (lt, listOf vs c) ∈ led) (hI : IsIt oI) : I ≠ lt := by
  intro e
  have a := (N _ h1).1
  have b := (N _ h2).1
  rw [e] at a
  rw [show (lt, listOf vs c).1 = lt from rfl] at b
  have : oI = listOf vs c := Option.some.inj (a.symm.trans b)
  rw [this] at hI
  exact noIt_list hI
theorem noIt_one {Lg lt : Addr} {vs : Array Value} {c : Nat} (h : lt < Lg) : NoIt Lg [(lt, listOf vs c)] := fun p hp => by
  rw [List.mem_singleton.mp hp]
  exact ⟨Nat.ne_of_lt h, .inl noIt_list⟩
theorem push_at {gens : Array GenState} {gs : GenState} : (gens.push gs)[gens.size]? = some gs := by simp
theorem told_turn {h₀ h' : Heap} {L Lg lt : Addr} {s₁ : Shared} {R : Flow → Shared → Prop} {x nm : Str} {u m0 : Str → Option Value} {st st' : GS} {j c' tk' : Nat} {ws : List Value} {y : Int} {t : Tok} {own : List (Addr × Obj)}
    (F : Fr h₀ L h' (fun z => if z = x then some (.int y t) else if z = x then u z else if z = nm then some (.ref lt) else m0 z)) (N : News h₀ L h' ((lt, listOf (ws.toArray.push (.int y t)) c') :: own))
    (hws : IntsAre ws (outs j st)) (hlen : (outs j st).length = j) (hgo : gout (trOf 10 st (9 + 1 - j)) = some (some (y, st'))) (hj : j ≤ 9) (hn : ((outs j st).length : Int) ≠ 9) (hlt : lt < Lg) :
    GenTurn h₀ L Lg own s₁ R (ToldJ lt st x nm m0) 9 j .next { s₁ with heap := h', toks := tk' } := by
  rw [trOf_at 10 st rfl hj] at hgo
  have e := outs_snoc j st y st' hlen hgo
  refine ⟨by lia, h', tk', _, [(lt, listOf (ws.toArray.push (.int y t)) c')], _, rfl, F, N, fun p hp => ?_, fun p hp => .tail _ hp, noIt_one hlt, ⟨fun z => if z = x then some (.int y t) else none, ?_⟩, ws ++ [.int y t], c', ?_, ?_, ?_⟩
  · rw [List.mem_singleton.mp hp]; exact .head _
  · funext z
    by_cases h : z = x <;> simp [h]
  · simp
  · rw [e]; exact hws.append (.cons y t .nil)
  · rw [e, List.length_append, hlen]; rfl
theorem told_fin {st : GS} {j : Nat} {ws : List Value} (hws : IntsAre ws (outs j st)) (hj : ((outs j st).length : Int) = 9) (hlen : (outs j st).length = j) : IntsAre ws (outs 9 st) := by
  have : j = 9 := by lia
  rw [← this]; exact hws
theorem told_end {st : GS} {j : Nat} {ws : List Value} (hws : IntsAre ws (outs j st)) (hj : j ≤ 9) (hlen : (outs j st).length = j) (hgo : gout (trOf 10 st (9 + 1 - j)) = some none) : IntsAre ws (outs 9 st) := by
  rw [trOf_at 10 st rfl hj] at hgo
  rw [outs_stop j 9 st hlen hgo hj]; exact hws
local macro_rules | `(tactic| omega) => `(tactic| lia)
theorem c_told (w : World) (l : Addr) (vs : List Value) (c : Nat) (row : List Int) (news : List (Addr × Obj)) :
    ConG w 100 [.ref l] news 3 ((l, listOf vs.toArray c) ∈ news ∧ IntsAre vs row ∧ Fine (.at row none)) (ListRet' (outs 9 (.at row none))) := by
  unfold ConG
  k_with_none
  intro p loose mean mg mb dp un gd cn cs a ccd cl outer A₀ base h₀ L m s Q E B F X N T hk hd hu hpre hbare hret
  obtain ⟨hl, hi, hf⟩ := hpre
  k_dflt (refine' enterT [(Str.ofString "row", .ref l)] ?k1 ?k2 ?k3 ?k4 ?k5 ?kA ?kF ?kK ?k6 ?k7 ?k8 ?k9 ?kB ?_ ?c2 ?c3 ?c4 ?c5)
  (case kA => exact rfl)
  (case kF => exact rfl)
  (case kK => first | assumption | exact rfl)
  (case k1 => k_asm)
  (case k2 => k_asm)
  (case k3 => k_asm)
  (case k4 => k_asm)
  (case k5 => k_asm)
  (case k6 => k_is)
  (case k7 => k_is)
  (case k8 => ktr_room)
  (case k9 => exact BindsTo.of_eq rfl)
  (case c5 => decide)
  (case kB => exact locs rfl)
  (case c2 => exact rfl)
  (case c3 => exact rfl)
  (case c4 => exact rfl)
  k_whole
  intro eg eL eh et eFG eF eN eB eX eT
  (try dsimp only)
  (try k_lift eB)
  (try k_fold)
  k_with_none
  k_with "gen for" => k_dflt (refine wpAny_For ?_ (by intro _; rfl))
  k_with "gen call" => k_dflt (
    refine' c_gen (by k_asm) (by k_asm) (by k_asm) (by k_asm) (by ktr_room) (.tail _ hl) hi ?_
    intro a Lg oL gs h' tk t1 t2 F' N' hLa hnL hLL hgb hlive
    refine wpAny_pyIter_gen ⟨_, _, _, (N' _ (.head _)).1, rfl, rfl, rfl⟩ ?_
    refine' for_gen (ToldJ _ (.at row none) (Str.ofString "size") (Str.ofString "told") (fun y => List.lookup y [(Str.ofString "row", .ref l)].reverse)) (N := 9) (rest := news) (Lg := Lg) (a := a) (l := l) (tr := trOf 10 (.at row none))
      rfl (by ktr_room) (Top.nolimit (by k_asm)) rfl rfl rfl (Nat.ne_of_lt hLL) (N' _ (.tail _ (.head _))).2.2 F' ?zn push_at (hbare.push hgb) (hlive _ _ 9 rfl (trOf_next 10 _) (fine_tr hf 10) rfl) hl (noIt_of (fun p hp => hnL p (.tail _ hp))) (Nat.ne_of_gt hLa) ?znx (toldJ_at (by decide)) ?turn ?done
    case zn => exact fun p hp => N' p (reord3 p hp)
    case znx => exact noIt_one (hnL _ (.head _))
    case' turn =>
      intro j m' nx' y t st' I oI oL2 s₁ hj hJ hnx hgo hb1 hos1 F1 N1 hIt
      obtain ⟨⟨u, rfl⟩, ws, cc, rfl, hws, hlen⟩ := hJ
      have hlt := hnL _ (.head _)
      dsimp only at hlt
      simp only [List.cons_append, List.nil_append] at N1
      dsimp only at F1
      have hwl := hws.length
      have hwz : ws.length ≤ 9 := by omega
      have hIlt := it_ne N1 (.tail _ (.tail _ (.tail _ (.head _)))) (.head _) hIt
      have q1 := ltN hlt
      have q2 := ltN hLa
      have q3 := neN hIlt
    case' done =>
      intro j m' nx' s₁ hj hJ hgo hb1 hos1 F1 N1
      obtain ⟨⟨u, rfl⟩, ws, cc, rfl, hws, hlen⟩ := hJ)
  k_steps
  case' turn.refine'_9.refine'_4.refine'_3.refine_1 => (dsimp only [GenTurn])
  k_steps
  all_goals first
    | exact told_turn (by assumption) (by assumption) (by assumption) (by assumption) (by assumption) (by assumption) (by assumption) (by assumption)
    | exact hret _ [(_, _)] _ ⟨_, _, _, rfl, rfl, told_fin (by assumption) (by assumption) (by assumption)⟩ (by k_asm) (row_news (by k_asm) (.head _) (fun p hp => .tail _ (.tail _ (.tail _ (.tail _ hp))))) (by assumption) (by assumption)
    | exact hret _ [(_, _)] _ ⟨_, _, _, rfl, rfl, told_end (by assumption) (by assumption) (by assumption) (by assumption)⟩ (by k_asm) (row_news (by k_asm) (.head _) (fun p hp => .tail _ hp)) (by assumption) (by assumption)
end
section
noncomputable def sizesF (row : List Int) (way : Int) : List Int :=
  if way = 1 then row.take (row.length - 2) else if way = 2 then (row.take (row.length - 2) ++ (List.replicate 9 [row.getD (-3 + (row.length : Int)).toNat 0]).flatten).take 9 else row
noncomputable def ListAt (ns : List Int) (news : List (Addr × Obj)) (v : Value) (tl : List (Addr × Obj)) : Prop := (∀ p ∈ tl, ¬ IsIt p.2) ∧ ∃ r ws c', v = .ref r ∧ (r, listOf (List.toArray ws) c') ∈ tl ++ news ∧ IntsAre ws ns
theorem listAt_one {ns : List Int} {news : List (Addr × Obj)} {D : Addr} {ws : List Value} {c : Nat} (h : IntsAre ws ns) : ListAt ns news (.ref D) [(D, listOf ws.toArray c)] :=
  ⟨fun p hp => by rw [List.mem_singleton.mp hp]; exact noIt_list, D, ws, c, rfl, .head _, h⟩
theorem siz1 {row : List Int} {way : Int} {ws : List Value} (w : way = 1) (h : IntsAre ws (row.take (row.length - 2))) : IntsAre ws (sizesF row way) := by unfold sizesF; rw [if_pos w]; exact h
theorem siz2 {row : List Int} {way : Int} {ws : List Value} (w1 : way ≠ 1) (w : way = 2) (h : IntsAre ws ((row.take (row.length - 2) ++ (List.replicate 9 [row.getD (-3 + (row.length : Int)).toNat 0]).flatten).take 9)) : IntsAre ws (sizesF row way) := by unfold sizesF; rw [if_neg w1, if_pos w]; exact h
theorem siz3 {row : List Int} {way : Int} {ws : List Value} (w1 : way ≠ 1) (w2 : way ≠ 2) (h : IntsAre ws row) : IntsAre ws (sizesF row way) := by unfold sizesF; rw [if_neg w1, if_neg w2]; exact h
local macro_rules | `(tactic| omega) => `(tactic| lia)
theorem c_sizes (w : World) (l : Addr) (vs : List Value) (c : Nat) (row : List Int) (way : Int) (t : Tok) (news : List (Addr × Obj)) :
    Con w 107 [.ref l, .int way t] news 1 ((l, listOf vs.toArray c) ∈ news ∧ IntsAre vs row ∧ row.length ≤ 20 ∧ (way = 2 → 3 ≤ row.length)) (ListAt (sizesF row way) news) := by
  unfold Con
  k_with_none
  intro p loose mean mg mb dp un gd cn cs a ccd cl outer A₀ base h₀ L m s Q E B F X N T hk hd hu hpre hret
  obtain ⟨hl, hi, hlen, hw2⟩ := hpre
  k_with_none
  k_with "my sub" => k_dflt (
    (with_reducible show wpAny _ _ (subscriptTail _ _ (Value.ref _) (Value.int _ _)) _ _ _)
    refine' sub_neg_ints ?zl ?zi ?za ?zb ?zc ?_
    case zl => exact isList_of (by k_asm) (.tail _ hl)
    case zi => assumption
    case za => decide
    case zb => (have hz := hw2 (by assumption); omega)
    case zc => decide
    intro _)
  k_dflt (refine' enterT [(Str.ofString "row", .ref l), (Str.ofString "way", .int way t)] ?k1 ?k2 ?k3 ?k4 ?k5 ?kA ?kF ?kK ?k6 ?k7 ?k8 ?k9 ?kB ?_ ?c2 ?c3 ?c4 ?c5)
  (case kA => exact rfl)
  (case kF => exact rfl)
  (case kK => first | assumption | exact rfl)
  (case k1 => k_asm)
  (case k2 => k_asm)
  (case k3 => k_asm)
  (case k4 => k_asm)
  (case k5 => k_asm)
  (case k6 => k_is)
  (case k7 => k_is)
  (case k8 => ktr_room)
  (case k9 => exact BindsTo.of_eq rfl)
  (case c5 => decide)
  (case kB => exact locs rfl)
  (case c2 => exact rfl)
  (case c3 => exact rfl)
  (case c4 => exact rfl)
  k_whole
  intro eg eL eh et eFG eF eN eB eX eT
  (try dsimp only)
  (try k_lift eB)
  (try k_fold)
  k_steps
  all_goals first
    | exact hret _ _ _ _ (listAt_one (siz1 (by assumption) (by assumption))) (by k_asm) (row_news (by k_asm) (.head _) (fun p hp => .tail _ hp))
    | exact hret _ _ _ _ (listAt_one (siz2 (by assumption) (by assumption) (by assumption))) (by k_asm) (row_news (by k_asm) (.head _) (fun p hp => by repeat (first | exact hp | apply List.Mem.tail)))
    | exact hret _ [] _ _ ⟨fun _ hp => (nomatch hp), l, _, _, rfl, hl, siz3 (by assumption) (by assumption) hi⟩ (by k_asm) (by k_asm)
end
section
noncomputable def wrStep (p : List Str × Str) (y : Int) : List Str × Str := (Txt.slice p.2 (some (-y)) none :: p.1, Txt.slice p.2 none (some (-y)))
noncomputable def wrGo : List Int → List Str × Str → List Str × Str
  | [], p => p
  | y :: r, p => if p.2 = Str.ofString "" then p else wrGo r (wrStep p y)
/-- the turns of the loop: it stands while text is left -/
noncomputable def WrJ (figures : Str) (st : GS) (x : Str) (m0 : Str → Option Value) (j : Nat) (m : Str → Option Value) (nx : List (Addr × Obj)) : Prop :=
  ∃ (u : Str → Option Value) (lg : Addr) (left : Str) (tk : Tok) (ws : List Value) (c : Nat) (gs : List Str), (m = fun z => if z = x then u z else if z = Str.ofString "left" then some (.str left tk) else if z = Str.ofString "groups" then some (.ref lg) else m0 z) ∧
    nx = [(lg, listOf (List.toArray ws) c)] ∧ StrsAre ws gs ∧ (outs j st).length = j ∧ (∀ rest, wrGo (outs j st ++ rest) ([], figures) = wrGo rest (gs, left)) ∧ left.length + j ≤ figures.length ∧ gs.length = j ∧ (∀ g ∈ gs, g.length ≤ 6)
theorem wrJ_at {figures : Str} {st : GS} {x : Str} {m0 : Str → Option Value} {lg : Addr} {tk : Tok} : WrJ figures st x m0 0 (fun z => if z = Str.ofString "left" then some (.str figures tk) else if z = Str.ofString "groups" then some (.ref lg) else m0 z) [(lg, listOf #[] 0)] := by
  refine ⟨fun z => if z = Str.ofString "left" then some (.str figures tk) else if z = Str.ofString "groups" then some (.ref lg) else m0 z, lg, figures, tk, [], 0, [], ?_, rfl, .nil, rfl, fun _ => rfl, Nat.le_refl _, rfl, fun _ h => nomatch h⟩
  funext z
  by_cases h : z = x <;> simp [h]
noncomputable def Sized (st : GS) : Prop := ∀ k y st', gout (itG k st) = some (some (y, st')) → 1 ≤ y ∧ y ≤ 200
noncomputable def writtenF (figures : Str) (row : List Int) : Str :=
  let p := wrGo (outs 9 (.at row none)) ([], figures)
  if p.2 = Str.ofString "" then Txt.join (Str.ofString "_") p.1 else Txt.join (Str.ofString "_") (p.2 :: p.1)
theorem outs_pre : ∀ (j k : Nat) (st : GS), (outs j st).length = j → j ≤ k → ∃ rest, outs k st = outs j st ++ rest
  | 0, k, st, _, _ => ⟨outs k st, rfl⟩
  | j + 1, 0, _, _, h => absurd h (Nat.not_succ_le_zero _)
  | j + 1, k + 1, st, hl, h => by
    obtain ⟨y, z, q, e, hz⟩ := outs_head hl
    obtain ⟨rest, hr⟩ := outs_pre j k z hz (by lia)
    exact ⟨rest, by rw [outs_more q, outs_more q, hr]; rfl⟩
theorem str_ne {x : Str} (h : (x == Str.ofString "") = false) : x ≠ Str.ofString "" ∧ 1 ≤ x.length := by
  have h1 : x ≠ Str.ofString "" := by
    intro e; rw [e] at h; exact absurd h (by decide)
  refine ⟨h1, ?_⟩
  rcases Nat.eq_zero_or_pos x.length with q | q
  · have e : Lt x = [] := List.eq_nil_of_length_eq_zero (by rw [Lt_len]; exact q)
    exact absurd (Lt_inj (x := x) (y := Str.ofString "") (by rw [e]; rfl)) h1
  · exact q
theorem wr_turn {h₀ h4 h' : Heap} {L Lg lg l2 : Addr} {s₁ : Shared} {R : Flow → Shared → Prop} {figures left : Str} {x : Str} {u m0 : Str → Option Value} {st st' : GS} {j tk' : Nat} {ws : List Value} {gss : List Str} {y : Int} {t t1 t2 t3 : Tok} {own led4 : List (Addr × Obj)} {o2 o3 oL : Obj}
    (F : Fr h₀ L h' (fun z => if z = Str.ofString "left" then some (.str (Txt.slice left none (some (-y))) t2) else if z = Str.ofString "groups" then some (.ref h4.objs.size) else if z = x then some (.int y t) else if z = x then u z else if z = Str.ofString "left" then some (.str left t3) else if z = Str.ofString "groups" then some (.ref lg) else m0 z))
    (N : News h₀ L h' ((h4.objs.size, ({ cls := .type "list", data := .seq (#[Value.str (Txt.slice left (some (-y)) none) t1].toList ++ ws.toArray.toList).toArray } : Obj)) :: (l2, o2) :: (lg, o3) :: own))
    (N4 : News h₀ L h4 led4) (m4 : (Lg, oL) ∈ led4)
    (hws : StrsAre ws gss) (hol : (outs j st).length = j) (hgo : gout (trOf 10 st (9 + 1 - j)) = some (some (y, st'))) (hj : j ≤ 9) (hsz : 1 ≤ y ∧ y ≤ 200) (hne : (left == Str.ofString "") = false) (hll : left.length + j ≤ figures.length) (hlen : figures.length ≤ 6)
    (hwr : ∀ rest, wrGo (outs j st ++ rest) ([], figures) = wrGo rest (gss, left)) (hgl : gss.length = j) (hg6 : ∀ g ∈ gss, g.length ≤ 6) :
    GenTurn h₀ L Lg own s₁ R (WrJ figures st x m0) 9 j .next { s₁ with heap := h', toks := tk' } := by
  rw [trOf_at 10 st rfl hj] at hgo
  have e := outs_snoc j st y st' hol hgo
  obtain ⟨ne1, ne2⟩ := str_ne hne
  have e1 : (Txt.slice left none (some (-y))).length + 1 ≤ left.length := by
    rw [← Lt_len, Lt_uptoN (by omega), List.length_take, Lt_len, Int.neg_neg]; exact Nat.lt_of_le_of_lt (Nat.min_le_left _ _) (Nat.sub_lt ne2 (by (clear F N N4 m4 hws hol hgo hj hne hll hlen hwr hgl hg6 e ne1 ne2; omega)))
  have hLg : Lg < h4.objs.size := Heap.lt_size (N4 _ m4).1
  refine ⟨by (clear F N N4 m4 hws hol hgo hj hsz hne hwr hgl hg6 e ne1 ne2 e1 hLg; lia), h', tk', _, [(h4.objs.size, ({ cls := .type "list", data := .seq (#[Value.str (Txt.slice left (some (-y)) none) t1].toList ++ ws.toArray.toList).toArray } : Obj))], _, rfl, F, N, fun p hp => ?_, fun p hp => .tail _ (.tail _ (.tail _ hp)), fun p hp => ?_,
    (fun z => if z = Str.ofString "left" then some (.str (Txt.slice left none (some (-y))) t2) else if z = Str.ofString "groups" then some (.ref h4.objs.size) else if z = x then some (.int y t) else if z = x then u z else if z = Str.ofString "left" then some (.str left t3) else if z = Str.ofString "groups" then some (.ref lg) else m0 z), h4.objs.size, Txt.slice left none (some (-y)), t2, .str (Txt.slice left (some (-y)) none) t1 :: ws, 0, Txt.slice left (some (-y)) none :: gss, ?_, rfl, .cons _ _ hws, ?_, ?_, by lia, ?_, ?_⟩
  · rw [List.mem_singleton.mp hp]; exact .head _
  · rw [List.mem_singleton.mp hp]; exact ⟨Nat.ne_of_gt hLg, (.inl noIt_list)⟩
  · funext z
    by_cases h : z = x
    · exact (if_pos h).symm
    · rw [if_neg h, if_neg h, if_neg h]
      by_cases h1 : z = Str.ofString "left"
      · rw [if_pos h1, if_pos h1]
      · rw [if_neg h1, if_neg h1]
        by_cases h2 : z = Str.ofString "groups"
        · subst h2
          rw [if_pos rfl, if_neg h1, if_pos rfl]
        · rw [if_neg h2, if_neg h2, if_neg h1, if_neg h2]
  · rw [e, List.length_append, hol]; rfl
  · intro rest
    rw [e, List.append_assoc, hwr]
    show (if left = Str.ofString "" then _ else wrGo rest (wrStep (gss, left) y)) = _
    rw [if_neg ne1]; rfl
  · rw [List.length_cons, hgl]
  · intro g hg
    rcases List.mem_cons.mp hg with rfl | hg
    · exact Nat.le_trans (Txt.slice_le _ _ _) (by (clear F N N4 m4 hws hol hgo hj hsz hne hwr hgl hg6 e ne1 ne2 e1 hLg hg; lia))
    · exact hg6 g hg
theorem sum_six : ∀ (l : List Str), (∀ g ∈ l, g.length ≤ 6) → (l.map (·.length)).sum ≤ 6 * l.length
  | [], _ => Nat.le_refl _
  | g :: r, h => by
    have h1 := h g (.head _)
    have h2 := sum_six r fun x hx => h x (.tail _ hx)
    rw [List.map_cons, List.sum_cons, List.length_cons]; lia
theorem wr_weight {gs : List Str} {j : Nat} (h : ∀ g ∈ gs, g.length ≤ 6) (hl : gs.length = j) (hj : j ≤ 9) : (gs.map (·.length)).sum + gs.length ≤ 1048576 := by
  have := sum_six gs h
  lia
theorem wr_weight2 {gs : List Str} {j n : Nat} {left : Str} (h : ∀ g ∈ gs, g.length ≤ 6) (hl : gs.length = j) (hj : j ≤ 9) (h2 : left.length + j ≤ n) (h3 : n ≤ 6) : ((left :: gs).map (·.length)).sum + (left :: gs).length ≤ 1048576 := by
  have := sum_six gs h
  rw [List.map_cons, List.sum_cons, List.length_cons]; lia
theorem wr_all {figures left : Str} {row : List Int} {j : Nat} {gss : List Str} (hj : j ≤ 9) (hol : (outs j (.at row none)).length = j) (hgo : gout (trOf 10 (.at row none) (9 + 1 - j)) = some none)
    (hwr : ∀ rest, wrGo (outs j (.at row none) ++ rest) ([], figures) = wrGo rest (gss, left)) : wrGo (outs 9 (.at row none)) ([], figures) = (gss, left) := by
  rw [trOf_at 10 _ rfl hj] at hgo
  rw [outs_stop j 9 _ hol hgo hj]
  have := hwr []
  rw [List.append_nil] at this
  rw [this]; rfl
theorem wr_end1 {figures left : Str} {row : List Int} {j : Nat} {gss : List Str} (hj : j ≤ 9) (hol : (outs j (.at row none)).length = j) (hgo : gout (trOf 10 (.at row none) (9 + 1 - j)) = some none)
    (hwr : ∀ rest, wrGo (outs j (.at row none) ++ rest) ([], figures) = wrGo rest (gss, left)) (hne : (left == Str.ofString "") = false) : Txt.join (Str.ofString "_") (left :: gss) = writtenF figures row := by
  unfold writtenF
  rw [wr_all hj hol hgo hwr]
  dsimp only
  rw [if_neg (str_ne hne).1]
theorem wr_end2 {figures left : Str} {row : List Int} {j : Nat} {gss : List Str} (hj : j ≤ 9) (hol : (outs j (.at row none)).length = j) (hgo : gout (trOf 10 (.at row none) (9 + 1 - j)) = some none)
    (hwr : ∀ rest, wrGo (outs j (.at row none) ++ rest) ([], figures) = wrGo rest (gss, left)) (hne : (left == Str.ofString "") = true) : Txt.join (Str.ofString "_") gss = writtenF figures row := by
  unfold writtenF
  rw [wr_all hj hol hgo hwr]
  dsimp only
  rw [if_pos (eq_of_beq hne)]
theorem wr_end3 {figures left : Str} {row : List Int} {j : Nat} {gss : List Str} (hj : j ≤ 9) (hol : (outs j (.at row none)).length = j)
    (hwr : ∀ rest, wrGo (outs j (.at row none) ++ rest) ([], figures) = wrGo rest (gss, left)) (hne : (left == Str.ofString "") = true) : Txt.join (Str.ofString "_") gss = writtenF figures row := by
  have hl : left = Str.ofString "" := eq_of_beq hne
  obtain ⟨rest, hr⟩ := outs_pre j 9 (.at row none) hol hj
  have e : wrGo (outs 9 (.at row none)) ([], figures) = (gss, left) := by
    rw [hr, hwr]
    cases rest with
    | nil => rfl
    | cons y r => show (if left = _ then _ else _) = _; rw [if_pos hl]
  unfold writtenF
  rw [e]
  dsimp only
  rw [if_pos hl]
theorem str_bne {x y : Str} (h : (x == y) = true) (h2 : (x != y) = true) : False := by
  rw [eq_of_beq h] at h2
  simp at h2
theorem bne_f {x y : Str} (h : (x != y) = false) : (x == y) = true := by simpa using h
theorem bne_t {x y : Str} (h : (x != y) = true) : (x == y) = false := by simpa using h
theorem news_sub {h₀ h : Heap} {L : Addr} {full news : List (Addr × Obj)} (N : News h₀ L h full) (hs : ∀ p ∈ news, p ∈ full) : News h₀ L h ([] ++ news) := fun p hp => N p (hs p hp)
local macro_rules | `(tactic| omega) => `(tactic| lia)
theorem c_written (w : World) (figures : Str) (tf : Tok) (l : Addr) (vs : List Value) (c : Nat) (row : List Int) (news : List (Addr × Obj)) :
    ConG w 121 [.str figures tf, .ref l] news 3 ((l, listOf vs.toArray c) ∈ news ∧ IntsAre vs row ∧ Fine (.at row none) ∧ Sized (.at row none) ∧ figures.length ≤ 6) (fun v tl => tl = [] ∧ ∃ t, v = .str (writtenF figures row) t) := by
  unfold ConG
  k_with_none
  intro p loose mean mg mb dp un gd cn cs a ccd cl outer A₀ base h₀ L m s Q E B F X N T hk hd hu hpre hbare hret
  obtain ⟨hl, hi, hf, hsz, hlen⟩ := hpre
  k_with_none
  k_dflt (refine' enterT [(Str.ofString "figures", .str figures tf), (Str.ofString "row", .ref l)] ?k1 ?k2 ?k3 ?k4 ?k5 ?kA ?kF ?kK ?k6 ?k7 ?k8 ?k9 ?kB ?_ ?c2 ?c3 ?c4 ?c5)
  (case kA => exact rfl)
  (case kF => exact rfl)
  (case kK => first | assumption | exact rfl)
  (case k1 => k_asm)
  (case k2 => k_asm)
  (case k3 => k_asm)
  (case k4 => k_asm)
  (case k5 => k_asm)
  (case k6 => k_is)
  (case k7 => k_is)
  (case k8 => ktr_room)
  (case k9 => exact BindsTo.of_eq rfl)
  (case c5 => decide)
  (case kB => exact locs rfl)
  (case c2 => exact rfl)
  (case c3 => exact rfl)
  (case c4 => exact rfl)
  k_whole
  intro eg eL eh et eFG eF eN eB eX eT
  (try dsimp only)
  (try k_lift eB)
  (try k_fold)
  k_with "gen for" => k_dflt (refine wpAny_For ?_ (by intro _; rfl))
  k_with "gen call" => k_dflt (
    refine' c_gen (by k_asm) (by k_asm) (by k_asm) (by k_asm) (by ktr_room) (.tail _ hl) hi ?_
    intro a Lg oL gs h' tk t1 t2 F' N' hLa hnL hLL hgb hlive
    refine wpAny_pyIter_gen ⟨_, _, _, (N' _ (.head _)).1, rfl, rfl, rfl⟩ ?_
    refine' for_gen (WrJ figures (.at row none) (Str.ofString "size") (fun y => List.lookup y [(Str.ofString "figures", .str figures tf), (Str.ofString "row", .ref l)].reverse)) (N := 9) (rest := news) (Lg := Lg) (a := a) (l := l) (tr := trOf 10 (.at row none))
      rfl (by ktr_room) (Top.nolimit (by k_asm)) rfl rfl rfl (Nat.ne_of_lt hLL) (N' _ (.tail _ (.head _))).2.2 F' ?zn push_at (hbare.push hgb) (hlive _ _ 9 rfl (trOf_next 10 _) (fine_tr hf 10) rfl) hl (noIt_of (fun p hp => hnL p (.tail _ hp))) (Nat.ne_of_gt hLa) ?znx wrJ_at ?turn ?done
    case zn => exact fun p hp => N' p (reord3 p hp)
    case znx => exact noIt_one (hnL _ (.head _))
    case' turn =>
      intro j m' nx' y t st' I oI oL2 s₁ hj hJ hnx hgo hb1 hos1 F1 N1 hIt
      obtain ⟨u, lg, left, tl, ws, cc, gss, rfl, rfl, hws, hol, hwr, hll, hgl, hg6⟩ := hJ
      have hsize := hsz _ _ _ (trOf_at 10 (.at row none) rfl hj ▸ hgo)
      simp only [List.cons_append, List.nil_append] at N1
      dsimp only at F1
      have hwl := hws.length
    case' done =>
      intro j m' nx' s₁ hj hJ hgo hb1 hos1 F1 N1
      obtain ⟨u, lg, left, tl, ws, cc, gss, rfl, rfl, hws, hol, hwr, hll, hgl, hg6⟩ := hJ
      simp only [List.cons_append, List.nil_append] at N1
      dsimp only at F1
      have hwl := hws.length)
  k_with "my join" => k_dflt first
    | (refine join_listW (News.isList (by assumption) (.head _)) (by assumption) (by decide) (wr_weight (by assumption) (by assumption) (by assumption)) ?_; intro _ _)
    | (refine join_listW (News.isList (by assumption) (.tail _ (.head _))) (by assumption) (by decide) (wr_weight (by assumption) (by assumption) (by assumption)) ?_; intro _ _)
    | (refine join_listW (News.isList (by assumption) (.head _)) (.cons _ _ (by assumption)) (by decide) (wr_weight2 (by assumption) (by assumption) (by assumption) (by assumption) (by assumption)) ?_; intro _ _)
  k_steps
  case' turn.refine'_4.refine_1 => (dsimp only [GenTurn])
  k_steps
  all_goals first
    | exact wr_turn (by assumption) (by assumption) (by assumption) (.tail _ (.tail _ (.tail _ (.head _)))) (by assumption) (by assumption) (by assumption) (by assumption) (by assumption) (by assumption) (by assumption) (by assumption) (by assumption) (by assumption) (by assumption)
    | exact (str_bne (by assumption) (by assumption)).elim
    | exact hret _ [] _ ⟨rfl, _, congrArg (fun z => Value.str z _) (wr_end1 (by assumption) (by assumption) (by assumption) (by assumption) (bne_t (by assumption)))⟩ (by k_asm) (news_sub (by k_asm) (fun p hp => by first | exact .tail _ (.tail _ (.tail _ hp)) | exact .tail _ (.tail _ (.tail _ (.tail _ hp))) | exact .tail _ (.tail _ (.tail _ (.tail _ (.tail _ hp)))) | exact .tail _ (.tail _ hp) | exact .tail _ hp)) (by assumption) (by assumption)
    | exact hret _ [] _ ⟨rfl, _, congrArg (fun z => Value.str z _) (wr_end2 (by assumption) (by assumption) (by assumption) (by assumption) (bne_f (by assumption)))⟩ (by k_asm) (news_sub (by k_asm) (fun p hp => by first | exact .tail _ (.tail _ (.tail _ hp)) | exact .tail _ (.tail _ (.tail _ (.tail _ hp))) | exact .tail _ (.tail _ (.tail _ (.tail _ (.tail _ hp)))) | exact .tail _ (.tail _ hp) | exact .tail _ hp)) (by assumption) (by assumption)
    | exact hret _ [] _ ⟨rfl, _, congrArg (fun z => Value.str z _) (wr_end3 (by assumption) (by assumption) (by assumption) (by assumption))⟩ (by k_asm) (news_sub (by k_asm) (fun p hp => by first | exact .tail _ (.tail _ (.tail _ hp)) | exact .tail _ (.tail _ (.tail _ (.tail _ hp))) | exact .tail _ (.tail _ (.tail _ (.tail _ (.tail _ hp)))) | exact .tail _ (.tail _ hp) | exact .tail _ hp)) (by assumption) (by assumption)
end
section
noncomputable def replyOf (text mark : Str) : Str := Str.ofString "229 go (" ++ Txt.mul mark 3 ++ text ++ mark ++ Str.ofString ") 7"
local macro_rules | `(tactic| omega) => `(tactic| lia)
theorem c_reply (w : World) (text mark : Str) (t u : Tok) (news : List (Addr × Obj)) :
    Con w 135 [.str text t, .str mark u] news 1 (text.length ≤ 20 ∧ mark.length = 1) (fun v tl => tl = [] ∧ ∃ t, v = .str (replyOf text mark) t) := by
  unfold Con
  k_with_none
  intro p loose mean mg mb dp un gd cn cs a ccd cl outer A₀ base h₀ L m s Q E B F X N T hk hd hu hpre hret
  obtain ⟨hp1, hp2⟩ := hpre
  have hm3 : (Txt.mul mark 3).length = 3 := by
    have := len_mul mark 3
    rw [hp2] at this
    simp at this
    omega
  k_dflt (refine' enterT [(Str.ofString "text", .str text t), (Str.ofString "mark", .str mark u)] ?k1 ?k2 ?k3 ?k4 ?k5 ?kA ?kF ?kK ?k6 ?k7 ?k8 ?k9 ?kB ?_ ?c2 ?c3 ?c4 ?c5)
  (case kA => exact rfl)
  (case kF => exact rfl)
  (case kK => first | assumption | exact rfl)
  (case k1 => k_asm)
  (case k2 => k_asm)
  (case k3 => k_asm)
  (case k4 => k_asm)
  (case k5 => k_asm)
  (case k6 => k_is)
  (case k7 => k_is)
  (case k8 => ktr_room)
  (case k9 => exact BindsTo.of_eq rfl)
  (case c5 => decide)
  (case kB => exact locs rfl)
  (case c2 => exact rfl)
  (case c3 => exact rfl)
  (case c4 => exact rfl)
  k_whole
  intro eg eL eh et eFG eF eN eB eX eT
  (try dsimp only)
  (try k_lift eB)
  (try k_fold)
  k_steps
  all_goals (exact hret _ [] _ _ ⟨rfl, _, rfl⟩ (by k_asm) (by k_asm))
end
section
/-- the same for a def that catches: only from the law's own frame -/
noncomputable def ConS (w : World) (f : Addr) (vs : List Value) (news : List (Addr × Obj)) (dk : Nat) (pre : Prop) (Ret : (Value → List (Addr × Obj) → Prop)) : Prop :=
  ∀ (p : Program) (loose : List Str) (mean : ExcName → Option Value) (mg mb : Str → Option Value) (dp un : Nat) (gd : Option (List Code)) (cn : Str) (cs : Scope) (a : Addr) (ccd : Value) (A₀ : Around) (base h₀ : Heap) (L : Addr) (m : Str → Option Value) (s : Shared)
    (Q E : Value → Shared → Prop),
    Below A₀ base [] h₀ → Fr h₀ L s.heap m → (hd.heap_39 w.params).In h₀ → News h₀ L s.heap news → Top p loose mean mg mb h₀ → (hd.heap_39 w.params).In base → Top p loose mean mg mb base → cs.kind = .function → dp + dk < recursionLimit → un + 8 * dk + 1000 < cLine → pre →
    (∀ v tl h' tk', Ret v tl → Fr h₀ L h' m → News h₀ L h' (tl ++ news) → Q v { s with heap := h', toks := tk' }) →
    wpAny (model PG w) (ktrTop dp un gd cn cs L a ccd [] []) (call (.ref f) vs) Q E s
section
variable {prog : Program} {w : World} {A A₀ : Around} {s : Shared} {K : Frag} {L : Addr} {h₀ base : Heap} {m mg mb : Str → Option Value} {news : List (Addr × Obj)} {p : Program} {loose : List Str} {mean : ExcName → Option Value}
theorem enterS (binds : List (Str × Value)) {cn : Str} {cs : Scope} {a : Addr} {ccd : Value} {E : Value → Shared → Prop} {Q : Value → Shared → Prop} {name qual : Str} {params : Arguments} {body : List Stmt} {scope : Scope} {dV kV doc pm cdv ct oc : Value} {an od : Option Addr} {osl : Array (Option Value)} {f : Addr} {pos : List Value}
    (B : Below A₀ base [] h₀) (F : Fr h₀ L s.heap m) (X₀ : K.In h₀) (N : News h₀ L s.heap news) (T : Top p loose mean mg mb h₀) (hA : A.frames = some [envOf cn cs L a ccd]) (hke : cs.kind = .function)
    (ho : K.lookup f = some ⟨oc, od, .func (fnOf name qual params body scope dV kV doc pm an cdv ct), osl⟩) (hcd : codeIn K cdv qual = true) (hroom : A.depth < recursionLimit)
    (hbind : BindsTo s (fnOf name qual params body scope dV kV doc pm an cdv ct) ⟨pos, []⟩ binds) (hloc : ∀ y ∈ binds, scope.names.lookup y.1 = some .local)
    (h : ∀ g L' h₁ tk, Fr h₀ L g m → Fr g L' h₁ (fun y => binds.reverse.lookup y) → News g L' h₁ news → Below A base [envOf cn cs L a ccd] g → K.In g → Top p loose mean mg mb g → KtsDicts ([envOf cn cs L a ccd].filterMap (·.frame)) g →
      wpAny (model prog w) (A.deeper (envOf qual scope L' f cdv)) (execs body (envOf qual scope L' f cdv))
        (fun fl s' => LeaveS0 ([envOf cn cs L a ccd].filterMap (·.frame)) h₀ L m g (fun r s' => match r with | .ok (.ret v) => Q v s' | .ok _ => False | .error e => E e s') (match fl with | .ret v => v | _ => .none) s')
        (fun e s' => wpAny (model prog w) (A.deeper (envOf qual scope L' f cdv)) (leaving (envOf qual scope L' f cdv) e) (fun _ s'' => E e s'') (fun e' s'' => E e' s'') s')
        { s with heap := h₁, toks := tk })
    (hco : scope.isCoroutine = false) (hgen : scope.isGenerator = false) (hk : scope.kind = .function)
    (hcell : ∀ x ∈ scope.names, x.2 ≠ .cell) : wpAny (model prog w) A (call (.ref f) pos) Q E s :=
  wpAny_call (code_defS0 B F X₀ N T hA ho hcd hroom hbind hloc (fun g L' h₁ FG F' N' B' X' T' D' => h g L' h₁ _ FG F' N' B' X' T' D') hke hco hgen hk hcell)
end
end
section
noncomputable abbrev tupOf (vs : List Value) : Obj := { cls := .type "tuple", data := .seq vs.toArray }
/-- the pieces between the brackets -/
noncomputable def pieces (resp : Str) : List Str := Txt.split (Txt.slice resp (some (Txt.find resp (Str.ofString "(") + 1)) (some (Txt.find3 resp (Str.ofString ")") (Txt.find resp (Str.ofString "(") + 1)))) (Txt.item resp (Txt.find resp (Str.ofString "(") + 1))
structure Reply (resp mark : Str) (port : Int) : Prop where
  len : resp.length ≤ 40
  len2 : 14 ≤ resp.length
  head : Txt.slice resp none (some 3) = Str.ofString "229"
  left : Txt.find resp (Str.ofString "(") = 7
  right : Txt.find3 resp (Str.ofString ")") (Txt.find resp (Str.ofString "(") + 1) = (resp.length : Int) - 3
  m1 : Txt.item resp (Txt.find resp (Str.ofString "(") + 1) = mark
  m2 : Txt.item resp (Txt.find3 resp (Str.ofString ")") (Txt.find resp (Str.ofString "(") + 1) - 1) = mark
  int : ∀ y, (pieces resp).length = 5 → (pieces resp)[3]? = some y → y.length ≤ 640 ∧ PySem.intText? y = some port
theorem bne_no {x y : Str} (h : x = y) (h2 : (x != y) = true) : False := by
  rw [h] at h2
  simp at h2
theorem read_int {l : List (Str × Tok)} {P : List Str} {y : Str} {port : Int} (h1 : List.map (fun x => x.1) l = P) (h2 : (l.length : Int) = 5) (h3 : (List.map (fun x => x.1) l)[Int.toNat 3]? = some y) (hint : ∀ y, P.length = 5 → P[3]? = some y → y.length ≤ 640 ∧ PySem.intText? y = some port) : y.length ≤ 640 ∧ PySem.intText? y = some port := by
  subst h1
  refine hint y ?_ h3
  rw [List.length_map]; lia
theorem pieces_5 {l : List (Str × Tok)} {P : List Str} (h1 : List.map (fun x => x.1) l = P) (h2 : (l.length : Int) = 5) : P.length = 5 := by
  rw [← h1, List.length_map]; lia
theorem pieces_n {l : List (Str × Tok)} {P : List Str} (h1 : List.map (fun x => x.1) l = P) (h2 : ¬ (l.length : Int) = 5) : P.length ≠ 5 := by
  rw [← h1, List.length_map]; lia
noncomputable def ReadRet (resp : Str) (port : Int) (v : Value) (tl : List (Addr × Obj)) : Prop :=
  ((pieces resp).length = 5 ∧ ∃ D t1 t2, v = .ref D ∧ tl = [(D, tupOf [.str (Str.ofString "h") t1, .int port t2])]) ∨ ((pieces resp).length ≠ 5 ∧ v = .none ∧ tl = [])
local macro_rules | `(tactic| omega) => `(tactic| lia)
theorem c_read (w : World) (resp mark : Str) (port : Int) (t : Tok) (news : List (Addr × Obj)) :
    ConS w 142 [.str resp t] news 3 (Reply resp mark port) (ReadRet resp port) := by
  unfold ConS
  k_with_none
  intro p loose mean mg mb dp un gd cn cs a ccd A₀ base h₀ L m s Q E B F X N T XB TB hk hd hu hpre hret
  obtain ⟨hlen, hlen2, h229, hleft, hright, hm1, hm2, hint⟩ := hpre
  k_dflt (refine' enterS [(Str.ofString "reply", .str resp t)] ?k1 ?k2 ?k3 ?k4 ?k5 ?kA ?kK ?k6 ?k7 ?k8 ?k9 ?kB ?_ ?c2 ?c3 ?c4 ?c5)
  (case kA => exact rfl); (case kK => first | assumption | exact rfl); (case k1 => k_asm); (case k2 => k_asm); (case k3 => k_asm); (case k4 => k_asm); (case k5 => k_asm); (case k6 => k_is); (case k7 => k_is); (case k8 => ktr_room); (case k9 => exact BindsTo.of_eq rfl); (case c5 => decide); (case kB => exact locs rfl); (case c2 => exact rfl); (case c3 => exact rfl); (case c4 => exact rfl)
  k_whole; intro g' L' h' tk' FG' F' N' B' X' T' D'; (try dsimp only); (try k_lift B'); (try k_fold)
  k_with "gen call" => k_dflt ((refine' enter2 (Str.ofString "resp") (Str.ofString "peer") ?k1 ?k2 ?k3 ?k4 ?k5 ?kA ?kF ?kK ?k6 ?k7 ?k8 ?k9 ?kB ?_ ?c2 ?c3 ?c4 ?c5); (case kA => exact rfl); (case kF => exact rfl); (case kK => first | assumption | exact rfl); (case k1 => k_asm); (case k2 => k_asm); (case k3 => k_asm); (case k4 => k_asm); (case k5 => k_asm); (case k6 => k_is); (case k7 => k_is); (case k8 => ktr_room); (case k9 => exact BindsTo.of_eq rfl); (case c5 => decide); (case kB => exact locs rfl); (case c2 => exact rfl); (case c3 => exact rfl); (case c4 => exact rfl); k_whole; intro eg eL eh et eFG eF eN eB eX eT; (try dsimp only); (try k_lift eB); (try k_fold))
  k_with "my int" => k_dflt (have hy := read_int (by assumption) (by assumption) (by assumption) hint; refine KIN.call_text hy.2 hy.1 ?_)
  k_steps
  all_goals first
    | exact (bne_no h229 (by assumption)).elim
    | exact (bne_no (hm1.trans hm2.symm) (by assumption)).elim
    | exact hret _ [] _ _ (.inr ⟨pieces_n (by assumption) (by assumption), rfl, rfl⟩) (by k_asm) (news_sub (by k_asm) (fun p hp => .tail _ (.tail _ hp)))
    | exact hret _ [(_, _)] _ _ (.inl ⟨pieces_5 (by assumption) (by assumption), _, _, _, rfl, rfl⟩) (by k_asm) (row_news (by k_asm) (.head _) (fun p hp => .tail _ (.tail _ (.tail _ hp))))
end
section
noncomputable def costF (x y : Str) : Int := if x = y then 0 else 2
theorem cost_0 {x y : Str} (h : (x == y) = true) : costF x y = 0 := if_pos (eq_of_beq h)
theorem cost_2 {x y : Str} (h : (x == y) = false) : costF x y = 2 := if_neg (by intro e; rw [e] at h; simp at h)
theorem cost_1 {x y : Str} (h : (x == y) = false) (hx : Txt.lower x = x) (hy : Txt.lower y = y) (h2 : (Txt.lower x == Txt.lower y) = true) : False := by
  rw [hx, hy, h] at h2; cases h2
local macro_rules | `(tactic| omega) => `(tactic| lia)
theorem c_cost (w : World) (x y : Str) (t u : Tok) (news : List (Addr × Obj)) :
    Con w 72 [.str x t, .str y u] news 1 (x.length = 1 ∧ y.length = 1 ∧ Txt.lower x = x ∧ Txt.lower y = y) (fun v tl => tl = [] ∧ ∃ t, v = .int (costF x y) t) := by
  unfold Con
  k_with_none
  intro p loose mean mg mb dp un gd cn cs a ccd cl outer A₀ base h₀ L m s Q E B F X N T hk hd hu hpre hret
  obtain ⟨hp1, hp2, hp3, hp4⟩ := hpre
  k_dflt (refine' enter2 (Str.ofString "ch_a") (Str.ofString "ch_b") ?k1 ?k2 ?k3 ?k4 ?k5 ?kA ?kF ?kK ?k6 ?k7 ?k8 ?k9 ?kB ?_ ?c2 ?c3 ?c4 ?c5)
  (case kA => exact rfl)
  (case kF => exact rfl)
  (case kK => first | assumption | exact rfl)
  (case k1 => k_asm)
  (case k2 => k_asm)
  (case k3 => k_asm)
  (case k4 => k_asm)
  (case k5 => k_asm)
  (case k6 => k_is)
  (case k7 => k_is)
  (case k8 => ktr_room)
  (case k9 => exact BindsTo.of_eq rfl)
  (case c5 => decide)
  (case kB => exact locs rfl)
  (case c2 => exact rfl)
  (case c3 => exact rfl)
  (case c4 => exact rfl)
  k_whole
  intro eg eL eh et eFG eF eN eB eX eT
  (try dsimp only)
  (try k_lift eB)
  (try k_fold)
  k_steps
  all_goals first
    | exact (cost_1 (by assumption) hp3 hp4 (by assumption)).elim
    | exact hret _ [] _ _ ⟨rfl, _, by rw [cost_0 (by assumption)]⟩ (by k_asm) (by k_asm)
    | exact hret _ [] _ _ ⟨rfl, _, by rw [cost_2 (by assumption)]⟩ (by k_asm) (by k_asm)
end
section
section
variable {prog : Program} {w : World} {A : Around} {E : Value → Shared → Prop} {s : Shared} {L : Addr} {h₀ : Heap}
/-- a while whose turn stores one int under a name; its test told as a function of that int -/
noncomputable def IntTurn (h₀ : Heap) (L : Addr) (s : Shared) (nm : Str) (m : Str → Option Value) (news : List (Addr × Obj)) (P : Int → Prop) (mu : Int → Nat) (k : Nat) (f : Flow) (s₃ : Shared) : Prop :=
  f = .next ∧ ∃ h' tk i' t' m' news', s₃ = { s with heap := h', toks := tk } ∧ Fr h₀ L h' m' ∧ News h₀ L h' news' ∧ (∀ p ∈ news, p ∈ news') ∧ m' nm = some (.int i' t') ∧ (∀ z, z ≠ nm → m' z = m z) ∧ mu i' < k ∧ P i'
theorem IntTurn.intro {s : Shared} {nm : Str} {m : Str → Option Value} {news : List (Addr × Obj)} {P : Int → Prop} {mu : Int → Nat} {k : Nat} {h' : Heap} {tk : Nat} {i' : Int} {t' : Tok} {m' : Str → Option Value} {news' : List (Addr × Obj)}
    (F : Fr h₀ L h' m') (N : News h₀ L h' news') (h2 : ∀ p ∈ news, p ∈ news') (h3 : m' nm = some (.int i' t')) (h4 : ∀ z, z ≠ nm → m' z = m z) (h6 : mu i' < k) (h7 : P i') :
    IntTurn h₀ L s nm m news P mu k .next { s with heap := h', toks := tk } := ⟨rfl, h', tk, i', t', m', news', rfl, F, N, h2, h3, h4, h6, h7⟩
theorem While_int (nm : Str) (P : Int → Prop) (tst : Int → Bool) (mu : Int → Nat) {env : Env} {test : PySem.Expr} {body : List Stmt} {pos : Pos} {m : Str → Option Value} {news : List (Addr × Obj)} {i : Int} {t : Tok} {Q : Flow → Shared → Prop}
    (F : Fr h₀ L s.heap m) (N : News h₀ L s.heap news) (hm : m nm = some (.int i t)) (hP : P i)
    (ask : ∀ i t h tk (Q' : Bool → Shared → Prop), Fr h₀ L h (fun y => if y = nm then some (.int i t) else m y) → News h₀ L h news → P i →
      (∀ h' tk', Fr h₀ L h' (fun y => if y = nm then some (.int i t) else m y) → News h₀ L h' news → Q' (tst i) { s with heap := h', toks := tk' }) →
      wpAny (model prog w) A (isTrue test env (eval test env)) Q' E { s with heap := h, toks := tk })
    (turn : ∀ i t h tk, Fr h₀ L h (fun y => if y = nm then some (.int i t) else m y) → News h₀ L h news → P i → tst i = true →
      wpAny (model prog w) A (execs body env) (IntTurn h₀ L s nm m news P mu (mu i)) E { s with heap := h, toks := tk })
    (done : ∀ i t h tk, Fr h₀ L h (fun y => if y = nm then some (.int i t) else m y) → News h₀ L h news → P i → tst i = false → Q .next { s with heap := h, toks := tk })
    (hE : PassesOwn (model prog w) A env E := by passes_own) :
    wpAny (model prog w) A (exec (.While test body [] pos) env) Q E s := by
  refine While_inv2 (fun n m₁ news₁ => ∃ i t, news₁ = news ∧ m₁ = (fun y => if y = nm then some (.int i t) else m y) ∧ P i ∧ mu i = n) (n₀ := mu i) (m := fun y => if y = nm then some (.int i t) else m y) (news := news)
    (by rw [← map_put hm fun _ _ => rfl]; exact F) N ⟨i, t, rfl, rfl, hP, rfl⟩ ?_ hE
  rintro n m₁ news₁ h₁ tk₁ F₁ N₁ ⟨i, t, rfl, rfl, hP, rfl⟩
  refine ask i t h₁ tk₁ _ F₁ N₁ hP fun h' tk' F' N' => ?_
  cases hb : tst i with
  | false => exact done i t h' tk' F' N' hP hb
  | true =>
    refine wpAny_mono (turn i t h' tk' F' N' hP hb) (fun f s₃ h₃ => ?_) fun _ _ e => e
    obtain ⟨rfl, h'', tk, i', t', m', news', rfl, F'', N'', h2, h3, h4, h6, h7⟩ := h₃
    exact ⟨h'', tk, _, _, mu i', rfl, (by rw [← map_put h3 h4]; exact F''), (fun p hp => N'' p (h2 p hp)), h6, i', t', rfl, rfl, h7, rfl⟩
end
end
section
noncomputable def lcp : List Nat → List Nat → Nat
  | a :: r, b :: q => if a = b then lcp r q + 1 else 0
  | _, _ => 0
theorem lcp_at : ∀ (n : Nat) (A B : List Nat), A.take n = B.take n → n ≤ A.length → n ≤ B.length → (A.length = n ∨ B.length = n ∨ A.getD n 0 ≠ B.getD n 0) → lcp A B = n
  | 0, [], _, _, _, _, _ => by simp [lcp]
  | 0, _ :: _, [], _, _, _, _ => by simp [lcp]
  | 0, a :: r, b :: q, _, _, _, h => by
    rcases h with h | h | h
    · simp at h
    · simp at h
    · unfold lcp
      rw [if_neg]
      simpa using h
  | n + 1, [], _, _, h, _, _ => by simp at h
  | n + 1, _ :: _, [], _, _, h, _ => by simp at h
  | n + 1, a :: r, b :: q, e, h1, h2, h => by
    rw [List.take_succ_cons, List.take_succ_cons] at e
    obtain ⟨e1, e2⟩ := List.cons.inj e
    unfold lcp
    rw [if_pos e1, lcp_at n r q e2 (by simpa using h1) (by simpa using h2) (by simpa using h)]
theorem take_more {A B : List Nat} {n : Nat} (h : A.take n = B.take n) (h1 : n < A.length) (h2 : n < B.length) (h3 : A.getD n 0 = B.getD n 0) : A.take (n + 1) = B.take (n + 1) := by
  rw [List.take_succ, List.take_succ, h]
  rw [getD_get h1, getD_get h2] at h3
  rw [List.getElem?_eq_getElem h1, List.getElem?_eq_getElem h2, h3]
noncomputable def preT (x y : Str) (i : Int) : Bool := decide (((Txt.slice x (some i) none).length : Int) ≠ 0) && decide (((Txt.slice y (some i) none).length : Int) ≠ 0) && (Txt.item x i == Txt.item y i)
noncomputable def PreP (x y : Str) (i : Int) : Prop := 0 ≤ i ∧ i ≤ x.length ∧ i ≤ y.length ∧ (Lt x).take i.toNat = (Lt y).take i.toNat
theorem preT_1 {x y : Str} {i : Int} {b : Bool} (h1 : ((Txt.slice x (some i) none).length : Int) ≠ 0) (h2 : ((Txt.slice y (some i) none).length : Int) ≠ 0) (h3 : (Txt.item x i == Txt.item y i) = b) : preT x y i = b := by
  unfold preT
  rw [decide_eq_true h1, decide_eq_true h2, h3]; rfl
theorem preT_2 {x y : Str} {i : Int} (h1 : ((Txt.slice x (some i) none).length : Int) ≠ 0) (h2 : ((Txt.slice y (some i) none).length : Int) = 0) : preT x y i = false := by
  unfold preT
  rw [decide_eq_true h1, decide_eq_false (by simpa using h2)]; rfl
theorem preT_3 {x y : Str} {i : Int} (h1 : ((Txt.slice x (some i) none).length : Int) = 0) : preT x y i = false := by
  unfold preT
  rw [decide_eq_false (by simpa using h1)]; rfl
theorem preT_1' {x y X Y : Str} {i : Int} {b : Bool} (eX : X = Txt.slice x (some i) none) (eY : Y = Txt.slice y (some i) none) (h1 : (X.length : Int) ≠ 0) (h2 : (Y.length : Int) ≠ 0) (h3 : (Txt.item x i == Txt.item y i) = b) : preT x y i = b := by
  subst eX eY; exact preT_1 h1 h2 h3
theorem preT_2' {x y X Y : Str} {i : Int} (eX : X = Txt.slice x (some i) none) (eY : Y = Txt.slice y (some i) none) (h1 : (X.length : Int) ≠ 0) (h2 : (Y.length : Int) = 0) : preT x y i = false := by
  subst eX eY; exact preT_2 h1 h2
theorem preT_3' {x y X : Str} {i : Int} (eX : X = Txt.slice x (some i) none) (h1 : (X.length : Int) = 0) : preT x y i = false := by
  subst eX; exact preT_3 h1
theorem from_len {x : Str} {i : Int} (h0 : 0 ≤ i) : (Txt.slice x (some i) none).length = x.length - i.toNat := by
  have e2 := congrArg List.length (Lt_from (x := x) h0)
  rw [Lt_len, List.length_drop, Lt_len] at e2
  exact e2
theorem preP_step {x y : Str} {i : Int} (hP : PreP x y i) (h : preT x y i = true) : PreP x y (i + 1) ∧ x.length - (i + 1).toNat < x.length - i.toNat := by
  obtain ⟨h0, h1, h2, h3⟩ := hP
  unfold preT at h
  rw [from_len h0, from_len h0] at h
  simp only [Bool.and_eq_true, decide_eq_true_eq, beq_iff_eq] at h
  obtain ⟨⟨g1, g2⟩, g3⟩ := h
  have l1 : i < x.length := by (clear h0 h1 h2 h3 g3 g2; omega)
  have l2 : i < y.length := by omega
  have e := congrArg Lt g3
  rw [Lt_item h0 l1, Lt_item h0 l2] at e
  have en : (i + 1).toNat = i.toNat + 1 := by lia
  refine ⟨⟨by lia, by lia, by lia, ?_⟩, by rw [en]; exact Nat.sub_succ_lt_self _ _ (by (clear en h1 h2 h3 g3 l2 e; omega))⟩
  rw [en]
  exact take_more h3 (by rw [Lt_len]; omega) (by rw [Lt_len]; omega) (List.cons.inj e).1
theorem preP_end {x y : Str} {i : Int} (hP : PreP x y i) (h : preT x y i = false) : i = (lcp (Lt x) (Lt y) : Nat) := by
  obtain ⟨h0, h1, h2, h3⟩ := hP
  have e := lcp_at i.toNat (Lt x) (Lt y) h3 (by rw [Lt_len]; lia) (by rw [Lt_len]; lia) (by
    rw [Lt_len, Lt_len]
    by_cases l1 : i < x.length
    · by_cases l2 : i < y.length
      · refine .inr (.inr fun q => ?_)
        unfold preT at h
        rw [from_len h0, from_len h0, decide_eq_true (by omega), decide_eq_true (by omega), Lt_beq, Lt_item h0 l1, Lt_item h0 l2, q] at h
        simp at h
      · exact .inr (.inl (by lia))
    · exact .inl (by lia))
  lia
end
section
theorem nn_len (z : Str) : (Txt.slice z none none).length = z.length := by
  have e := congrArg List.length (Lt_slice z none none)
  rw [Lt_len] at e
  rw [e, List.length_take, List.length_drop, Lt_len]
  show min (z.length - 0) (z.length - 0) = _
  lia
theorem ns_len (z : Str) {i : Int} (h : i < 0) : (Txt.slice z none (some i)).length = z.length - (-i).toNat := by
  have e := congrArg List.length (Lt_uptoN (x := z) h)
  rw [Lt_len] at e
  rw [e, List.length_take, Lt_len]
  exact Nat.min_eq_left (Nat.sub_le _ _)
noncomputable def EqI (a b : Int) : Prop := a = b
section
variable {prog : Program} {w : World} {A : Around} {E : Value → Shared → Prop} {s : Shared} {L : Addr} {h₀ : Heap} {m : Str → Option Value} {news : List (Addr × Obj)} {x : Str} {t : Tok} {value sl : PySem.Expr} {Q : Value → Shared → Prop}
/-- the three slices of a text; what is cut stands under a name of its own, its length known by an equation that omega does not see -/
theorem sl_sn {i : Int} {ui : Tok} (hF : Fr h₀ L s.heap m) (hN : News h₀ L s.heap news) (h0 : 0 ≤ i) (h1 : i ≤ x.length) (hsz : x.length ≤ 40)
    (hs : subscripted sl false (.str x t) (.ref s.heap.objs.size) = operate [.ref s.heap.objs.size, .str x t] (getItem (.str x t) (.ref s.heap.objs.size)))
    (ht : ∀ r, letTemporaryGo value (.str x t) r = pure ())
    (h : ∀ X h' t' k, X = Txt.slice x (some i) none → X.length ≤ 40 → EqI X.length (x.length - i) → Fr h₀ L h' m → News h₀ L h' news → Q (.str X t') { s with heap := h', toks := k }) :
    wpAny (model prog w) A (subscriptTail value sl (.str x t) (.ref s.heap.objs.size)) Q E { s with heap := s.heap.push { cls := .type "slice", data := .fields #[.int i ui, .none, .none] } } := by
  have l := from_len (x := x) h0
  exact slice_strN_sn hF hN (fun h' t' k a b => h _ h' t' k rfl (by rw [l]; exact Nat.le_trans (Nat.sub_le _ _) hsz) (by unfold EqI; omega) a b) hs ht (Nat.le_trans hsz (by decide))
theorem sl_nn (hF : Fr h₀ L s.heap m) (hN : News h₀ L s.heap news) (hsz : x.length ≤ 40)
    (hs : subscripted sl false (.str x t) (.ref s.heap.objs.size) = operate [.ref s.heap.objs.size, .str x t] (getItem (.str x t) (.ref s.heap.objs.size)))
    (ht : ∀ r, letTemporaryGo value (.str x t) r = pure ())
    (h : ∀ X h' t' k, X.length ≤ 40 → EqI X.length x.length → Fr h₀ L h' m → News h₀ L h' news → Q (.str X t') { s with heap := h', toks := k }) :
    wpAny (model prog w) A (subscriptTail value sl (.str x t) (.ref s.heap.objs.size)) Q E { s with heap := s.heap.push { cls := .type "slice", data := .fields #[.none, .none, .none] } } := by
  have l := nn_len x
  exact slice_strN_nn hF hN (fun h' t' k a b => h _ h' t' k (by omega) (by unfold EqI; omega) a b) hs ht (Nat.le_trans hsz (by decide))
theorem sl_ns {j : Int} {uj : Tok} (hF : Fr h₀ L s.heap m) (hN : News h₀ L s.heap news) (h0 : j < 0) (h1 : -j ≤ x.length) (hsz : x.length ≤ 40)
    (hs : subscripted sl false (.str x t) (.ref s.heap.objs.size) = operate [.ref s.heap.objs.size, .str x t] (getItem (.str x t) (.ref s.heap.objs.size)))
    (ht : ∀ r, letTemporaryGo value (.str x t) r = pure ())
    (h : ∀ X h' t' k, X = Txt.slice x none (some j) → X.length ≤ 40 → EqI X.length (x.length + j) → Fr h₀ L h' m → News h₀ L h' news → Q (.str X t') { s with heap := h', toks := k }) :
    wpAny (model prog w) A (subscriptTail value sl (.str x t) (.ref s.heap.objs.size)) Q E { s with heap := s.heap.push { cls := .type "slice", data := .fields #[.none, .int j uj, .none] } } := by
  have l := ns_len x h0
  exact slice_strN_ns hF hN (fun h' t' k a b => h _ h' t' k rfl (by rw [l]; exact Nat.le_trans (Nat.sub_le _ _) hsz) (by unfold EqI; omega) a b) hs ht (Nat.le_trans hsz (by decide))
end
noncomputable def PostP (x y : Str) (i : Int) : Prop := i ≤ 0 ∧ -i ≤ x.length ∧ -i ≤ y.length ∧ (Lt x).reverse.take (-i).toNat = (Lt y).reverse.take (-i).toNat
noncomputable def postT (x y : Str) (i : Int) : Bool := decide (-i < x.length) && decide (-i < y.length) && (Txt.item x (i - 1) == Txt.item y (i - 1))
theorem postT_1 {x y : Str} {i : Int} {b : Bool} (h1 : -i < x.length) (h2 : -i < y.length) (h3 : (Txt.item x (i - 1) == Txt.item y (i - 1)) = b) : postT x y i = b := by
  unfold postT
  rw [decide_eq_true h1, decide_eq_true h2, h3]; rfl
theorem postT_2 {x y : Str} {i : Int} (h2 : ¬ -i < y.length) : postT x y i = false := by
  unfold postT
  rw [decide_eq_false h2, Bool.and_false]; rfl
theorem postT_3 {x y : Str} {i : Int} (h1 : ¬ -i < x.length) : postT x y i = false := by
  unfold postT
  rw [decide_eq_false h1]; rfl
theorem Lt_last {x : Str} {i : Int} (h0 : i ≤ 0) (h1 : -i < x.length) : Lt (Txt.item x (i - 1)) = [(Lt x).reverse.getD (-i).toNat 0] := by
  rw [Lt_itemN (by lia) (by lia)]
  have hl := Lt_len x
  have a1 : (i - 1 + x.length).toNat < (Lt x).length := by omega
  have a2 : (-i).toNat < (Lt x).reverse.length := by rw [List.length_reverse]; omega
  rw [getD_get a1, getD_get a2, List.getElem_reverse]
  congr 2
  omega
theorem postP_step {x y : Str} {i : Int} (hP : PostP x y i) (h : postT x y i = true) : PostP x y (i - 1) ∧ x.length - (-(i - 1)).toNat < x.length - (-i).toNat := by
  obtain ⟨h0, h1, h2, h3⟩ := hP
  unfold postT at h
  simp only [Bool.and_eq_true, decide_eq_true_eq, beq_iff_eq] at h
  obtain ⟨⟨g1, g2⟩, g3⟩ := h
  have e := congrArg Lt g3
  rw [Lt_last h0 g1, Lt_last h0 g2] at e
  have en : (-(i - 1)).toNat = (-i).toNat + 1 := by lia
  refine ⟨⟨by (clear h1 h2 h3 g3 g1 g2 e en; lia), by (clear h0 h1 h2 h3 g3 g2 e en; lia), by (clear h0 h1 h2 h3 g3 g1 e en; lia), ?_⟩, by rw [en]; exact Nat.sub_succ_lt_self _ _ (by (clear en h1 h2 h3 g2 g3 e; omega))⟩
  rw [en]
  exact take_more h3 (by rw [List.length_reverse, Lt_len]; omega) (by rw [List.length_reverse, Lt_len]; omega) (List.cons.inj e).1
theorem postP_end {x y : Str} {i : Int} (hP : PostP x y i) (h : postT x y i = false) : i = -((lcp (Lt x).reverse (Lt y).reverse : Nat) : Int) := by
  obtain ⟨h0, h1, h2, h3⟩ := hP
  have e := lcp_at (-i).toNat (Lt x).reverse (Lt y).reverse h3 (by rw [List.length_reverse, Lt_len]; omega) (by rw [List.length_reverse, Lt_len]; lia) (by
    rw [List.length_reverse, List.length_reverse, Lt_len, Lt_len]
    by_cases l1 : -i < x.length
    · by_cases l2 : -i < y.length
      · refine .inr (.inr fun q => ?_)
        unfold postT at h
        rw [decide_eq_true l1, decide_eq_true l2, Lt_beq, Lt_last h0 l1, Lt_last h0 l2, q] at h
        simp at h
      · exact .inr (.inl (by omega))
    · exact .inl (by omega))
  lia
end
section
noncomputable def edc (x y : Nat) : Nat := if x = y then 0 else 2
/-- the distance of two texts, read from their ends -/
noncomputable def ed : List Nat → List Nat → Nat
  | [], B => 2 * B.length
  | x :: A, [] => 2 * (x :: A).length
  | x :: A, y :: B => min (min (ed A (y :: B)) (ed (x :: A) B) + 2) (ed A B + edc x y)
termination_by A B => A.length + B.length
decreasing_by all_goals (simp only [List.length_cons]; lia)
theorem ed_nil (B : List Nat) : ed [] B = 2 * B.length := by rw [ed]
theorem ed_nil' (A : List Nat) : ed A [] = 2 * A.length := by cases A <;> rw [ed]
theorem ed_cons (x y : Nat) (A B : List Nat) : ed (x :: A) (y :: B) = min (min (ed A (y :: B)) (ed (x :: A) B) + 2) (ed A B + edc x y) := by rw [ed]
theorem edc_comm (x y : Nat) : edc x y = edc y x := by
  unfold edc
  by_cases h : x = y
  · rw [if_pos h, if_pos h.symm]
  · rw [if_neg h, if_neg (fun e => h e.symm)]
theorem edc_le (x y : Nat) : edc x y ≤ 2 := by unfold edc; split <;> lia
theorem min3_le {k p q r c : Nat} (h1 : k ≤ p + 2) (h2 : k ≤ q + 2) (h3 : k ≤ r + c) : k ≤ min (min p q + 2) (r + c) := by
  refine Nat.le_min.mpr ⟨?_, h3⟩
  rcases Nat.le_total p q with h | h
  · rw [Nat.min_eq_left h]; exact h1
  · rw [Nat.min_eq_right h]; exact h2
theorem min3_add {k p q r c d : Nat} (h1 : k ≤ p + 2 + d) (h2 : k ≤ q + 2 + d) (h3 : k ≤ r + c + d) : k ≤ min (min p q + 2) (r + c) + d :=
  Nat.sub_le_iff_le_add.mp (min3_le (Nat.sub_le_iff_le_add.mpr h1) (Nat.sub_le_iff_le_add.mpr h2) (Nat.sub_le_iff_le_add.mpr h3))
theorem min3_l (p q r : Nat) : min (min p q + 2) r ≤ p + 2 := Nat.le_trans (Nat.min_le_left _ _) (Nat.add_le_add_right (Nat.min_le_left _ _) 2)
theorem min3_r (p q r : Nat) : min (min p q + 2) r ≤ q + 2 := Nat.le_trans (Nat.min_le_left _ _) (Nat.add_le_add_right (Nat.min_le_right _ _) 2)
theorem ed_comm : ∀ (A B : List Nat), ed A B = ed B A
  | [], B => by rw [ed_nil, ed_nil']
  | x :: A, [] => by rw [ed_nil, ed_nil']
  | x :: A, y :: B => by
    rw [ed_cons, ed_cons, ed_comm A (y :: B), ed_comm (x :: A) B, ed_comm A B, edc_comm x y, Nat.min_comm (ed (y :: B) A)]
termination_by A B => A.length + B.length
decreasing_by all_goals (simp only [List.length_cons]; lia)
theorem ed_len : ∀ (A B : List Nat), 2 * B.length ≤ ed A B + 2 * A.length
  | [], B => by rw [ed_nil]; lia
  | x :: A, [] => by simp
  | x :: A, y :: B => by
    have h1 := ed_len A (y :: B)
    have h2 := ed_len (x :: A) B
    have h3 := ed_len A B
    rw [ed_cons]
    simp only [List.length_cons] at *
    exact min3_add (by omega) (by omega) (by omega)
termination_by A B => A.length + B.length
decreasing_by all_goals (simp only [List.length_cons]; lia)
/-- the table's cell: of the first i signs of B and the first j of A -/
noncomputable def dT (A B : List Nat) (i j : Nat) : Nat := ed (B.take i).reverse (A.take j).reverse
theorem dT_0 {A B : List Nat} {j : Nat} (h : j ≤ A.length) : dT A B 0 j = 2 * j := by
  unfold dT
  rw [List.take_zero, List.reverse_nil, ed_nil, List.length_reverse, List.length_take]; lia
theorem dT_z {A B : List Nat} {i : Nat} (h : i ≤ B.length) : dT A B i 0 = 2 * i := by
  unfold dT
  rw [List.take_zero, List.reverse_nil, ed_nil', List.length_reverse, List.length_take]; lia
theorem take_rev {A : List Nat} {i : Nat} (h : i < A.length) : (A.take (i + 1)).reverse = A.getD i 0 :: (A.take i).reverse := by
  rw [List.take_add_one, List.getElem?_eq_getElem h, getD_get h]
  simp
theorem dT_s {A B : List Nat} {i j : Nat} (h1 : i < B.length) (h2 : j < A.length) :
    dT A B (i + 1) (j + 1) = min (min (dT A B i (j + 1)) (dT A B (i + 1) j) + 2) (dT A B i j + edc (B.getD i 0) (A.getD j 0)) := by
  have e1 := take_rev h1
  have e2 := take_rev h2
  have : dT A B (i + 1) (j + 1) = ed (B.getD i 0 :: (B.take i).reverse) (A.getD j 0 :: (A.take j).reverse) := by unfold dT; rw [e1, e2]
  rw [this, ed_cons]
  unfold dT
  rw [e1, e2]
theorem dT_end (A B : List Nat) : dT A B B.length A.length = ed B.reverse A.reverse := by
  unfold dT; rw [List.take_length, List.take_length]
/-- the first column never makes less: from distance to its right neighbour -/
theorem dT_1 {A B : List Nat} {i : Nat} (h1 : i < B.length) (h2 : 0 < A.length) : dT A B (i + 1) 1 ≤ 2 * (i + 1) := by
  have h := dT_s h1 h2
  have h3 := dT_z (A := A) (B := B) (i := i) (by lia)
  have h4 := edc_le (B.getD i 0) (A.getD 0 0)
  rw [Nat.zero_add] at h
  lia
theorem row_up {A B : List Nat} {i m : Nat} (h1 : i < B.length) (hr : ∀ k, k ≤ A.length → m < dT A B i k) : ∀ k, k ≤ A.length → m < dT A B (i + 1) k
  | 0, _ => by
    have h := hr 0 (Nat.zero_le _)
    rw [dT_z (by lia)] at h ⊢
    lia
  | k + 1, hk => by
    have h2 := row_up h1 hr k (by lia)
    have a := hr k (by lia)
    have b := hr (k + 1) hk
    rw [dT_s h1 (by lia)]
    exact min3_le (k := m + 1) (Nat.le_add_right_of_le b) (Nat.le_add_right_of_le h2) (Nat.le_add_right_of_le a)
theorem row_all {A B : List Nat} {m : Nat} (hA : 0 < A.length) : ∀ (d i : Nat), i + d = B.length → (∀ k, k ≤ A.length → m < dT A B i k) → m < dT A B B.length A.length
  | 0, i, e, hr => by
    have : i = B.length := by lia
    rw [← this]; exact hr _ (Nat.le_refl _)
  | d + 1, i, e, hr => row_all hA d (i + 1) (by lia) (row_up (by lia) hr)
/-- a row whose least is above the bound: so is the end -/
theorem row_cut {A B : List Nat} {i m : Nat} (hA : 0 < A.length) (hi : i < B.length) (hr : ∀ k, k < A.length → m < dT A B (i + 1) (k + 1)) : m < ed B.reverse A.reverse := by
  rw [← dT_end]
  refine row_all hA (B.length - (i + 1)) (i + 1) (by omega) fun k hk => ?_
  cases k with
  | zero =>
    have a := hr 0 hA
    have b := dT_1 hi hA
    rw [Nat.zero_add] at a
    rw [dT_z (by lia)]; lia
  | succ k => exact hr k (by lia)
noncomputable def OutP (A B : Str) (n : Nat) (row : List Int) (result : Int) : Prop :=
  row.length = A.length ∧ (∀ k, k < A.length → row.getD k 0 = (dT (Lt A) (Lt B) n (k + 1) : Nat)) ∧ (0 < n → result = (dT (Lt A) (Lt B) n A.length : Nat))
noncomputable def InP (A B : Str) (i j : Nat) (row : List Int) (distance result minimum : Int) : Prop :=
  row.length = A.length ∧ (∀ k, k < A.length → row.getD k 0 = (if k < j then dT (Lt A) (Lt B) (i + 1) (k + 1) else dT (Lt A) (Lt B) i (k + 1) : Nat)) ∧
  distance = (dT (Lt A) (Lt B) i j : Nat) ∧ result = (if j = 0 then 2 * i else dT (Lt A) (Lt B) (i + 1) j : Nat) ∧ (∀ k, k < j → minimum ≤ (dT (Lt A) (Lt B) (i + 1) (k + 1) : Nat))
theorem costF_at {A B : Str} {i j : Nat} (h1 : i < B.length) (h2 : j < A.length) : costF (Txt.item B (i : Int)) (Txt.item A (j : Int)) = (edc ((Lt B).getD i 0) ((Lt A).getD j 0) : Nat) := by
  have e1 := Lt_item (x := B) (i := (i : Int)) (by lia) (by omega)
  have e2 := Lt_item (x := A) (i := (j : Int)) (by lia) (by omega)
  rw [Int.toNat_natCast] at e1 e2
  unfold costF edc
  by_cases h : (Lt B).getD i 0 = (Lt A).getD j 0
  · rw [if_pos h, if_pos (Lt_inj (by rw [e1, e2, h]))]; rfl
  · rw [if_neg h, if_neg (fun e => h (by have := congrArg Lt e; rw [e1, e2] at this; exact (List.cons.inj this).1))]; rfl
theorem inP_0 {A B : Str} {i : Nat} {row : List Int} {r : Int} (hi : i < B.length) (h : OutP A B i row r) (big : Int) : InP A B i 0 row ((i : Int) * 2) ((i : Int) * 2) big := by
  refine ⟨h.1, fun k hk => ?_, ?_, ?_, fun k hk => absurd hk (Nat.not_lt_zero _)⟩
  · rw [if_neg (Nat.not_lt_zero _)]; exact h.2.1 k hk
  · rw [dT_z (by rw [Lt_len]; lia)]; lia
  · rw [if_pos rfl]; lia
/-- one turn: v is the new cell -/
theorem cast3 (p q r c : Nat) : min (min (p : Int) q + 2) ((r : Int) + c) = ((min (min q p + 2) (r + c) : Nat) : Int) := by
  have key : ∀ a b : Nat, min (a : Int) b = ((min a b : Nat) : Int) := fun a b => by
    rcases Nat.le_total a b with h | h
    · rw [Nat.min_eq_left h, Int.min_eq_left (Int.ofNat_le.mpr h)]
    · rw [Nat.min_eq_right h, Int.min_eq_right (Int.ofNat_le.mpr h)]
  rw [key, Nat.min_comm]
  exact key _ _
theorem zc3 {b i c : Nat} (hc : c ≤ 2) : min (min b (2 * i) + 2) (2 * i + c) = min (min b (2 * (i + 1)) + 2) (2 * i + c) := by
  have hs : 2 * i ≤ 2 * (i + 1) := Nat.mul_le_mul_left 2 (Nat.le_succ i)
  rcases Nat.le_total b (2 * i) with h | h
  · rw [Nat.min_eq_left h, Nat.min_eq_left (Nat.le_trans h hs)]
  · rw [Nat.min_eq_right h, Nat.min_eq_right (Nat.add_le_add_left hc _), Nat.min_eq_right (Nat.le_trans (Nat.add_le_add_left hc _) (Nat.add_le_add_right (Nat.le_min.mpr ⟨h, hs⟩) 2))]
theorem inP_s {A B : Str} {i j : Nat} {row : List Int} {d r mn mn' v : Int} (hi : i < B.length) (hj : j < A.length) (h : InP A B i j row d r mn)
    (hv : v = min (min r (row.getD j 0) + 2) (d + costF (Txt.item B (i : Int)) (Txt.item A (j : Int)))) (hm1 : mn' ≤ mn) (hm2 : mn' ≤ v) :
    InP A B i (j + 1) (row.set j v) (row.getD j 0) v mn' := by
  obtain ⟨h1, h2, h3, h4, h5⟩ := h
  have hLA := Lt_len A
  have hLB := Lt_len B
  have hrow := h2 j hj
  rw [if_neg (Nat.lt_irrefl _)] at hrow
  have hd := dT_s (A := Lt A) (B := Lt B) (i := i) (j := j) (by lia) (by lia)
  have hc := edc_le ((Lt B).getD i 0) ((Lt A).getD j 0)
  have hz := dT_z (A := Lt A) (B := Lt B) (i := i) (by lia)
  have hz1 := dT_z (A := Lt A) (B := Lt B) (i := i + 1) (by lia)
  have e : v = (dT (Lt A) (Lt B) (i + 1) (j + 1) : Nat) := by
    rw [hv, costF_at hi hj, hrow, h3, h4]
    cases j with
    | zero =>
      rw [if_pos rfl]
      rw [Nat.zero_add] at *
      rw [cast3, hd, hz, hz1, zc3 hc]
    | succ j =>
      rw [if_neg (Nat.succ_ne_zero j)]
      rw [cast3, hd]
  refine ⟨by rw [List.length_set]; exact h1, fun k hk => ?_, hrow, ?_, fun k hk => ?_⟩
  · by_cases q : k = j
    · subst q
      rw [if_pos (Nat.lt_succ_self _), ← e]
      simp [List.getD_eq_getElem?_getD, List.getElem?_set, h1, hk]
    · have : (row.set j v).getD k 0 = row.getD k 0 := by
        simp [List.getD_eq_getElem?_getD, List.getElem?_set, Ne.symm q]
      rw [this, h2 k hk]
      by_cases l : k < j
      · rw [if_pos l, if_pos (by lia)]
      · rw [if_neg l, if_neg (by lia)]
  · rw [if_neg (Nat.succ_ne_zero j), e]
  · by_cases q : k = j
    · subst q; rw [← e]; exact hm2
    · exact Int.le_trans hm1 (h5 k (by lia))
theorem outP_0 {A B : Str} {row : List Int} (h1 : row.length = A.length) (h : ∀ k, k < A.length → row.getD k 0 = 2 + 2 * (k : Int)) (r : Int) : OutP A B 0 row r := by
  refine ⟨h1, fun k hk => ?_, fun h => absurd h (Nat.lt_irrefl 0)⟩
  rw [dT_0 (by rw [Lt_len]; lia), h k hk]
  lia
theorem outP_s {A B : Str} {i : Nat} {row : List Int} {d r mn : Int} (hA : 0 < A.length) (h : InP A B i A.length row d r mn) : OutP A B (i + 1) row r := by
  obtain ⟨h1, h2, h3, h4, h5⟩ := h
  refine ⟨h1, fun k hk => ?_, fun _ => ?_⟩
  · rw [h2 k hk, if_pos hk]
  · rw [h4, if_neg (by lia)]
theorem outP_end {A B : Str} {row : List Int} {r : Int} (hB : 0 < B.length) (h : OutP A B B.length row r) : r = (ed (Lt B).reverse (Lt A).reverse : Nat) := by
  rw [h.2.2 hB, ← dT_end, Lt_len, Lt_len]
theorem inP_cut {A B : Str} {i : Nat} {row : List Int} {d r mn mc : Int} (hA : 0 < A.length) (hi : i < B.length) (h : InP A B i A.length row d r mn) (hm : mn > mc) (h0 : 0 ≤ mc) : mc < (ed (Lt B).reverse (Lt A).reverse : Nat) := by
  have := row_cut (A := Lt A) (B := Lt B) (i := i) (m := mc.toNat) (by rw [Lt_len]; exact hA) (by rw [Lt_len]; exact hi) (fun k hk => by
    have := h.2.2.2.2 k (by rw [Lt_len] at hk; exact hk)
    omega)
  (clear hA hi h hm h0; omega)
end
section
section
variable {M : Model} {A : Around} {E : Value → Shared → Prop} {s : Shared} {L : Addr} {h₀ : Heap} {news : List (Addr × Obj)} {m : Str → Option Value}
/-- behind «if len(b) < len(a): a, b = b, a» -/
noncomputable def SwapQ (h₀ : Heap) (L : Addr) (s : Shared) (m : Str → Option Value) (news : List (Addr × Obj)) (X Y : Str) (f : Flow) (s' : Shared) : Prop :=
  f = .next ∧ ∃ h' tk A' B' t' u', s' = { s with heap := h', toks := tk } ∧ Fr h₀ L h' (fun z => if z = Str.ofString "b" then some (.str B' u') else if z = Str.ofString "a" then some (.str A' t') else m z) ∧ News h₀ L h' news ∧
    ((A' = X ∧ B' = Y ∧ X.length ≤ Y.length) ∨ (A' = Y ∧ B' = X ∧ Y.length < X.length))
theorem swap_join {X Y : Str} {t u : Tok} {c : Sem Flow} {Q : Flow → Shared → Prop} (_ : Fr h₀ L s.heap m) (_ : News h₀ L s.heap news) (_ : m (Str.ofString "a") = some (.str X t)) (_ : m (Str.ofString "b") = some (.str Y u))
    (walk : wpAny M A c (SwapQ h₀ L s m news X Y) E s)
    (cont : ∀ h' tk A' B' t' u', Fr h₀ L h' (fun z => if z = Str.ofString "b" then some (.str B' u') else if z = Str.ofString "a" then some (.str A' t') else m z) → News h₀ L h' news →
      ((A' = X ∧ B' = Y ∧ X.length ≤ Y.length) ∨ (A' = Y ∧ B' = X ∧ Y.length < X.length)) → Q .next { s with heap := h', toks := tk }) : wpAny M A c Q E s := by
  refine wpAny_mono walk (fun f s' h => ?_) fun _ _ e => e
  obtain ⟨rfl, h', tk, A', B', t', u', rfl, h1, h2, h3⟩ := h
  exact cont h' tk A' B' t' u' h1 h2 h3
theorem swap_no {X Y : Str} {t u : Tok} {h' : Heap} {tk : Nat} (F : Fr h₀ L h' m) (N : News h₀ L h' news) (ha : m (Str.ofString "a") = some (.str X t)) (hb : m (Str.ofString "b") = some (.str Y u)) (hl : ¬ (Y.length : Int) < (X.length : Int)) :
    SwapQ h₀ L s m news X Y .next { s with heap := h', toks := tk } := by
  refine ⟨rfl, h', tk, X, Y, t, u, rfl, ?_, N, .inl ⟨rfl, rfl, by omega⟩⟩
  have e : (fun z => if z = Str.ofString "b" then some (Value.str Y u) else if z = Str.ofString "a" then some (.str X t) else m z) = m := by
    funext z
    by_cases h : z = Str.ofString "b"
    · subst h; rw [if_pos rfl, hb]
    · rw [if_neg h]
      by_cases h1 : z = Str.ofString "a"
      · subst h1; rw [if_pos rfl, ha]
      · rw [if_neg h1]
  rw [e]; exact F
theorem swap_yes {X Y : Str} {t u : Tok} {h' : Heap} {tk : Nat} {full : List (Addr × Obj)} (F : Fr h₀ L h' (fun z => if z = Str.ofString "a" then some (.str Y t) else if z = Str.ofString "b" then some (.str X u) else m z)) (N : News h₀ L h' full) (hs : ∀ p ∈ news, p ∈ full) (hl : (Y.length : Int) < (X.length : Int)) :
    SwapQ h₀ L s m news X Y .next { s with heap := h', toks := tk } := by
  refine ⟨rfl, h', tk, Y, X, t, u, rfl, ?_, fun p hp => N p (hs p hp), .inr ⟨rfl, rfl, by omega⟩⟩
  have e : (fun z => if z = Str.ofString "b" then some (Value.str X u) else if z = Str.ofString "a" then some (.str Y t) else m z) = fun z => if z = Str.ofString "a" then some (.str Y t) else if z = Str.ofString "b" then some (.str X u) else m z := by
    funext z
    by_cases h : z = Str.ofString "b"
    · rw [if_pos h, if_neg (by rw [h]; decide), if_pos h]
    · rw [if_neg h]
      by_cases h1 : z = Str.ofString "a"
      · rw [if_pos h1, if_pos h1]
      · rw [if_neg h1, if_neg h1, if_neg h]
  rw [e]; exact F
theorem news_less {full : List (Addr × Obj)} {h : Heap} (N : News h₀ L h full) (hs : ∀ p ∈ news, p ∈ full) : News h₀ L h ([] ++ news) := fun p hp => N p (hs p hp)
end
end
section
theorem ints_from : ∀ (r : List Value) (f : Nat → Int), (∀ (j : Nat) v, r[j]? = some v → ∃ t, v = .int (f j) t) → IntsAre r ((List.range r.length).map f)
  | [], _, _ => .nil
  | a :: r, f, h => by
    obtain ⟨t, ht⟩ := h 0 a rfl
    rw [List.length_cons, List.range_succ_eq_map, List.map_cons, List.map_map, ht]
    exact .cons _ t (ints_from r (fun j => f (j + 1)) fun j v hj => h (j + 1) v hj)
/-- the first row -/
noncomputable def row2 (n : Nat) : List Int := (List.range n).map fun (k : Nat) => 2 + (k : Int) * 2
theorem row2_len (n : Nat) : (row2 n).length = n := by simp [row2]
theorem row2_at {n k : Nat} (h : k < n) : (row2 n).getD k 0 = 2 + 2 * (k : Int) := by
  simp [row2, List.getD_eq_getElem?_getD, h]
  lia
theorem size2 (n : Nat) : Builtin.Range.rangeSize 2 (2 * ((n : Int) + 1)) 2 = (n : Int) := by
  unfold Builtin.Range.rangeSize
  simp only [show (2 : Int) > 0 by decide, if_true]
  split <;> lia
theorem fits2 {i : Int} (h0 : -100 ≤ i) (h1 : i ≤ 100) : Builtin.Range.rangeFitsLong i = true := by
  unfold Builtin.Range.rangeFitsLong
  rw [Bool.and_eq_true]
  exact ⟨decide_eq_true (by lia), decide_eq_true (by (clear h0; omega))⟩
theorem small2 {n : Nat} (h : n ≤ 40) : Builtin.Range.small 2 (2 * ((n : Int) + 1)) 2 = true := by
  unfold Builtin.Range.small
  rw [size2, fits2 (by decide) (by decide), fits2 (i := 2 * ((n : Int) + 1)) (by lia) (by lia), fits2 (i := (n : Int)) (by lia) (by lia), if_pos (by decide), fits2 (i := 2 * ((n : Int) + 1) + (2 - 1)) (by lia) (by lia)]
  simp
section
variable {prog : Program} {w : World} {A : Around} {E : Value → Shared → Prop} {s : Shared} {h₀ : Heap} {L r : Addr} {m : Str → Option Value} {news : List (Addr × Obj)} {t u v : Tok} {n : Nat} {Q : Value → Shared → Prop}
theorem list_row2 (hh : A.handled = none) (F : Fr h₀ L s.heap m) (N : News h₀ L s.heap news) (hr : IsRange s.heap r 2 (2 * ((n : Int) + 1)) 2 t u v) (hn : n ≤ 40)
    (h : ∀ D us c h' tk, Fr h₀ L h' m → News h₀ L h' ((D, listOf (List.toArray us) c) :: news) → (∀ p ∈ news, p.1 < D) → IntsAre us (row2 n) → Q (.ref D) { s with heap := h', toks := tk }) :
    wpAny (model prog w) A (call (.type "list") [.ref r]) Q E s := by
  refine call_list_range hh hr (small2 hn) (size2 n) (by lia) fun h' tk acc c hk hD hI => ?_
  have hD' : h'.get? s.heap.objs.size = some (listOf (List.toArray acc.toList) c) := by rw [Array.toArray_toList]; exact hD
  have hi := ints_from acc.toList (fun (j : Nat) => 2 + (j : Int) * 2) fun j v hj => hI.2 j v (by rw [← hj, Array.getElem?_toList])
  rw [Array.length_toList, hI.1] at hi
  exact h _ acc.toList c h' tk (F.keeps hk) (news_pushed F N hk hD' rfl) (fun p hp => Heap.lt_size (N p hp).1) hi
end
theorem outP_1 {A B : Str} (r : Int) : OutP A B 0 (row2 A.length) r := outP_0 (row2_len _) (fun _ hk => row2_at hk) r
end
section
noncomputable def LowOk (x : Str) : Prop := ∀ n ∈ Lt x, Txt.lower ⟨#[n]⟩ = ⟨#[n]⟩
theorem low_item {x : Str} {k : Int} (h : LowOk x) (h0 : 0 ≤ k) (h1 : k < (x.length : Int)) : Txt.lower (Txt.item x k) = Txt.item x k := by
  have hl := Lt_len x
  have hk : k.toNat < (Lt x).length := by omega
  have e := Lt_item h0 h1
  rw [getD_get hk] at e
  have : Txt.item x k = ⟨#[(Lt x)[k.toNat]]⟩ := Lt_inj (by rw [e])
  rw [this]
  exact h _ (List.getElem_mem hk)
theorem low_slice {x : Str} {a b : Option Int} (h : LowOk x) : LowOk (Txt.slice x a b) := fun n hn => by
  rw [Lt_slice] at hn
  exact h n (List.mem_of_mem_drop (List.mem_of_mem_take hn))
theorem con_use {w : World} {f : Addr} {vs : List Value} {news : List (Addr × Obj)} {dk : Nat} {pre : Prop} {Ret : Value → List (Addr × Obj) → Prop} (C : Con w f vs news dk pre Ret)
    {p : Program} {loose : List Str} {mean : ExcName → Option Value} {mg mb : Str → Option Value} {dp un : Nat} {gd : Option (List Code)} {cn : Str} {cs : Scope} {a : Addr} {ccd : Value} {cl : List (Str × Addr)} {outer : List Env} {A₀ A : Around} {base h₀ : Heap} {L : Addr} {m : Str → Option Value} {s : Shared}
    {Q E : Value → Shared → Prop} (hA : A = ktrTop dp un gd cn cs L a ccd cl outer)
    (B : Below A₀ base outer h₀) (F : Fr h₀ L s.heap m) (X : (hd.heap_39 w.params).In h₀) (N : News h₀ L s.heap news) (T : Top p loose mean mg mb h₀) (hk : cs.kind = .function) (hd : dp + dk < recursionLimit) (hu : un + 8 * dk + 1000 < cLine) (hp : pre)
    (hret : ∀ v tl h' tk', Ret v tl → Fr h₀ L h' m → News h₀ L h' (tl ++ news) → Q v { s with heap := h', toks := tk' }) :
    wpAny (model PG w) A (call (.ref f) vs) Q E s := by
  subst hA
  exact C p loose mean mg mb dp un gd cn cs a ccd cl outer A₀ base h₀ L m s Q E B F X N T hk hd hu hp hret
end
section
theorem st_A {A B : Str} {k r big : Int} {pre row : List Int} (h : OutP A B pre.length row r) (hl : row.length = A.length) (e : k = 0 + (pre.length : Int)) (lt : pre.length < ((B.length : Int) - 0).toNat) :
    InP A B k.toNat ([] : List Int).length row (k * 2) (k * 2) big ∧ row.length = A.length := by
  have ek : k = (pre.length : Int) := by lia
  subst ek
  exact ⟨inP_0 (by omega) h big, hl⟩
theorem st_B {A B : Str} {k d r mn : Int} {pre row : List Int} (h : InP A B k.toNat (rangeKs 0 ((A.length : Int) - 0).toNat).length row d r mn) (hl : row.length = A.length) (e : k = 0 + (pre.length : Int)) (hA : 1 ≤ A.length) :
    OutP A B (pre ++ [k]).length row r ∧ row.length = A.length := by
  have ek : k = (pre.length : Int) := by lia
  subst ek
  have e2 : (rangeKs 0 ((A.length : Int) - 0).toNat).length = A.length := by rw [rangeKs_length]; lia
  rw [e2] at h
  rw [List.length_append, List.length_singleton]
  exact ⟨outP_s hA h, hl⟩
theorem st_cut {A B : Str} {k d r mn mc : Int} {pre row : List Int} (h : InP A B k.toNat (rangeKs 0 ((A.length : Int) - 0).toNat).length row d r mn) (e : k = 0 + (pre.length : Int)) (lt : pre.length < ((B.length : Int) - 0).toNat) (hA : 1 ≤ A.length) (hm : mn > mc) (h0 : 0 ≤ mc) :
    mc < (ed (Lt B).reverse (Lt A).reverse : Nat) := by
  have ek : k = (pre.length : Int) := by lia
  subst ek
  have e2 : (rangeKs 0 ((A.length : Int) - 0).toNat).length = A.length := by rw [rangeKs_length]; lia
  rw [e2] at h
  exact inP_cut hA (by lia) h hm h0
theorem st_end {A B : Str} {r : Int} {row : List Int} (h : OutP A B (rangeKs 0 ((B.length : Int) - 0).toNat).length row r) (hB : 1 ≤ B.length) : r = (ed (Lt B).reverse (Lt A).reverse : Nat) := by
  have e2 : (rangeKs 0 ((B.length : Int) - 0).toNat).length = B.length := by rw [rangeKs_length]; lia
  rw [e2] at h
  exact outP_end hB h
noncomputable abbrev newV (d c x r : Int) : Int := if d + c < (if x < r then x else r) + 2 then d + c else (if x < r then x else r) + 2
theorem newV_is (d c x r : Int) : newV d c x r = min (min r x + 2) (d + c) := by
  unfold newV
  have key : (if x < r then x else r) = min r x := by
    split
    · rename_i h; rw [Int.min_eq_right (Int.le_of_lt h)]
    · rename_i h; rw [Int.min_eq_left (Int.not_lt.mp h)]
  rw [key]
  split
  · rename_i h; rw [Int.min_eq_right (Int.le_of_lt h)]
  · rename_i h; rw [Int.min_eq_left (Int.not_lt.mp h)]
theorem st_C {A B : Str} {b k d r mn mn' : Int} {pre0 pre row : List Int} (h : InP A B b.toNat pre.length row d r mn) (hl : row.length = A.length) (e0 : b = 0 + (pre0.length : Int)) (lt0 : pre0.length < ((B.length : Int) - 0).toNat)
    (e : k = 0 + (pre.length : Int)) (lt : pre.length < ((A.length : Int) - 0).toNat) (hm : mn' ≤ mn ∧ mn' ≤ newV d (costF (Txt.item B b) (Txt.item A k)) (row.getD k.toNat 0) r) :
    InP A B b.toNat (pre ++ [k]).length (row.set k.toNat (newV d (costF (Txt.item B b) (Txt.item A k)) (row.getD k.toNat 0) r)) (row.getD k.toNat 0) (newV d (costF (Txt.item B b) (Txt.item A k)) (row.getD k.toNat 0) r) mn' ∧
      (row.set k.toNat (newV d (costF (Txt.item B b) (Txt.item A k)) (row.getD k.toNat 0) r)).length = A.length := by
  have eb : b = (pre0.length : Int) := by lia
  have ek : k = (pre.length : Int) := by lia
  subst eb
  subst ek
  refine ⟨?_, by rw [List.length_set]; exact hl⟩
  rw [List.length_append, List.length_singleton]
  exact inP_s (by lia) (by (clear hl lt0 h e0 e hm; omega)) h (newV_is _ _ _ _) hm.1 hm.2
theorem st_lt {mn v : Int} (h : v < mn) : v ≤ mn ∧ v ≤ v := ⟨Int.le_of_lt h, Int.le_refl _⟩
theorem st_ge {mn v : Int} (h : ¬ v < mn) : mn ≤ mn ∧ mn ≤ v := ⟨Int.le_refl _, Int.not_lt.mp h⟩
/-- what is left of two texts when they are stripped from the front, then from behind -/
noncomputable def cutA (X Y : List Nat) : List Nat := (X.drop (lcp X Y)).take ((X.drop (lcp X Y)).length - lcp (X.drop (lcp X Y)).reverse (Y.drop (lcp X Y)).reverse)
noncomputable def cutB (X Y : List Nat) : List Nat := (Y.drop (lcp X Y)).take ((Y.drop (lcp X Y)).length - lcp (X.drop (lcp X Y)).reverse (Y.drop (lcp X Y)).reverse)
noncomputable def LevOk (X Y : List Nat) (mc n : Int) : Prop :=
  (X = Y ∧ n = 0) ∨ (X ≠ Y ∧ (((cutA X Y = [] ∨ cutB X Y = []) ∧ n = 2 * ((cutA X Y).length + (cutB X Y).length : Nat)) ∨
    (cutA X Y ≠ [] ∧ cutB X Y ≠ [] ∧ (n = (ed (cutA X Y).reverse (cutB X Y).reverse : Nat) ∨ (n = mc + 1 ∧ mc < (ed (cutA X Y).reverse (cutB X Y).reverse : Nat))))))
section
variable {x y AA BB : Str} {i mc n : Int}
theorem lev_ab (hi : i = -((lcp (Lt (Txt.slice x (some ((lcp (Lt x) (Lt y) : Nat) : Int)) none)).reverse (Lt (Txt.slice y (some ((lcp (Lt x) (Lt y) : Nat) : Int)) none)).reverse : Nat) : Int)) (hi2 : i < 0) :
    Lt (Txt.slice (Txt.slice x (some ((lcp (Lt x) (Lt y) : Nat) : Int)) none) none (some i)) = cutA (Lt x) (Lt y) ∧ Lt (Txt.slice (Txt.slice y (some ((lcp (Lt x) (Lt y) : Nat) : Int)) none) none (some i)) = cutB (Lt x) (Lt y) := by
  have e1 := Lt_from (x := x) (i := ((lcp (Lt x) (Lt y) : Nat) : Int)) (by lia)
  have e2 := Lt_from (x := y) (i := ((lcp (Lt x) (Lt y) : Nat) : Int)) (by lia)
  rw [Int.toNat_natCast] at e1 e2
  rw [Lt_uptoN hi2, Lt_uptoN hi2]
  unfold cutA cutB
  rw [← e1, ← e2, Lt_len, Lt_len]
  have : (-i).toNat = lcp (Lt (Txt.slice x (some ((lcp (Lt x) (Lt y) : Nat) : Int)) none)).reverse (Lt (Txt.slice y (some ((lcp (Lt x) (Lt y) : Nat) : Int)) none)).reverse := by omega
  rw [this]
  exact ⟨rfl, rfl⟩
theorem nil_iff {l : List Nat} : l = [] ↔ l.length = 0 := ⟨fun h => by rw [h]; rfl, List.eq_nil_of_length_eq_zero⟩
theorem lev_0 (h : (x == y) = true) : LevOk (Lt x) (Lt y) mc 0 := .inl ⟨by rw [eq_of_beq h], rfl⟩
theorem lt_ne (h : (x == y) = false) : Lt x ≠ Lt y := fun e => by rw [Lt_inj e] at h; simp at h
theorem lev_e (h : (x == y) = false) (hi : i = -((lcp (Lt (Txt.slice x (some ((lcp (Lt x) (Lt y) : Nat) : Int)) none)).reverse (Lt (Txt.slice y (some ((lcp (Lt x) (Lt y) : Nat) : Int)) none)).reverse : Nat) : Int)) (hi2 : i < 0)
    (hz : ((Txt.slice (Txt.slice x (some ((lcp (Lt x) (Lt y) : Nat) : Int)) none) none (some i)).length : Int) = 0 ∨ ((Txt.slice (Txt.slice y (some ((lcp (Lt x) (Lt y) : Nat) : Int)) none) none (some i)).length : Int) = 0) :
    LevOk (Lt x) (Lt y) mc (2 * (((Txt.slice (Txt.slice x (some ((lcp (Lt x) (Lt y) : Nat) : Int)) none) none (some i)).length : Int) + ((Txt.slice (Txt.slice y (some ((lcp (Lt x) (Lt y) : Nat) : Int)) none) none (some i)).length : Int))) := by
  obtain ⟨e1, e2⟩ := lev_ab hi hi2
  have l1 := congrArg List.length e1
  have l2 := congrArg List.length e2
  rw [Lt_len] at l1 l2
  refine .inr ⟨lt_ne h, .inl ⟨?_, ?_⟩⟩
  · rw [nil_iff, nil_iff]; lia
  · lia
theorem lev_d (h : (x == y) = false) (hi : i = -((lcp (Lt (Txt.slice x (some ((lcp (Lt x) (Lt y) : Nat) : Int)) none)).reverse (Lt (Txt.slice y (some ((lcp (Lt x) (Lt y) : Nat) : Int)) none)).reverse : Nat) : Int)) (hi2 : i < 0)
    (hAB : (AA = (Txt.slice (Txt.slice x (some ((lcp (Lt x) (Lt y) : Nat) : Int)) none) none (some i)) ∧ BB = (Txt.slice (Txt.slice y (some ((lcp (Lt x) (Lt y) : Nat) : Int)) none) none (some i)) ∧ (Txt.slice (Txt.slice x (some ((lcp (Lt x) (Lt y) : Nat) : Int)) none) none (some i)).length ≤ (Txt.slice (Txt.slice y (some ((lcp (Lt x) (Lt y) : Nat) : Int)) none) none (some i)).length) ∨
      (AA = (Txt.slice (Txt.slice y (some ((lcp (Lt x) (Lt y) : Nat) : Int)) none) none (some i)) ∧ BB = (Txt.slice (Txt.slice x (some ((lcp (Lt x) (Lt y) : Nat) : Int)) none) none (some i)) ∧ (Txt.slice (Txt.slice y (some ((lcp (Lt x) (Lt y) : Nat) : Int)) none) none (some i)).length < (Txt.slice (Txt.slice x (some ((lcp (Lt x) (Lt y) : Nat) : Int)) none) none (some i)).length))
    (hA : 1 ≤ AA.length) (hB : AA.length ≤ BB.length) (hn : n = (ed (Lt BB).reverse (Lt AA).reverse : Nat) ∨ (n = mc + 1 ∧ mc < (ed (Lt BB).reverse (Lt AA).reverse : Nat))) : LevOk (Lt x) (Lt y) mc n := by
  obtain ⟨e1, e2⟩ := lev_ab hi hi2
  have z1 := nil_iff (l := cutA (Lt x) (Lt y))
  have z2 := nil_iff (l := cutB (Lt x) (Lt y))
  rcases hAB with ⟨a, b, _⟩ | ⟨a, b, _⟩
  · rw [← a] at e1
    rw [← b] at e2
    have l1 := congrArg List.length e1
    have l2 := congrArg List.length e2
    rw [Lt_len] at l1 l2
    rw [e1, e2, ed_comm] at hn
    exact .inr ⟨lt_ne h, .inr ⟨fun q => by have := z1.mp q; (clear h hi hi2 hB hn e1 e2 z1 z2 a b l2 q; lia), fun q => by have := z2.mp q; (clear h hi hi2 hn e1 e2 z1 z2 a b l1 q; lia), hn⟩⟩
  · rw [← b] at e1
    rw [← a] at e2
    have l1 := congrArg List.length e1
    have l2 := congrArg List.length e2
    rw [Lt_len] at l1 l2
    rw [e1, e2] at hn
    exact .inr ⟨lt_ne h, .inr ⟨fun q => by have := z1.mp q; (clear h hi hi2 hn e1 e2 z1 z2 a b l2 q; lia), fun q => by have := z2.mp q; (clear h hi hi2 hB hn e1 e2 z1 z2 a b l1 q; lia), hn⟩⟩
theorem lev_e' {X1 Y1 X2 Y2 : Str} {j : Int} (h : (x == y) = false) (hi0 : i = ((lcp (Lt x) (Lt y) : Nat) : Int)) (eX1 : X1 = Txt.slice x (some i) none) (eY1 : Y1 = Txt.slice y (some i) none) (hi : j = -((lcp (Lt X1).reverse (Lt Y1).reverse : Nat) : Int)) (hi2 : j < 0)
    (eX2 : X2 = Txt.slice X1 none (some j)) (eY2 : Y2 = Txt.slice Y1 none (some j)) (hz : (X2.length : Int) = 0 ∨ (Y2.length : Int) = 0) : LevOk (Lt x) (Lt y) mc (2 * ((X2.length : Int) + (Y2.length : Int))) := by
  subst eX2 eY2 eX1 eY1 hi0
  exact lev_e h hi hi2 hz
theorem lev_d' {X1 Y1 X2 Y2 : Str} {j : Int} (h : (x == y) = false) (hi0 : i = ((lcp (Lt x) (Lt y) : Nat) : Int)) (eX1 : X1 = Txt.slice x (some i) none) (eY1 : Y1 = Txt.slice y (some i) none) (hi : j = -((lcp (Lt X1).reverse (Lt Y1).reverse : Nat) : Int)) (hi2 : j < 0)
    (eX2 : X2 = Txt.slice X1 none (some j)) (eY2 : Y2 = Txt.slice Y1 none (some j)) (hAB : (AA = X2 ∧ BB = Y2 ∧ X2.length ≤ Y2.length) ∨ (AA = Y2 ∧ BB = X2 ∧ Y2.length < X2.length))
    (hA : 1 ≤ AA.length) (hB : AA.length ≤ BB.length) (hn : n = (ed (Lt BB).reverse (Lt AA).reverse : Nat) ∨ (n = mc + 1 ∧ mc < (ed (Lt BB).reverse (Lt AA).reverse : Nat))) : LevOk (Lt x) (Lt y) mc n := by
  subst eX2 eY2 eX1 eY1 hi0
  exact lev_d h hi hi2 hAB hA hB hn
theorem lcp_of {X1 Y1 : Str} (hi0 : i = ((lcp (Lt x) (Lt y) : Nat) : Int)) (eX1 : X1 = Txt.slice x (some i) none) (eY1 : Y1 = Txt.slice y (some i) none)
    (h : 1 ≤ lcp (Lt (Txt.slice x (some ((lcp (Lt x) (Lt y) : Nat) : Int)) none)).reverse (Lt (Txt.slice y (some ((lcp (Lt x) (Lt y) : Nat) : Int)) none)).reverse) : 1 ≤ lcp (Lt X1).reverse (Lt Y1).reverse := by
  subst eX1 eY1 hi0
  exact h
theorem neg_of {j : Int} {k : Nat} (h : j = -(k : Int)) (h1 : 1 ≤ k) : j < 0 := by omega
theorem ab_len {X2 Y2 : Str} (hAB : (AA = X2 ∧ BB = Y2 ∧ X2.length ≤ Y2.length) ∨ (AA = Y2 ∧ BB = X2 ∧ Y2.length < X2.length)) (h1 : (X2.length : Int) ≠ 0) (h2 : (Y2.length : Int) ≠ 0) (h3 : X2.length ≤ 40) (h4 : Y2.length ≤ 40) : AA.length ≤ BB.length ∧ 1 ≤ AA.length ∧ BB.length ≤ 40 := by
  rcases hAB with ⟨e1, e2, h⟩ | ⟨e1, e2, h⟩ <;> rw [e1, e2] <;> clear e1 e2 <;> lia
theorem ab_low {X2 Y2 : Str} (hAB : (AA = X2 ∧ BB = Y2 ∧ X2.length ≤ Y2.length) ∨ (AA = Y2 ∧ BB = X2 ∧ Y2.length < X2.length)) (h1 : LowOk X2) (h2 : LowOk Y2) : LowOk AA ∧ LowOk BB := by
  rcases hAB with ⟨e1, e2, h⟩ | ⟨e1, e2, h⟩ <;> rw [e1, e2]
  · exact ⟨h1, h2⟩
  · exact ⟨h2, h1⟩
theorem low_of {X1 X2 : Str} {j : Int} (h : LowOk x) (eX1 : X1 = Txt.slice x (some i) none) (eX2 : X2 = Txt.slice X1 none (some j)) : LowOk X2 := by
  subst eX2 eX1
  exact low_slice (low_slice h)
theorem lt_neg {k z : Nat} {j : Int} (l : EqI k (z + j)) (h : (k : Int) ≠ 0) : -j < z := by unfold EqI at l; omega
theorem ge_neg {k z : Nat} {j : Int} (l : EqI k (z + j)) (h : (k : Int) = 0) : ¬ -j < z := by unfold EqI at l; omega
theorem lt_zero {k z : Nat} {j : Int} (l : EqI k z) (h0 : j = 0) (h : (k : Int) ≠ 0) : -j < z := by unfold EqI at l; omega
theorem ge_zero {k z : Nat} {j : Int} (l : EqI k z) (h0 : j = 0) (h : (k : Int) = 0) : ¬ -j < z := by unfold EqI at l; omega
theorem k_pos {k : Int} {n : Nat} (e : k = 0 + (n : Int)) : 0 ≤ k := by omega
theorem k_lt {k : Int} {n : Nat} {z : Int} (e : k = 0 + (n : Int)) (l : n < (z - 0).toNat) : k < z := by omega
theorem far_ed (hB : AA.length ≤ BB.length) (h : mc < ((BB.length : Int) - (AA.length : Int)) * 2) : mc < (ed (Lt BB).reverse (Lt AA).reverse : Nat) := by
  have := ed_len (Lt AA).reverse (Lt BB).reverse
  rw [ed_comm, List.length_reverse, List.length_reverse, Lt_len, Lt_len] at this
  lia
end
end
section
theorem ite_lt {i : Int} {P Q : Prop} (h : i < 0) (hp : P) : if (i != 0) = true then P else Q := by
  rw [if_pos (bne_iff_ne.mpr (Int.ne_of_lt h))]; exact hp
theorem ite_eq0 {i : Int} {P Q : Prop} (h : i = 0) (hp : Q) : if (i != 0) = true then P else Q := by
  rw [if_neg (by rw [h]; decide)]; exact hp
local macro_rules | `(tactic| walk_at "ite") => `(tactic| first | refine ite_lt (by assumption) ?_ | refine ite_eq0 (by assumption) ?_)
local macro_rules | `(tactic| walk_at "exec While BoolOp cons nil") => `(tactic| (k_here; k_extra "my while"))
local macro_rules | `(tactic| walk_at "subscriptTail Name Slice str ref") => `(tactic| (k_here; k_extra "my sub"))
local macro_rules | `(tactic| walk_at "subscriptTail Name BinOp str int") => `(tactic| (k_here; k_extra "my sub"))
local macro_rules | `(tactic| walk_at "exec If Compare cons nil") => `(tactic| (k_here; k_extra "my if"))
local macro_rules | `(tactic| walk_at "call type:list") => `(tactic| (k_here; k_extra "my list"))
theorem ask_end {Q' : Bool → Shared → Prop} {b c : Bool} {s : Shared} (e : c = b) (h : Q' c s) : Q' b s := e ▸ h
noncomputable abbrev preC (x y : Str) : Str := Txt.slice x (some ((lcp (Lt x) (Lt y) : Nat) : Int)) none
noncomputable abbrev preD (x y : Str) : Str := Txt.slice y (some ((lcp (Lt x) (Lt y) : Nat) : Int)) none
theorem beq_no {x y : Str} (h : (x == y) = false) : x ≠ y := by intro e; rw [e] at h; simp at h
local macro_rules | `(tactic| kst_allIn) => `(tactic| ((refine List.forall_mem_cons.mpr ⟨by with_reducible exact List.mem_cons_self, ?_⟩); intro p9 h9; (refine List.Mem.tail _ ?_); kst_mem))
local macro_rules | `(tactic| omega) => `(tactic| lia)
theorem c_lev (w : World) (x y : Str) (mc : Int) (t u v : Tok) (news : List (Addr × Obj)) :
    Con w 79 [.str x t, .str y u, .int mc v] news 2 (x.length ≤ 40 ∧ y.length ≤ 40 ∧ 0 ≤ mc ∧ mc ≤ 19 ∧ LowOk x ∧ LowOk y ∧ (x ≠ y → 1 ≤ lcp (Lt (Txt.slice x (some ((lcp (Lt x) (Lt y) : Nat) : Int)) none)).reverse (Lt (Txt.slice y (some ((lcp (Lt x) (Lt y) : Nat) : Int)) none)).reverse)) (fun v tl => tl = [] ∧ ∃ n t, v = .int n t ∧ LevOk (Lt x) (Lt y) mc n) := by
  unfold Con
  k_with_none
  intro p loose mean mg mb dp un gd cn cs a ccd cl outer A₀ base h₀ L m s Q E B F X N T hk hd hu hpre hret
  obtain ⟨hp1, hp2, hp3, hp4, hp6, hp7, hp5⟩ := hpre
  k_dflt (refine' enterT [(Str.ofString "a", .str x t), (Str.ofString "b", .str y u), (Str.ofString "max_cost", .int mc v)] ?k1 ?k2 ?k3 ?k4 ?k5 ?kA ?kF ?kK ?k6 ?k7 ?k8 ?k9 ?kB ?_ ?c2 ?c3 ?c4 ?c5)
  (case kA => exact rfl)
  (case kF => exact rfl)
  (case kK => first | assumption | exact rfl)
  (case k1 => k_asm)
  (case k2 => k_asm)
  (case k3 => k_asm)
  (case k4 => k_asm)
  (case k5 => k_asm)
  (case k6 => k_is)
  (case k7 => k_is)
  (case k8 => ktr_room)
  (case k9 => exact BindsTo.of_eq rfl)
  (case c5 => decide)
  (case kB => exact locs rfl)
  (case c2 => exact rfl)
  (case c3 => exact rfl)
  (case c4 => exact rfl)
  k_whole
  intro eg eL eh et eFG eF eN eB eX eT
  (try dsimp only)
  (try k_lift eB)
  (try k_fold)
  k_with "my while" => (rename Fr _ _ _ _ => lF'; rename News _ _ _ _ => lN'; first
    | (k_dflt (refine' While_int (Str.ofString "post") (PostP X1 Y1) (postT X1 Y1) (fun j => X1.length - (-j).toNat) lF' lN' rfl ?zP2 ?ask2 ?turn2 ?done2); (case zP2 => exact ⟨Int.le_refl _, Int.natCast_nonneg _, Int.natCast_nonneg _, rfl⟩); (case' ask2 => (intro j t h tk Q' F1 N1 hP hq; obtain ⟨hP1, hP2, hP3, -⟩ := id hP; rcases Int.lt_or_eq_of_le hP1 with hi2 | hi2; all_goals clear hP1)); (case' turn2 => (intro j t h tk F1 N1 hP hT; obtain ⟨hP1, hP2, hP3, -⟩ := id hP)); (case' done2 => (intro j t h tk F1 N1 hP hT; have hi : EqI j _ := postP_end hP hT; have hi2 := neg_of hi (lcp_of hi0 eX1 eY1 (hp5 (beq_no (by assumption)))); obtain ⟨-, hP2, hP3, -⟩ := hP; clear hT)))
    | (k_dflt (refine' While_int (Str.ofString "pre") (PreP x y) (preT x y) (fun i => x.length - i.toNat) lF' lN' rfl ?zP ?ask ?turn ?done); (case zP => exact ⟨Int.le_refl _, Int.natCast_nonneg _, Int.natCast_nonneg _, rfl⟩); (case' ask => (intro i t h tk Q' F1 N1 hP hq; obtain ⟨hP1, hP2, hP3, -⟩ := id hP)); (case' turn => (intro i t h tk F1 N1 hP hT; obtain ⟨hP1, hP2, hP3, -⟩ := id hP)); (case' done => (intro i t h tk F1 N1 hP hT; have hi0 : EqI i _ := preP_end hP hT; obtain ⟨hP1, hP2, hP3, -⟩ := hP; clear hT))))
  k_with "my sub" => k_dflt first
    | ((with_reducible show wpAny _ _ (subscriptTail _ (Expr.Slice (some _) none none _) (Value.str x _) _) _ _ _); (with_reducible rename Fr _ _ _ _ => lF'); (with_reducible rename News _ _ _ _ => lN'); refine sl_sn (s := ⟨_, _, _, _, _⟩) lF' lN' hP1 hP2 hp1 (by with_unfolding_all rfl) (by intro _; with_unfolding_all rfl) ?_; intro X1 _ _ _ eX1 bX1 lX1 _ _; first | (have := hq; replace lX1 : (X1.length : Int) = x.length - i := lX1) | skip)
    | ((with_reducible show wpAny _ _ (subscriptTail _ (Expr.Slice (some _) none none _) (Value.str y _) _) _ _ _); (with_reducible rename Fr _ _ _ _ => lF'); (with_reducible rename News _ _ _ _ => lN'); refine sl_sn (s := ⟨_, _, _, _, _⟩) lF' lN' hP1 hP3 hp2 (by with_unfolding_all rfl) (by intro _; with_unfolding_all rfl) ?_; intro Y1 _ _ _ eY1 bY1 lY1 _ _; first | (have := hq; replace lY1 : (Y1.length : Int) = y.length - i := lY1) | skip)
    | ((with_reducible show wpAny _ _ (subscriptTail _ (Expr.Slice none (some _) none _) (Value.str X1 _) _) _ _ _); (with_reducible rename Fr _ _ _ _ => lF'); (with_reducible rename News _ _ _ _ => lN'); refine sl_ns (s := ⟨_, _, _, _, _⟩) lF' lN' hi2 hP2 bX1 (by with_unfolding_all rfl) (by intro _; with_unfolding_all rfl) ?_; intro X2 _ _ _ eX2 bX2 lX2 _ _; first | (have := hq; replace lX2 : (X2.length : Int) = X1.length + j := lX2) | skip)
    | ((with_reducible show wpAny _ _ (subscriptTail _ (Expr.Slice none (some _) none _) (Value.str Y1 _) _) _ _ _); (with_reducible rename Fr _ _ _ _ => lF'); (with_reducible rename News _ _ _ _ => lN'); refine sl_ns (s := ⟨_, _, _, _, _⟩) lF' lN' hi2 hP3 bY1 (by with_unfolding_all rfl) (by intro _; with_unfolding_all rfl) ?_; intro Y2 _ _ _ eY2 bY2 lY2 _ _; first | (have := hq; replace lY2 : (Y2.length : Int) = Y1.length + j := lY2) | skip)
    | ((with_reducible show wpAny _ _ (subscriptTail _ (Expr.Slice none (some _) none _) (Value.str X1 _) _) _ _ _); (with_reducible rename Fr _ _ _ _ => lF'); (with_reducible rename News _ _ _ _ => lN'); refine sl_nn (s := ⟨_, _, _, _, _⟩) lF' lN' bX1 (by with_unfolding_all rfl) (by intro _; with_unfolding_all rfl) ?_; intro X2 _ _ _ bX2 lX2 _ _; first | (have := hq; replace lX2 : (X2.length : Int) = X1.length := lX2) | skip)
    | ((with_reducible show wpAny _ _ (subscriptTail _ (Expr.Slice none (some _) none _) (Value.str Y1 _) _) _ _ _); (with_reducible rename Fr _ _ _ _ => lF'); (with_reducible rename News _ _ _ _ => lN'); refine sl_nn (s := ⟨_, _, _, _, _⟩) lF' lN' bY1 (by with_unfolding_all rfl) (by intro _; with_unfolding_all rfl) ?_; intro Y2 _ _ _ bY2 lY2 _ _; first | (have := hq; replace lY2 : (Y2.length : Int) = Y1.length := lY2) | skip)
    | ((with_reducible show wpAny _ _ (subscriptTail _ _ (Value.str _ _) (Value.int (_ - 1) _)) _ _ _); refine KXi.item rfl ?zp ?zn (by omega) ?_; (case zp => omega); (case zn => omega); intro _)
  k_with "my if" => ((with_reducible show wpAny _ _ (exec (Stmt.If _ [Stmt.Assign [Expr.Tuple _ _ _] _ _] _ _) _) _ _ _); rename Fr _ _ _ _ => lF'; rename News _ _ _ _ => lN'; k_dflt (refine' swap_join lF' lN' rfl rfl ?swW ?swC); (case' swC => (intro h2 tk2 AA BB tA tB F2 N2 hAB; obtain ⟨hB1, hB2, hB3⟩ := ab_len hAB (by with_reducible assumption) (by with_reducible assumption) bX2 bY2; obtain ⟨hlowA, hlowB⟩ := ab_low hAB (low_of hp6 eX1 eX2) (low_of hp7 eY1 eY2))))
  k_with "my list" => (rename Fr _ _ _ _ => lF'; rename News _ _ _ _ => lN'; k_dflt (refine list_row2 (n := AA.length) rfl lF' lN' (by assumption) (by omega) ?_); intro D us cc hR tkR FR NR hlow hI)
  k_with "pyIter ref" => k_of "bindex" => k_state (fun pre row result => OutP AA BB pre.length row result ∧ row.length = AA.length) "row" "result"
  k_with "pyIter ref" => k_of "index" => k_state_given ["bindex"] (fun bi pre row distance result minimum => InP AA BB bi.toNat pre.length row distance result minimum ∧ row.length = AA.length) "row" "distance" "result" "minimum"
  k_with "state" => first
    | (with_reducible exact ⟨outP_1 _, row2_len _⟩)
    | (with_reducible exact st_A (by assumption) (by assumption) (by assumption) (by assumption))
    | (with_reducible exact st_B (by assumption) (by assumption) (by assumption) hB2)
    | (with_reducible exact st_C (by assumption) (by assumption) (by assumption) (by assumption) (by assumption) (by assumption) (st_lt (by assumption)))
    | (with_reducible exact st_C (by assumption) (by assumption) (by assumption) (by assumption) (by assumption) (by assumption) (st_ge (by assumption)))
  k_with "gen call" => k_dflt (
    rename Fr _ _ _ _ => lF'
    rename News _ _ _ _ => lN'
    refine' con_use (c_cost w _ _ _ _ _) rfl ?q1 lF' ?q2 lN' ?q3 ?q4 ?q5 ?q6 ?q7 ?_
    case q1 => k_asm
    case q2 => k_asm
    case q3 => k_asm
    case q4 => exact rfl
    case q5 => ktr_room
    case q6 => ktr_units
    case q7 => exact ⟨rfl, rfl, low_item (by assumption) (k_pos (by assumption)) (k_lt (by assumption) (by assumption)), low_item (by assumption) (k_pos (by assumption)) (k_lt (by assumption) (by assumption))⟩
    intro v tl h' tk' hv F' N'
    obtain ⟨rfl, tt, rfl⟩ := hv
    simp only [List.nil_append] at N')
  k_steps
  all_goals first
    | exact hret _ [] _ _ ⟨rfl, _, _, rfl, lev_0 (by with_reducible assumption)⟩ (by k_asm) (news_less (by k_asm) (fun p hp => by first | exact hp | kst_mem))
    | exact hret _ [] _ _ ⟨rfl, _, _, rfl, lev_e' (by with_reducible assumption) hi0 eX1 eY1 hi hi2 eX2 eY2 (.inl (by with_reducible assumption))⟩ (by k_asm) (news_less (by k_asm) (fun p hp => by first | exact hp | kst_mem))
    | exact hret _ [] _ _ ⟨rfl, _, _, rfl, lev_e' (by with_reducible assumption) hi0 eX1 eY1 hi hi2 eX2 eY2 (.inr (by with_reducible assumption))⟩ (by k_asm) (news_less (by k_asm) (fun p hp => by first | exact hp | kst_mem))
    | exact hret _ [] _ _ ⟨rfl, _, _, rfl, lev_d' (by with_reducible assumption) hi0 eX1 eY1 hi hi2 eX2 eY2 hAB hB2 hB1 (.inr ⟨rfl, far_ed hB1 (by with_reducible assumption)⟩)⟩ (by k_asm) (news_less (by k_asm) (fun p hp => by first | exact hp | kst_mem))
    | exact hret _ [] _ _ ⟨rfl, _, _, rfl, lev_d' (by with_reducible assumption) hi0 eX1 eY1 hi hi2 eX2 eY2 hAB hB2 hB1 (.inr ⟨rfl, st_cut (by with_reducible assumption) (by with_reducible assumption) (by with_reducible assumption) hB2 (by with_reducible assumption) hp3⟩)⟩ (by k_asm) (news_less (by k_asm) (fun p hp => by first | exact hp | kst_mem))
    | exact hret _ [] _ _ ⟨rfl, _, _, rfl, lev_d' (by with_reducible assumption) hi0 eX1 eY1 hi hi2 eX2 eY2 hAB hB2 hB1 (.inl (st_end (by with_reducible assumption) (by omega)))⟩ (by k_asm) (news_less (by k_asm) (fun p hp => by first | exact hp | kst_mem))
    | exact swap_no (by with_reducible assumption) (by with_reducible assumption) rfl rfl (by with_reducible assumption)
    | exact swap_yes (by with_reducible assumption) (by with_reducible assumption) (fun p hp => by first | exact hp | exact .tail _ hp) (by with_reducible assumption)
    | exact ask_end (Q' := Q') (preT_1' (x := x) (y := y) (i := i) eX1 eY1 (by with_reducible assumption) (by with_reducible assumption) (by with_reducible assumption)) (hq _ _ (by with_reducible assumption) (by with_reducible assumption))
    | exact ask_end (Q' := Q') (preT_2' (x := x) (y := y) (i := i) eX1 eY1 (by with_reducible assumption) (by with_reducible assumption)) (hq _ _ (by with_reducible assumption) (by with_reducible assumption))
    | exact ask_end (Q' := Q') (preT_3' (x := x) (y := y) (i := i) eX1 (by with_reducible assumption)) (hq _ _ (by with_reducible assumption) (by with_reducible assumption))
    | exact ask_end (Q' := Q') (postT_1 (x := X1) (y := Y1) (i := j) (lt_neg lX2 (by with_reducible assumption)) (lt_neg lY2 (by with_reducible assumption)) (by with_reducible assumption)) (hq _ _ (by with_reducible assumption) (by with_reducible assumption))
    | exact ask_end (Q' := Q') (postT_1 (x := X1) (y := Y1) (i := j) (lt_zero lX2 hi2 (by with_reducible assumption)) (lt_zero lY2 hi2 (by with_reducible assumption)) (by with_reducible assumption)) (hq _ _ (by with_reducible assumption) (by with_reducible assumption))
    | exact ask_end (Q' := Q') (postT_2 (x := X1) (y := Y1) (i := j) (ge_neg lY2 (by with_reducible assumption))) (hq _ _ (by with_reducible assumption) (by with_reducible assumption))
    | exact ask_end (Q' := Q') (postT_2 (x := X1) (y := Y1) (i := j) (ge_zero lY2 hi2 (by with_reducible assumption))) (hq _ _ (by with_reducible assumption) (by with_reducible assumption))
    | exact ask_end (Q' := Q') (postT_3 (x := X1) (y := Y1) (i := j) (ge_neg lX2 (by with_reducible assumption))) (hq _ _ (by with_reducible assumption) (by with_reducible assumption))
    | exact ask_end (Q' := Q') (postT_3 (x := X1) (y := Y1) (i := j) (ge_zero lX2 hi2 (by with_reducible assumption))) (hq _ _ (by with_reducible assumption) (by with_reducible assumption))
    | exact IntTurn.intro (by with_reducible assumption) (by with_reducible assumption) (fun _ hp => hp) rfl (fun _ hz => by exact (if_neg hz).trans (if_neg hz)) (preP_step hP hT).2 (preP_step hP hT).1
    | exact IntTurn.intro (by with_reducible assumption) (by with_reducible assumption) (fun _ hp => hp) rfl (fun _ hz => by exact (if_neg hz).trans (if_neg hz)) (postP_step hP hT).2 (postP_step hP hT).1
end
section
section
variable {w : World} {A : Around} {E : Value → Shared → Prop} {s : Shared} {a : Addr} {g : Nat} {body : List Stmt} {env : Env} {Q : Option Value → Shared → Prop}
theorem over_func (A : Around) : A.over (.func body env) [] = A.deeper env := by
  obtain ⟨hd, dp, fr, gd, un⟩ := A
  cases fr <;> cases gd <;> rfl
/-- what the exception's way out of a generator asks -/
noncomputable def GenOut (E : Value → Shared → Prop) (a : Addr) (g : Nat) (e : Value) (s : Shared) : Prop :=
  s.heap.IsGen a g ∧ (∃ x o, e = .ref x ∧ s.heap.get? x = some o ∧ o.cls = .type "ValueError") ∧ E e (s.setGen g .finished)
theorem value_no_stop : isSubtype (.type "ValueError") (.type "StopIteration") = pure false := by rw [isSubtype_type]; kernel_rfl
/-- a fresh generator's first turn that raises -/
theorem gen_raise (hl : s.heap.NoLimit) (hroom : A.depth < recursionLimit) (hg : s.heap.IsGen a g) (hgs : s.gens[g]? = some (.fresh (.func body env)))
    (h : wpAny (model PG w) (A.in1.deeper env) (execs body env) (fun _ _ => False) (fun e s' => wpAny (model PG w) (A.in1.deeper env) (leaving env e) (fun _ s'' => GenOut E a g e s'') (fun _ _ => False) s') (s.setGen g .running)) :
    wpAny (model PG w) A (pyNext (.ref a)) Q E s := by
  have hgo : (GenState.fresh (.func body env)).Goes (model PG w) A.in1 (fun _ _ r s' => ∃ e, r = .error e ∧ GenOut E a g e s') (fun _ _ _ _ _ => False) 0 (.send .none) (s.setGen g .running) := by
    have eo : A.in1.over (.func body env) [] = A.in1.deeper env := over_func A.in1
    refine ⟨rfl, seg_func (seg_wrap ?_)⟩
    rw [eo]
    refine wpAny_mono h (fun _ _ z => False.elim z) fun e s' z => ?_
    refine seg_wrap ?_
    rw [eo]
    refine wpAny_mono z (fun _ s'' y => ?_) fun _ _ y => False.elim y
    exact seg_end (.error e) ⟨e, rfl, y⟩
  refine wpAny_bind (wpAny_attempt (wpAny_callSpecial?_slot (name := Str.ofString "__next__") hg.typeIs slot_gen_next (wpAny_call_entry slot_gen_next hg.typeIs entry_gen_next ?_ (args_gen_next _))))
  show wpAny _ _ (Builtin.Generator.genWake (.ref a) (.send .none)) _ _ s
  unfold Builtin.Generator.genWake
  refine wpAny_bind (wpAny_holding (wpAny_genNumber hg (wpAny_bind (wpAny_genState hgs ?_))))
  refine wpAny_bind (wpAny_roomToWake hl hroom ?_)
  show wpAny _ _ (.resume g (.send .none) [] _) _ _ s
  refine wpAny_resumeQ hgs hgo (fun x s₁ hx => ?_) (fun v s₁ gs' hb hv => hv.elim)
  obtain ⟨e, rfl, ⟨go, nm, qn, hgo1, hgc, hgd, hgsl⟩, ⟨x, o, rfl, hx, hxc⟩, hE⟩ := hx
  show wpAny _ _ (Builtin.Generator.genLeft (.ref a) (.ref x)) _ _ _
  unfold Builtin.Generator.genLeft
  refine wpAny_bind ?_
  unfold Builtin.Generator.madeByALambda
  refine wpAny_bind (wpAny_load hgo1 ?_)
  refine wpAny_pure ?_
  rw [hgd]
  refine wpAny_bind (wpAny_isInstance (T := "ValueError") (b := false) ⟨o, hx, hxc⟩ value_no_stop ?_)
  rw [Bool.and_false, if_neg Bool.false_ne_true]
  show wpAny _ _ (Builtin.Generator.genEscaped (.ref x)) _ _ _
  unfold Builtin.Generator.genEscaped
  refine wpAny_bind (wpAny_isInstance (T := "ValueError") (b := false) ⟨o, hx, hxc⟩ value_no_stop ?_)
  refine wpAny_throw ?_
  refine wpAny_bind (wpAny_isInstance (T := "ValueError") (b := false) ⟨o, hx, hxc⟩ value_no_stop ?_)
  rw [if_neg Bool.false_ne_true]
  exact wpAny_throw hE
end
end
section
section
variable {w : World} {A A₀ : Around} {E : Value → Shared → Prop} {s : Shared} {L : Addr} {h₀ base : Heap} {m mg mb : Str → Option Value} {news : List (Addr × Obj)} {p : Program} {loose : List Str} {mean : ExcName → Option Value}
/-- a loop that ends in its first turn, by a return or a raise -/
theorem for_first {target : PySem.Expr} {iter : PySem.Expr} {body : List Stmt} {pos : Pos} {env : Env} {Q : Flow → Shared → Prop}
    (h : wpAny (model PG w) A (eval iter env) (fun x s₁ => wpAny (model PG w) A (pyIter x) (fun it s₂ => wpAny (model PG w) A (pyNext it) (fun r s₃ => match r with
      | none => False
      | some v => wpAny (model PG w) A (assign target env v) (fun _ s₄ => wpAny (model PG w) A (execs body env) (fun f s₅ => match f with
        | .ret v => Q (.ret v) s₅
        | _ => False) E s₄) E s₃) E s₂) E s₁) E s)
    (hE : PassesOwn (model PG w) A env E) (hs : ∀ v, foldedSetIterable iter env v = pure v) (ht : ∀ it v, letOwnedTupleGo target it v = pure ()) :
    wpAny (model PG w) A (exec (.For target iter body [] pos) env) Q E s := by
  refine wpAny_For (wpAny_mono h (fun x s₁ h₁ => wpAny_mono h₁ (fun it s₂ h₂ => ?_) fun _ _ e => e) fun _ _ e => e) hs
  refine codeAny_forLoop (fun _ s' => s' = s₂) (fun n s' hI => ?_) 0 rfl (ht it)
  subst hI
  refine wpAny_mono h₂ (fun r s₃ h₃ => ?_) hE
  cases r with
  | none => exact h₃.elim
  | some v =>
    refine wpAny_mono h₃ (fun _ s₄ h₄ => ?_) hE
    refine wpAny_mono h₄ (fun f s₅ h₅ => ?_) hE
    cases f with
    | next => exact h₅.elim
    | cont => exact h₅.elim
    | brk => exact h₅.elim
    | ret v => exact h₅
/-- the first item of a list -/
theorem list_first {l : Addr} {v : Value} {r : List Value} {c : Nat} {Qn : Option Value → Shared → Prop} {E' : Value → Shared → Prop} (F : Fr h₀ L s.heap m) (N : News h₀ L s.heap news) (hl : (l, listOf (List.toArray (v :: r)) c) ∈ news)
    (h : ∀ h', Fr h₀ L h' m → News h₀ L h' news → Qn (some v) { s with heap := h' }) :
    wpAny (model PG w) A (pyIter (.ref l)) (fun it s₂ => wpAny (model PG w) A (pyNext it) Qn E s₂) E' s := by
  have hL : s.heap.IsList l (v :: r).toArray := isList_of N hl
  refine wpAny_pyIter_list hL ?_
  have hlt := F.ns.lt
  refine wpAny_pyNext_list_item (l := l) (i := 0) (items := (v :: r).toArray) (x := v) ⟨_, Heap.get?_push_size _ rfl, rfl, rfl⟩ ?_ (by simp) fun h' _ hs => ?_
  · obtain ⟨o, ho, q⟩ := hL
    exact ⟨o, Heap.get?_push_of_some _ ho, q⟩
  · have keep : ∀ b o, s.heap.get? b = some o → h'.get? b = some o := fun b o e => (hs.2 b (Nat.ne_of_lt (Heap.lt_size e))).trans (Heap.get?_push_of_some _ e)
    exact h h' (F.keeps keep) fun q hq => ⟨keep _ _ (N q hq).1, (N q hq).2⟩
/-- a generator function is called, its generator's first turn raises -/
theorem gen_bad (binds : List (Str × Value)) {env : Env} {outer : List Env} {K : Frag} {name qual : Str} {params : Arguments} {body : List Stmt} {scope : Scope} {dV kV doc pm cdv ct oc : Value} {an od : Option Addr} {osl : Array (Option Value)} {f : Addr} {pos : List Value} {Qn : Option Value → Shared → Prop} {E' E'' : Value → Shared → Prop}
    (B : Below A₀ base outer h₀) (F : Fr h₀ L s.heap m) (X₀ : K.In h₀) (N : News h₀ L s.heap news) (T : Top p loose mean mg mb h₀) (hA : A.frames = some (env :: outer)) (hf : env.frame = some L) (hke : env.scope.kind = .function)
    (ho : K.lookup f = some ⟨oc, od, .func (fnOf name qual params body scope dV kV doc pm an cdv ct), osl⟩) (hcd : codeIn K cdv qual = true) (hroom : A.depth < recursionLimit)
    (hbind : bindArgs (fnOf name qual params body scope dV kV doc pm an cdv ct) ⟨pos, []⟩ = pure binds) (hloc : ∀ y ∈ binds, scope.names.lookup y.1 = some .local)
    (h : ∀ G a Lg h' tk t1 t2, Fr h₀ L G m → Fr G Lg h' (fun y => binds.reverse.lookup y) → News G Lg h' ((a, ({ cls := .type "generator", data := .fields #[.int s.gens.size 0, .str name t1, .str qual t2] } : Obj)) :: news) → Below A.in1 base (env :: outer) G → K.In G → Top p loose mean mg mb G →
      wpAny (model PG w) (A.in1.deeper (envOf qual scope Lg f cdv)) (execs body (envOf qual scope Lg f cdv)) (fun _ _ => False)
        (fun e s' => wpAny (model PG w) (A.in1.deeper (envOf qual scope Lg f cdv)) (leaving (envOf qual scope Lg f cdv) e) (fun _ s'' => GenOut E a s.gens.size e s'') (fun _ _ => False) s')
        { s with heap := h', gens := (s.gens.push (.fresh (.func body (envOf qual scope Lg f cdv)))).setIfInBounds s.gens.size .running, toks := tk })
    (hco : scope.isCoroutine = false) (hgen : scope.isGenerator = true) (hk : scope.kind = .function) (hcell : ∀ x ∈ scope.names, x.2 ≠ .cell) :
    wpAny (model PG w) A (call (.ref f) pos) (fun x s₁ => wpAny (model PG w) A (pyIter x) (fun it s₂ => wpAny (model PG w) A (pyNext it) Qn E s₂) E' s₁) E'' s := by
  obtain ⟨FG, BG, st, _⟩ := groundX (R := fun _ _ => True) B F N hA hf hke
  refine gen_call binds F X₀ N T.nolimit ho hcd hroom hbind hloc (fun a Lg oL h' tk t1 t2 F2 N2 hLa hnL hLL hab hns hkp hsz => ?_) hco hgen hk hcell
  refine wpAny_pyIter_gen ⟨_, _, _, (N2 _ (.head _)).1, rfl, rfl, rfl⟩ ?_
  refine gen_raise (T.nolimit.keeps F2.keep) hroom ⟨_, _, _, (N2 _ (.head _)).1, rfl, rfl, rfl⟩ (Array.getElem?_push_size ..) ?_
  refine h _ a Lg h' tk t1 t2 FG ⟨hns h' (N2 _ (.tail _ (.head _))).1, fun b o e => hkp b o (of_hideAll _ e), by rw [hideAll_size]; exact Nat.le_of_eq hsz⟩ (fun q hq => ?_) BG.in1 (X₀.keeps st) (T.keeps st)
  rcases List.mem_cons.mp hq with rfl | hq
  · refine ⟨(N2 _ (.head _)).1, Nat.ne_of_gt hLa, ?_⟩
    cases z : (hideAll s.heap (news.map (fun x => x.fst))).get? a with
    | none => rfl
    | some o =>
      have := Heap.lt_size (of_hideAll _ z)
      exact absurd (Nat.lt_trans hLa (hsz ▸ this)) (Nat.lt_irrefl _)
  · exact ⟨hkp _ _ (N q hq).1, Nat.ne_of_lt (hnL q hq), hideAll_none _ (List.mem_map_of_mem hq)⟩
end
/-- what of the ledger stands behind a raise -/
theorem raised_news {base : Heap} {l : List Env} {e : Addr} {cls : Value} {news : List (Addr × Obj)} {h : Heap} (R : RaisedN base l e cls news h) {q : Addr × Obj} (hq : q ∈ news) : h.get? q.1 = some q.2 := by
  obtain ⟨B, _, hB, hl, hfl⟩ := R
  exact hfl.1 _ _ (hl q hq).1
theorem raised_cls {base : Heap} {l : List Env} {e : Addr} {cls : Value} {news : List (Addr × Obj)} {h : Heap} (R : RaisedN base l e cls news h) : ∃ o, h.get? e = some o ∧ o.cls = cls := by
  obtain ⟨B, _, hB, hl, hfl⟩ := R
  exact hfl.there
noncomputable def ConSG (w : World) (f : Addr) (vs : List Value) (news : List (Addr × Obj)) (dk : Nat) (pre : Prop) (Ret : (Value → List (Addr × Obj) → Prop)) : Prop :=
  ∀ (p : Program) (loose : List Str) (mean : ExcName → Option Value) (mg mb : Str → Option Value) (dp un : Nat) (gd : Option (List Code)) (cn : Str) (cs : Scope) (a : Addr) (ccd : Value) (A₀ : Around) (base h₀ : Heap) (L : Addr) (m : Str → Option Value) (s : Shared)
    (Q E : Value → Shared → Prop),
    Below A₀ base [] h₀ → Fr h₀ L s.heap m → (hd.heap_39 w.params).In h₀ → News h₀ L s.heap news → Top p loose mean mg mb h₀ → (hd.heap_39 w.params).In base → Top p loose mean mg mb base → cs.kind = .function → dp + dk < recursionLimit → un + 8 * dk + 1000 < cLine → pre → AllBare s.gens →
    (∀ v tl s', Ret v tl → Fr h₀ L s'.heap m → News h₀ L s'.heap (tl ++ news) → AllBare s'.gens → s'.os = s.os → Q v s') →
    wpAny (model PG w) (ktrTop dp un gd cn cs L a ccd [] []) (call (.ref f) vs) Q E s
end
section
local macro_rules | `(tactic| walk_at "exec For Name Name cons nil") => `(tactic| (k_here; k_extra "gen for"))
local macro_rules | `(tactic| omega) => `(tactic| lia)
theorem c_refused (w : World) (l : Addr) (vs : List Value) (c : Nat) (row : List Int) (news : List (Addr × Obj)) :
    ConSG w 114 [.ref l] news 3 ((l, listOf vs.toArray c) ∈ news ∧ IntsAre vs (0 :: row)) (fun v tl => tl = [] ∧ v = .bool true) := by
  unfold ConSG
  k_with_none
  intro p loose mean mg mb dp un gd cn cs a ccd A₀ base h₀ L m s Q E B F X N T XB TB hk hd hu hpre hbare hret
  obtain ⟨hl, hi⟩ := hpre
  cases hi with
  | cons _ t hi =>
  k_dflt (refine' enterS [(Str.ofString "row", .ref l)] ?k1 ?k2 ?k3 ?k4 ?k5 ?kA ?kK ?k6 ?k7 ?k8 ?k9 ?kB ?_ ?c2 ?c3 ?c4 ?c5)
  (case kA => exact rfl); (case kK => first | assumption | exact rfl); (case k1 => k_asm); (case k2 => k_asm); (case k3 => k_asm); (case k4 => k_asm); (case k5 => k_asm); (case k6 => k_is); (case k7 => k_is); (case k8 => ktr_room); (case k9 => exact BindsTo.of_eq rfl); (case c5 => decide); (case kB => exact locs rfl); (case c2 => exact rfl); (case c3 => exact rfl); (case c4 => exact rfl)
  k_whole; intro g' L' h' tk' FG' F' N' B' X' T' D'; (try dsimp only); (try k_lift B'); (try k_fold)
  k_with "gen for" => k_dflt (refine for_first ?_ (by passes_own) (by intro _; rfl) (by intro _ _; rfl))
  k_with "gen call" => (rename Fr _ _ _ _ => lF'; rename News _ _ _ _ => lN'; k_dflt (refine' gen_bad [(Str.ofString "grouping", .ref l)] (by k_asm) lF' (by k_asm) lN' (by k_asm) rfl rfl rfl ?ho ?hcd ?hroom ?hbind ?hloc ?_ ?h1 ?h2 ?h3 ?h4; (case ho => k_is); (case hcd => k_is); (case hroom => ktr_room); (case hbind => exact rfl); (case hloc => exact locs rfl); (case h1 => exact rfl); (case h2 => exact rfl); (case h3 => exact rfl); (case h4 => decide); intro G ga Lg h2 tk2 t1 t2 FG2 F2 N2 B2 X2 T2))
  k_with "pyIter ref" => (rename Fr _ _ _ _ => lF'; rename News _ _ _ _ => lN'; k_dflt (refine list_first lF' lN' (by first | exact hl | exact .tail _ hl) ?_; intro h3 F3 N3; dsimp only))
  k_steps
  rename RaisedN _ _ _ _ _ _ => rK
  refine ⟨⟨_, _, _, raised_news rK (.head _), rfl, rfl, rfl⟩, ?_, ?_⟩
  · obtain ⟨o, h1, h2⟩ := raised_cls rK
    exact ⟨_, o, rfl, h1, h2⟩
  dsimp only [Shared.setGen]
  k_steps
  exact hret _ [] _ ⟨rfl, rfl⟩ (by k_asm) (news_less (by k_asm) (fun p hp => by first | exact hp | kst_mem)) (set_bare (hbare.push rfl) rfl rfl) rfl
end
section
noncomputable def linX (cnt y : Int) : Int := y.fmod (2 ^ (cnt - 1).toNat)
noncomputable def wayX (y : Int) : Int := (y.fdiv 32).fmod 4
noncomputable def markX (y : Int) : Str := Txt.item (Str.ofString "|!:") ((y.fdiv 128).fmod 3)
noncomputable abbrev txtF (fig : Str) (lines : Int) : Str := plainTo fig lines fig.length
noncomputable def repX (fig : Str) (cnt y : Int) : Str := replyOf (txtF fig (linX cnt y)) (markX y)
/-- the port that the figures are -/
noncomputable def portOf (l : List Int) : Int := l.foldl (fun p n => p * 10 + Txt.find (Str.ofString "0123456789") ⟨#[n.toNat]⟩) 0
theorem txt_le : ∀ (fig : Str) (lines : Int) (n : Nat), (plainTo fig lines n).length ≤ 2 * n
  | _, _, 0 => Nat.le_refl _
  | fig, lines, n + 1 => by
    have h := txt_le fig lines n
    unfold plainTo
    split
    · rw [pl_len, pl_len']; lia
    · rw [pl_len']; lia
theorem txt_20 {fig : Str} {lines cnt : Int} (hf : fig.length = cnt.toNat) (h3 : cnt ≤ 6) : (plainTo fig lines fig.length).length ≤ 20 := by
  have := txt_le fig lines fig.length
  lia
theorem fmod_b {y c : Int} (h : 0 < c) : 0 ≤ y.fmod c ∧ y.fmod c < c := ⟨Int.fmod_nonneg_of_pos _ h, Int.fmod_lt_of_pos _ h⟩
theorem port_step {p : Int} {pre : List Int} {n : Nat} (h : p = portOf pre) : p * 10 + Txt.find (Str.ofString "0123456789") ⟨#[n]⟩ = portOf (pre ++ [(n : Int)]) := by
  unfold portOf
  rw [List.foldl_append, h]; rfl
theorem lin_bds {cnt y : Int} (h3 : cnt ≤ 6) : 0 ≤ y.fmod (2 ^ (cnt - 1).toNat) ∧ y.fmod (2 ^ (cnt - 1).toNat) < 2 ^ (cnt - 1).toNat ∧ y.fmod (2 ^ (cnt - 1).toNat) < 32 := by
  have hp : (0 : Int) < 2 ^ (cnt - 1).toNat := Int.pow_pos (by decide)
  have h1 := Int.fmod_nonneg_of_pos y hp
  have h2 := Int.fmod_lt_of_pos y hp
  have h5 : ∀ n : Nat, n < 6 → (2 : Int) ^ n ≤ 32 := by decide
  have h4 := h5 (cnt - 1).toNat (by omega)
  omega
theorem way_bds (y : Int) : 0 ≤ (y.fdiv 32).fmod 4 ∧ (y.fdiv 32).fmod 4 < 4 := ⟨Int.fmod_nonneg_of_pos _ (by decide), Int.fmod_lt_of_pos _ (by decide)⟩
/-- the law's state ahead of its loop and between its turns -/
noncomputable def TurnJ (fig : Str) (cnt : Int) (xs : List Int) (rp ru mk : Addr) (i : Nat) (nx : List (Addr × Obj)) : Prop :=
  ∃ vr c1 vu c2 vm c3, nx = [(rp, listOf (List.toArray vr) c1), (ru, listOf (List.toArray vu) c2), (mk, listOf (List.toArray vm) c3)] ∧
    StrsAre vr ((xs.take i).map (repX fig cnt)) ∧ IntsAre vu ((xs.take i).map (linX cnt)) ∧ StrsAre vm ((xs.take i).map markX)
theorem turnJ_0 {fig : Str} {cnt : Int} {xs : List Int} {rp ru mk : Addr} {c1 c2 c3 : Nat} : TurnJ fig cnt xs rp ru mk 0 [(rp, listOf #[] c1), (ru, listOf #[] c2), (mk, listOf #[] c3)] :=
  ⟨[], c1, [], c2, [], c3, rfl, .nil, .nil, .nil⟩
section
variable {w : World} {A : Around} {s : Shared} {h₀ : Heap} {L : Addr} {m : Str → Option Value} {G : Prop}
noncomputable abbrev lawPs (fig : Str) (cnt port draw : Int) (rp ru mk : Addr) (t1 t2 t3 t4 : Tok) : List (Str × Value) :=
  [(Str.ofString "figures", .str fig t1), (Str.ofString "count", .int cnt t2), (Str.ofString "port", .int port t3), (Str.ofString "draw", .int draw t4), (Str.ofString "replies", .ref rp), (Str.ofString "rulers", .ref ru), (Str.ofString "marks", .ref mk)]
theorem for_tok {fig : Str} {cnt port draw : Int} {rp ru mk : Addr} {T1 T2 T3 T4 : Tok} {hh : Heap} (F : Fr h₀ L hh m)
    (e1 : m (Str.ofString "figures") = some (.str fig T1)) (e2 : m (Str.ofString "count") = some (.int cnt T2)) (e3 : m (Str.ofString "port") = some (.int port T3)) (e4 : m (Str.ofString "draw") = some (.int draw T4))
    (e5 : m (Str.ofString "replies") = some (.ref rp)) (e6 : m (Str.ofString "rulers") = some (.ref ru)) (e7 : m (Str.ofString "marks") = some (.ref mk))
    (h : ∀ t1 t2 t3 t4 u rp' ru' mk', rp' = rp → ru' = ru → mk' = mk → Fr h₀ L hh u → (∀ p ∈ lawPs fig cnt port draw rp' ru' mk' t1 t2 t3 t4, u p.1 = some p.2) → G) : G := by
  refine h T1 T2 T3 T4 m rp ru mk rfl rfl rfl F fun p hp => ?_
  simp only [List.mem_cons, List.not_mem_nil, or_false] at hp
  rcases hp with rfl | rfl | rfl | rfl | rfl | rfl | rfl <;> assumption
end
theorem sz_two {α : Type} {vs : List Value} {xs : List Int} {i : Nat} {f : Int → α} (hl : vs.length = ((xs.take i).map f).length) (h : xs.length = 2) : (List.toArray vs).size ≤ sizeLine := by
  rw [List.length_map, List.length_take] at hl
  rw [List.size_toArray, sizeLine_eq]
  lia
end
section
section
variable {w : World} {A : Around} {s : Shared} {env : Env} {h₀ : Heap} {L : Addr} {x : Str} {px : Pos} {body : List Stmt} {rest : List (Addr × Obj)} {R : Result → Shared → Prop} {E : Value → Shared → Prop} {m : Str → Option Value} {l : Addr} {vs : List Value} {c : Nat} {ns : List Int} {nx : List (Addr × Obj)}
theorem frB {h : Heap} {m : Str → Option Value} {ps : List (Str × Value)} (F : Fr h₀ L h m) (hps : ∀ p ∈ ps, m p.1 = some p.2) : Fr h₀ L h (kstB m ps) := by
  have e : kstB m ps = m := by
    funext z
    exact kstB_eq hps fun _ => rfl
  rw [e]; exact F
theorem frX {h : Heap} {m : Str → Option Value} {ps : List (Str × Value)} {v : Value} (F : Fr h₀ L h (fun z => if z = x then some v else m z)) (hps : ∀ p ∈ ps, m p.1 = some p.2) : Fr h₀ L h (fun z => if z = x then some v else kstB m ps z) := by
  have e : kstB m ps = m := by
    funext z
    exact kstB_eq hps fun _ => rfl
  rw [e]; exact F
/-- what a turn leaves -/
noncomputable def TurnQ (h₀ : Heap) (L : Addr) (s : Shared) (ps : List (Str × Value)) (nx keep : List (Addr × Obj)) (J : List (Addr × Obj) → Prop) (f : Flow) (s₃ : Shared) : Prop :=
  f = .next ∧ ∃ m' nx' led, Fr h₀ L s₃.heap m' ∧ (∀ p ∈ ps, m' p.1 = some p.2) ∧ News h₀ L s₃.heap led ∧ (∀ p ∈ nx', p ∈ led) ∧ (∀ p ∈ keep, p ∈ led) ∧ AllBare s₃.gens ∧ s₃.os = s.os ∧ nx'.map (fun q => q.1) = nx.map (fun q => q.1) ∧ J nx'
structure LsInv (h₀ : Heap) (L : Addr) (os : OsState) (ps : List (Str × Value)) (J : Nat → List (Addr × Obj) → Prop) (I l : Addr) (o : Obj) (rest : List (Addr × Obj)) (len n : Nat) (s' : Shared) (i : Nat) (m' : Str → Option Value) (nx' : List (Addr × Obj)) : Prop where
  le : i ≤ len
  n_is : n = len - i
  it : s'.heap.IsListIter I l i
  j : J i nx'
  bare : AllBare s'.gens
  os_is : s'.os = os
  fr : Fr h₀ L s'.heap m'
  ps_is : ∀ p ∈ ps, m' p.1 = some p.2
  news : News h₀ L s'.heap (nx' ++ (l, o) :: rest)
  off : ∀ p ∈ nx', p.1 ≠ I
  offr : ∀ p ∈ rest, p.1 ≠ I
  dis : ∀ q ∈ nx', ∀ p ∈ (l, o) :: rest, p.1 ≠ q.1
/-- a loop over ints whose turns may run generators: the named values stand, the told objects change -/
theorem for_inv (J : Nat → List (Addr × Obj) → Prop) (ps : List (Str × Value))
    (hh : A.handled = none) (F : Fr h₀ L s.heap m) (N : News h₀ L s.heap (nx ++ (l, listOf vs.toArray c) :: rest)) (hi : IntsAre vs ns) (hps : ∀ p ∈ ps, m p.1 = some p.2) (hb : AllBare s.gens) (hJ : J 0 nx) (hdist : ∀ q ∈ nx, ∀ p ∈ (l, listOf vs.toArray c) :: rest, p.1 ≠ q.1)
    (hx : env.kindOf x = some .local) (hp : (env.scope.kind == .class || (env.scope.kind == .module && env.locals != env.globals)) = false) (hloc : env.locals = L)
    (turn : ∀ i y t u nx keep s₁, ns[i]? = some y → J i nx → AllBare s₁.gens → s₁.os = s.os → Fr h₀ L s₁.heap (fun z => if z = x then some (.int y t) else kstB u ps z) → (∀ q ∈ nx, ∀ p ∈ keep, p.1 ≠ q.1) → News h₀ L s₁.heap (nx ++ keep) →
      wpAny (model PG w) A (execs body env) (TurnQ h₀ L s ps nx keep (J (i + 1))) (fun _ _ => False) s₁)
    (done : ∀ u nx s₁, J ns.length nx → AllBare s₁.gens → s₁.os = s.os → Fr h₀ L s₁.heap (kstB u ps) → News h₀ L s₁.heap (nx ++ (l, listOf vs.toArray c) :: rest) → R (.ok .next) s₁) :
    wpAny (model PG w) A (pyIter (.ref l)) (fun it s₂ => codeAny (model PG w) A (.forLoop (.Name x px) it body [] env) R s₂) E s := by
  have memL : ∀ {a : List (Addr × Obj)}, (l, listOf vs.toArray c) ∈ a ++ (l, listOf vs.toArray c) :: rest := List.mem_append.mpr (.inr (.head _))
  have hL := isList_of N memL
  refine wpAny_pyIter_list hL ?_
  have hlt := F.ns.lt
  have hIN : h₀.get? s.heap.objs.size = none := none_at_size F
  have hILne : s.heap.objs.size ≠ L := Nat.ne_of_gt hlt
  have hlI : l ≠ s.heap.objs.size := Nat.ne_of_lt (Heap.lt_size (N _ memL).1)
  refine codeAny_forLoop (fun n s' => ∃ i m' nx', LsInv h₀ L s.os ps J s.heap.objs.size l (listOf vs.toArray c) rest ns.length n s' i m' nx') ?_ ns.length ⟨0, m, nx, ⟨Nat.zero_le _, rfl, ⟨_, Heap.get?_push_size _ rfl, rfl, rfl⟩, hJ, hb, rfl, F.push _, hps, N.pushKeep _, fun p hp => Nat.ne_of_lt (Heap.lt_size (N p (List.mem_append.mpr (.inl hp))).1), fun p hp => Nat.ne_of_lt (Heap.lt_size (N p (List.mem_append.mpr (.inr (.tail _ hp)))).1), hdist⟩⟩
  rintro n s' ⟨i, m', nx', hI⟩
  have hin := hI.le
  have hit := hI.it
  have hJ' := hI.j
  have hb' := hI.bare
  have hos := hI.os_is
  have F' := hI.fr
  have hps' := hI.ps_is
  have N' := hI.news
  have hnx := hI.off
  have hrest := hI.offr
  have hdis := hI.dis
  have hnn := hI.n_is
  clear hI
  have hL' := isList_of N' memL
  cases hy : ns[i]? with
  | none =>
    have hi' : i = ns.length := Nat.le_antisymm hin (by simpa using hy)
    subst hi'
    have hx2 : vs.toArray[ns.length]? = none := by simp [hi.length]
    refine wpAny_pyNext_list_end hh hit hL' hx2 fun h' he => ?_
    refine wpAny_execs_nil (done m' nx' _ hJ' hb' hos ?_ ?_)
    · refine frB ⟨?_, fun b o q => he b o (fun z => ?_) (F'.keep b o q), F'.above⟩ hps'
      · obtain ⟨oF, es, ep, hF, r⟩ := F'.ns
        exact ⟨oF, es, ep, he _ _ (Ne.symm hILne) hF, r⟩
      · rw [z, hIN] at q; cases q
    · intro p hp
      refine ⟨he _ _ ?_ (N' p hp).1, (N' p hp).2⟩
      rcases List.mem_append.mp hp with hp | hp
      · exact hnx p hp
      · rcases List.mem_cons.mp hp with rfl | hp
        · exact hlI
        · exact hrest p hp
  | some y =>
    obtain ⟨t, ht⟩ := hi.get i y hy
    refine wpAny_pyNext_list_item hit hL' (x := .int y t) (by simpa using ht) fun h1 hit1 hs1 => ?_
    have keep1 : ∀ b o, b ≠ s.heap.objs.size → s'.heap.get? b = some o → h1.get? b = some o := fun b o hb e => (hs1.2 b hb).trans e
    have F1 : Fr h₀ L h1 m' := by
      obtain ⟨oF, es, ep, hF, r⟩ := F'.ns
      refine ⟨⟨oF, es, ep, keep1 _ _ (Ne.symm hILne) hF, r⟩, fun b o q => keep1 b o (fun z => ?_) (F'.keep b o q), F'.above⟩
      rw [z, hIN] at q; cases q
    obtain ⟨oI, hoI, hoIc, hoId⟩ := id hit1
    have N1 : News h₀ L h1 (nx' ++ (s.heap.objs.size, oI) :: (l, listOf vs.toArray c) :: rest) := by
      intro p hp
      rcases List.mem_append.mp hp with hp | hp
      · exact ⟨keep1 _ _ (hnx p hp) (N' p (List.mem_append.mpr (.inl hp))).1, (N' p (List.mem_append.mpr (.inl hp))).2⟩
      · rcases List.mem_cons.mp hp with rfl | hp
        · exact ⟨hoI, hILne, hIN⟩
        · rcases List.mem_cons.mp hp with rfl | hp
          · exact ⟨keep1 _ _ hlI (N' _ memL).1, (N' _ memL).2⟩
          · have hm : p ∈ nx' ++ (l, listOf vs.toArray c) :: rest := List.mem_append.mpr (.inr (.tail _ hp))
            exact ⟨keep1 _ _ (hrest p hp) (N' p hm).1, (N' p hm).2⟩
    refine wpAny_assign_Name (wpAny_storeName_local hx (hloc.symm ▸ F1.ns) (fun h2 hn2 hs2 => ?_) hp)
    rw [hloc] at hn2 hs2
    have F2 : Fr h₀ L h2 (fun z => if z = x then some (.int y t) else m' z) := F1.set hn2 hs2
    have N2 := N1.set hs2
    refine wpAny_mono (turn i y t m' nx' ((s.heap.objs.size, oI) :: (l, listOf vs.toArray c) :: rest) { s' with heap := h2, toks := s'.toks + 1 } hy hJ' hb' hos (frX F2 hps') (fun q hq p hp => by
      rcases List.mem_cons.mp hp with rfl | hp
      · exact Ne.symm (hnx q hq)
      · exact hdis q hq p hp) N2) (fun f s₃ h₃ => ?_) fun _ _ e => e.elim
    obtain ⟨rfl, m3, nx3, led, F3, hps3, N3, e1, e2, hb3, hos3, hmap, hJ3⟩ := h₃
    have hlt2 : i < ns.length := (List.getElem?_eq_some_iff.mp hy).1
    have hI3 := (N3 _ (e2 _ (.head _))).1
    refine ⟨ns.length - (i + 1), by rw [hnn]; exact Nat.sub_succ_lt_self _ _ hlt2, i + 1, m3, nx3, ⟨hlt2, rfl, ⟨oI, hI3, hoIc, hoId⟩, hJ3, hb3, hos3, F3, hps3, fun p hp => ?_, fun p hp => ?_, hrest, fun q hq p hp => ?_⟩⟩
    · rcases List.mem_append.mp hp with hp | hp
      · exact N3 p (e1 p hp)
      · exact N3 p (e2 p (.tail _ hp))
    · have hm : p.1 ∈ nx'.map (fun q => q.1) := hmap ▸ List.mem_map_of_mem (f := fun q : Addr × Obj => q.1) hp
      obtain ⟨q, hq, e⟩ := List.mem_map.mp hm
      rw [← e]; exact hnx q hq
    · have hm : q.1 ∈ nx'.map (fun q => q.1) := hmap ▸ List.mem_map_of_mem (f := fun q : Addr × Obj => q.1) hq
      obtain ⟨q', hq', e⟩ := List.mem_map.mp hm
      rw [← e]; exact hdis q' hq' p hp
/-- one of the told lists grows; of the ledger what is named is kept -/
theorem app_keep {A : Around} {Q : Value → Shared → Prop} {E : Value → Shared → Prop} {D : Addr} {its : Array Value} {n : Nat} {x : Value} {led : List (Addr × Obj)} (keep : List (Addr × Obj)) (F : Fr h₀ L s.heap m) (N : News h₀ L s.heap led) (hm : (D, listOf its n) ∈ led) (hk : ∀ p ∈ keep, p ∈ led) (hne : ∀ p ∈ keep, p.1 ≠ D)
    (hsz : its.size ≤ sizeLine) (h : ∀ h', Fr h₀ L h' m → News h₀ L h' ((D, listOf (its.push x) (n + 1)) :: keep) → Q .none { s with heap := h' }) :
    wpAny (model PG w) A (call (.builtin "list.append") [.ref D, x]) Q E s :=
  append_head F (fun p hp => by
    rcases List.mem_cons.mp hp with rfl | hp
    · exact N _ hm
    · exact N _ (hk p hp)) hne h hsz
end
end
section
section
variable {w : World} {f : Addr} {vs : List Value} {news : List (Addr × Obj)} {dk : Nat} {pre : Prop} {Ret : Value → List (Addr × Obj) → Prop}
  {p : Program} {loose : List Str} {mean : ExcName → Option Value} {mg mb : Str → Option Value} {dp un : Nat} {gd : Option (List Code)} {cn : Str} {cs : Scope} {a : Addr} {ccd : Value} {cl : List (Str × Addr)} {outer : List Env} {A₀ A : Around} {base h₀ : Heap} {L : Addr} {m : Str → Option Value} {s : Shared}
  {Q E : Value → Shared → Prop}
theorem conG_use (C : ConG w f vs news dk pre Ret) (hA : A = ktrTop dp un gd cn cs L a ccd cl outer)
    (B : Below A₀ base outer h₀) (F : Fr h₀ L s.heap m) (X : (hd.heap_39 w.params).In h₀) (N : News h₀ L s.heap news) (T : Top p loose mean mg mb h₀) (hk : cs.kind = .function) (hd : dp + dk < recursionLimit) (hu : un + 8 * dk + 1000 < cLine) (hp : pre) (hb : AllBare s.gens)
    (hret : ∀ v tl h' g' d' tk', Ret v tl → Fr h₀ L h' m → News h₀ L h' (tl ++ news) → AllBare g' → Q v ⟨h', g', d', tk', s.os⟩) :
    wpAny (model PG w) A (call (.ref f) vs) Q E s := by
  subst hA
  refine C p loose mean mg mb dp un gd cn cs a ccd cl outer A₀ base h₀ L m s Q E B F X N T hk hd hu hp hb fun v tl s' h1 h2 h3 h4 h5 => ?_
  obtain ⟨h', g', d', tk', os'⟩ := s'
  have e : os' = s.os := h5
  subst e
  exact hret v tl h' g' d' tk' h1 h2 h3 h4
theorem conS_use (C : ConS w f vs news dk pre Ret) (hA : A = ktrTop dp un gd cn cs L a ccd [] [])
    (B : Below A₀ base [] h₀) (F : Fr h₀ L s.heap m) (X : (hd.heap_39 w.params).In h₀) (N : News h₀ L s.heap news) (T : Top p loose mean mg mb h₀) (XB : (hd.heap_39 w.params).In base) (TB : Top p loose mean mg mb base) (hk : cs.kind = .function) (hd : dp + dk < recursionLimit) (hu : un + 8 * dk + 1000 < cLine) (hp : pre)
    (hret : ∀ v tl h' tk', Ret v tl → Fr h₀ L h' m → News h₀ L h' (tl ++ news) → Q v { s with heap := h', toks := tk' }) :
    wpAny (model PG w) A (call (.ref f) vs) Q E s := by
  subst hA
  exact C p loose mean mg mb dp un gd cn cs a ccd A₀ base h₀ L m s Q E B F X N T XB TB hk hd hu hp hret
theorem conSG_use (C : ConSG w f vs news dk pre Ret) (hA : A = ktrTop dp un gd cn cs L a ccd [] [])
    (B : Below A₀ base [] h₀) (F : Fr h₀ L s.heap m) (X : (hd.heap_39 w.params).In h₀) (N : News h₀ L s.heap news) (T : Top p loose mean mg mb h₀) (XB : (hd.heap_39 w.params).In base) (TB : Top p loose mean mg mb base) (hk : cs.kind = .function) (hd : dp + dk < recursionLimit) (hu : un + 8 * dk + 1000 < cLine) (hp : pre) (hb : AllBare s.gens)
    (hret : ∀ v tl h' g' d' tk', Ret v tl → Fr h₀ L h' m → News h₀ L h' (tl ++ news) → AllBare g' → Q v ⟨h', g', d', tk', s.os⟩) :
    wpAny (model PG w) A (call (.ref f) vs) Q E s := by
  subst hA
  refine C p loose mean mg mb dp un gd cn cs a ccd A₀ base h₀ L m s Q E B F X N T XB TB hk hd hu hp hb fun v tl s' h1 h2 h3 h4 h5 => ?_
  obtain ⟨h', g', d', tk', os'⟩ := s'
  have e : os' = s.os := h5
  subst e
  exact hret v tl h' g' d' tk' h1 h2 h3 h4
end
theorem mod3_bd (d : Int) : 4 ≤ 4 + d.fmod 3 ∧ 4 + d.fmod 3 ≤ 6 := by
  have h1 := Int.fmod_nonneg_of_pos d (b := 3) (by decide)
  have h2 := Int.fmod_lt_of_pos d (b := 3) (by decide)
  omega
theorem news_and {h₀ h : Heap} {L r : Addr} {o : Obj} {tl news : List (Addr × Obj)} (N : News h₀ L h (tl ++ news)) (hm : (r, o) ∈ tl ++ news) : News h₀ L h ((r, o) :: news) := fun q hq => by
  rcases List.mem_cons.mp hq with rfl | hq
  · exact N _ hm
  · exact N q (List.mem_append.mpr (.inr hq))
theorem ite_t {c : Prop} [Decidable c] {P Q : Prop} (h : c) (hp : P) : if c then P else Q := by rw [if_pos h]; exact hp
theorem ite_f {c : Prop} [Decidable c] {P Q : Prop} (h : ¬ c) (hq : Q) : if c then P else Q := by rw [if_neg h]; exact hq
theorem bne_no9 {x : Str} : ¬ (x != x) = true := by simp
theorem ite_z0 {a : Int} {P Q : Prop} (h : a = 0) (hq : Q) : if (a != 0) = true then P else Q := by rw [if_neg (by rw [h]; decide)]; exact hq
theorem ite_nz {a : Int} {P Q : Prop} (h : ¬ a = 0) (hp : P) : if (a != 0) = true then P else Q := by rw [if_pos (bne_iff_ne.mpr h)]; exact hp
theorem ite_b0 {a : Int} {P Q : Prop} (h : a = 0) (hp : P) : if (a == 0) = true then P else Q := by rw [if_pos (by rw [h]; decide)]; exact hp
theorem ite_bn {a : Int} {P Q : Prop} (h : ¬ a = 0) (hq : Q) : if (a == 0) = true then P else Q := by rw [if_neg (by simpa using h)]; exact hq
theorem ite_d0 {a : Int} {P Q : Prop} (h : a = 0) (hp : P) : if decide (a = 0) = true then P else Q := by rw [if_pos (decide_eq_true h)]; exact hp
theorem ite_dn {a : Int} {P Q : Prop} (h : ¬ a = 0) (hq : Q) : if decide (a = 0) = true then P else Q := by rw [if_neg (by simpa using h)]; exact hq
theorem ne3 {D a b : Addr} {o1 o2 : Obj} {keep : List (Addr × Obj)} (h1 : a ≠ D) (h2 : b ≠ D) (h3 : ∀ p ∈ keep, p.1 ≠ D) : ∀ p ∈ (a, o1) :: (b, o2) :: keep, p.1 ≠ D := by
  intro p hp
  rcases List.mem_cons.mp hp with rfl | hp
  · exact h1
  · rcases List.mem_cons.mp hp with rfl | hp
    · exact h2
    · exact h3 p hp
theorem ne_chain {a b c : Addr} (h1 : a < b) (h2 : b < c ∧ a < c) : a ≠ b ∧ a ≠ c ∧ b ≠ c := ⟨Nat.ne_of_lt h1, Nat.ne_of_lt h2.2, Nat.ne_of_lt h2.1⟩
theorem ne_last {D x y z a b c : Addr} (h : x < D ∧ y < D ∧ z < D ∧ c < D ∧ b < D ∧ a < D) : D ≠ a ∧ D ≠ b ∧ D ≠ c := ⟨Nat.ne_of_gt h.2.2.2.2.2, Nat.ne_of_gt h.2.2.2.2.1, Nat.ne_of_gt h.2.2.2.1⟩
theorem ite_ne {a b : Int} {P Q : Prop} (h1 : a ≠ b → P) (h2 : ¬ a ≠ b → Q) : if (a != b) = true then P else Q := by
  by_cases h : a = b
  · rw [if_neg (by rw [h]; simp)]; exact h2 (fun q => q h)
  · rw [if_pos (bne_iff_ne.mpr h)]; exact h1 h
end
section
theorem ints_push {vs : List Value} {ns : List Int} {a : Int} {t : Tok} (h : IntsAre vs ns) : IntsAre (vs ++ [.int a t]) (ns ++ [a]) := h.append (.cons _ _ .nil)
theorem take_map_succ {α : Type} {xs : List Int} {i : Nat} {y : Int} (f : Int → α) (h : xs[i]? = some y) : (xs.take (i + 1)).map f = (xs.take i).map f ++ [f y] := by
  rw [List.take_add_one, h]
  simp
section
variable {h₀ h' : Heap} {L : Addr} {s : Shared} {fig : Str} {cnt : Int} {xs : List Int} {rp ru mk : Addr} {i : Nat} {y : Int} {vr vu vm : List Value} {c1 c2 c3 d1 d2 d3 : Nat} {ps : List (Str × Value)} {keep : List (Addr × Obj)} {m' : Str → Option Value} {g' : Array GenState} {d' : Drawn} {k' : Nat} {o' : OsState} {tm tl tr : Tok}
theorem turn_end (hy : xs[i]? = some y) (hvr : StrsAre vr ((xs.take i).map (repX fig cnt))) (hvu : IntsAre vu ((xs.take i).map (linX cnt))) (hvm : StrsAre vm ((xs.take i).map markX))
    (F : Fr h₀ L h' m') (N : News h₀ L h' ((mk, listOf ((List.toArray vm).push (.str (markX y) tm)) d3) :: (ru, listOf ((List.toArray vu).push (.int (linX cnt y) tl)) d2) :: (rp, listOf ((List.toArray vr).push (.str (repX fig cnt y) tr)) d1) :: keep))
    (hps : ∀ p ∈ ps, m' p.1 = some p.2) (hb : AllBare g') (hos : o' = s.os) :
    TurnQ h₀ L s ps [(rp, listOf (List.toArray vr) c1), (ru, listOf (List.toArray vu) c2), (mk, listOf (List.toArray vm) c3)] keep (TurnJ fig cnt xs rp ru mk (i + 1)) .next ⟨h', g', d', k', o'⟩ := by
  refine ⟨rfl, m', [(rp, listOf ((List.toArray vr).push (.str (repX fig cnt y) tr)) d1), (ru, listOf ((List.toArray vu).push (.int (linX cnt y) tl)) d2), (mk, listOf ((List.toArray vm).push (.str (markX y) tm)) d3)], _, F, hps, N, fun p hp => ?_, fun p hp => .tail _ (.tail _ (.tail _ hp)), hb, hos, rfl, ?_⟩
  · simp only [List.mem_cons, List.not_mem_nil, or_false] at hp
    rcases hp with rfl | rfl | rfl
    · exact .tail _ (.tail _ (.head _))
    · exact .tail _ (.head _)
    · exact .head _
  · refine ⟨vr ++ [.str (repX fig cnt y) tr], d1, vu ++ [.int (linX cnt y) tl], d2, vm ++ [.str (markX y) tm], d3, ?_, ?_, ?_, ?_⟩
    · simp
    · rw [take_map_succ _ hy]; exact hvr.append' (.cons _ _ .nil)
    · rw [take_map_succ _ hy]; exact ints_push hvu
    · rw [take_map_succ _ hy]; exact hvm.append' (.cons _ _ .nil)
end
theorem two_of {xs : List Int} (h : xs.length = 2) : ∃ a b, xs = [a, b] := by
  match xs, h with
  | [a, b], _ => exact ⟨a, b, rfl⟩
/-- how many of the first n lines only one of the rulers has -/
noncomputable def diffs (a b : Int) : Nat → Int
  | 0 => 0
  | n + 1 => if (a.fdiv (2 ^ n)).fmod 2 ≠ (b.fdiv (2 ^ n)).fmod 2 then diffs a b n + 1 else diffs a b n
theorem diffs_1 {a b k d d0 : Int} {pre : List Int} (h : d = d0 + 2 * diffs a b pre.length) (hk : k = 0 + (pre.length : Int)) (c : (a.fdiv (2 ^ k.toNat)).fmod 2 ≠ (b.fdiv (2 ^ k.toNat)).fmod 2) : d + 2 = d0 + 2 * diffs a b (pre ++ [k]).length := by
  have e : k.toNat = pre.length := by lia
  rw [e] at c
  rw [List.length_append, List.length_singleton, diffs, if_pos c]; lia
theorem diffs_2 {a b k d d0 : Int} {pre : List Int} (h : d = d0 + 2 * diffs a b pre.length) (hk : k = 0 + (pre.length : Int)) (c : ¬ (a.fdiv (2 ^ k.toNat)).fmod 2 ≠ (b.fdiv (2 ^ k.toNat)).fmod 2) : d = d0 + 2 * diffs a b (pre ++ [k]).length := by
  have e : k.toNat = pre.length := by lia
  rw [e] at c
  rw [List.length_append, List.length_singleton, diffs, if_neg c]; exact h
theorem strs_two {v : List Value} {a b : Str} (h : StrsAre v [a, b]) : ∃ t u, v = [.str a t, .str b u] := by
  cases h with
  | cons _ t h => cases h with
    | cons _ u h => cases h; exact ⟨t, u, rfl⟩
theorem ints_two {v : List Value} {a b : Int} (h : IntsAre v [a, b]) : ∃ t u, v = [.int a t, .int b u] := by
  cases h with
  | cons _ t h => cases h with
    | cons _ u h => cases h; exact ⟨t, u, rfl⟩
theorem diffs_0 {a b d : Int} : d = d + 2 * diffs a b ([] : List Int).length := by
  show d = d + 2 * 0
  lia
end
section
/-! the distance of two texts whose figures are alike -/
theorem ed_del : ∀ (x : Nat) (A B : List Nat), ed A B ≤ ed (x :: A) B + 2
  | x, [], B => by
    have := ed_len [x] B
    rw [ed_nil]
    simp only [List.length_cons, List.length_nil] at this
    lia
  | x, a :: A, [] => by rw [ed_nil', ed_nil']; simp only [List.length_cons]; lia
  | x, a :: A, b :: B => by
    have h1 := ed_del x (a :: A) B
    have u := min3_r (ed A (b :: B)) (ed (a :: A) B) (ed A B + edc a b)
    rw [← ed_cons] at u
    rw [ed_cons x b (a :: A) B]
    exact min3_add (by omega) (by omega) (by omega)
termination_by x A B => A.length + B.length
decreasing_by all_goals (simp only [List.length_cons]; lia)
theorem ed_same (x : Nat) (A B : List Nat) : ed (x :: A) (x :: B) = ed A B := by
  have h1 := ed_del x B A
  have h2 := ed_del x A B
  rw [ed_comm B A, ed_comm (x :: B) A] at h1
  have e : edc x x = 0 := if_pos rfl
  rw [ed_cons, e]
  exact Nat.le_antisymm (Nat.min_le_right _ _) (min3_le h1 h2 (Nat.le_refl _))
theorem ed_one (x : Nat) : ∀ (B : List Nat), ed [x] (B ++ [x]) = 2 * B.length
  | [] => by
    show ed [x] [x] = _
    rw [ed_same, ed_nil]
  | b :: B => by
    have h := ed_one x B
    have h2 := ed_cons x b [] (B ++ [x])
    rw [ed_nil, ed_nil] at h2
    simp only [List.length_cons, List.length_append, List.length_nil, List.cons_append] at *
    lia
theorem ed_snoc (x : Nat) : ∀ (A B : List Nat), ed (A ++ [x]) (B ++ [x]) = ed A B
  | [], B => by
    show ed [x] (B ++ [x]) = _
    rw [ed_one, ed_nil]
  | a :: A, [] => by
    show ed (a :: A ++ [x]) [x] = _
    rw [ed_comm, ed_one, ed_nil']
  | a :: A, b :: B => by
    have h1 := ed_snoc x A (b :: B)
    have h2 := ed_snoc x (a :: A) B
    have h3 := ed_snoc x A B
    have h4 := ed_cons a b A B
    have h5 := ed_cons a b (A ++ [x]) (B ++ [x])
    simp only [List.cons_append] at *
    lia
termination_by A B => A.length + B.length
decreasing_by all_goals (simp only [List.length_cons]; lia)
end
section
/-! the least and the greatest distance of two texts that tell the same figures -/
noncomputable def us (b : Bool) : List Nat := if b then [95] else []
noncomputable def tx : List (Nat × Bool) → List Nat
  | [] => []
  | z :: r => z.1 :: (us z.2 ++ tx r)
noncomputable abbrev Twin : Type := List ((Nat × Bool) × (Nat × Bool))
noncomputable abbrev lo (T : Twin) : List (Nat × Bool) := T.map fun t => t.1
noncomputable abbrev hi (T : Twin) : List (Nat × Bool) := T.map fun t => t.2
noncomputable def Good : Twin → Prop
  | [] => True
  | (x, y) :: T => x.1 ≠ 95 ∧ y.1 ≠ 95 ∧ (x.1 = y.1 ∨ x.2 = y.2) ∧ (∀ t ∈ T, x.1 ≠ t.2.1 ∧ y.1 ≠ t.1.1) ∧ Good T
noncomputable def dif (a b : Bool) : Nat := if a = b then 0 else 2
noncomputable def wt : Twin → Nat
  | [] => 0
  | (x, y) :: T => edc x.1 y.1 + dif x.2 y.2 + wt T
noncomputable def turned (T : Twin) : Twin := T.map fun t => (t.2, t.1)
theorem dif_comm (a b : Bool) : dif a b = dif b a := by cases a <;> cases b <;> rfl
theorem dif_le (a b : Bool) : dif a b ≤ 2 := by cases a <;> cases b <;> decide
theorem lo_turned (T : Twin) : lo (turned T) = hi T := by simp [lo, hi, turned]
theorem hi_turned (T : Twin) : hi (turned T) = lo T := by simp [lo, hi, turned]
theorem wt_turned : ∀ T : Twin, wt (turned T) = wt T
  | [] => rfl
  | (x, y) :: T => by
    have ih := wt_turned T
    show edc y.1 x.1 + dif y.2 x.2 + wt (turned T) = edc x.1 y.1 + dif x.2 y.2 + wt T
    rw [ih, edc_comm, dif_comm]
theorem good_turned : ∀ {T : Twin}, Good T → Good (turned T)
  | [], _ => trivial
  | (x, y) :: T, ⟨h1, h2, h3, h4, h5⟩ => ⟨h2, h1, h3.imp Eq.symm Eq.symm, fun t ht => by
      obtain ⟨q, hq, rfl⟩ := List.mem_map.mp ht
      exact ⟨(h4 q hq).2, (h4 q hq).1⟩, good_turned h5⟩
theorem tx_len : ∀ R : List (Nat × Bool), R.length ≤ (tx R).length
  | [] => Nat.le_refl _
  | z :: r => by
    have := tx_len r
    show r.length + 1 ≤ (us z.2 ++ tx r).length + 1
    rw [List.length_append]; lia
noncomputable def bnd (R : List (Nat × Bool)) (w v : Bool) : Nat := if R.length = 0 then dif w v else 2 * R.length
theorem bnd_nil (w v : Bool) : bnd [] w v = dif w v := rfl
theorem bnd_cons (z : Nat × Bool) (R : List (Nat × Bool)) (w v : Bool) : bnd (z :: R) w v = 2 * R.length + 2 := by unfold bnd; rw [if_neg (by simp), List.length_cons]; lia
theorem bnd_snoc (z : Nat × Bool) (R : List (Nat × Bool)) (w v : Bool) : bnd (R ++ [z]) w v = 2 * R.length + 2 := by unfold bnd; rw [List.length_append, List.length_singleton, if_neg (by lia)]; lia
theorem bnd_le (R : List (Nat × Bool)) (w v : Bool) : bnd R w v ≤ 2 * R.length + 2 := by unfold bnd; have := dif_le w v; split <;> lia
theorem bnd_ge (R : List (Nat × Bool)) (w v : Bool) : 2 * R.length ≤ bnd R w v := by unfold bnd; split <;> lia
theorem bnd_mid (R : List (Nat × Bool)) (w v : Bool) : bnd R w v ≤ bnd R false false + 2 := by unfold bnd; have := dif_le w v; split <;> lia
noncomputable def Clear (R : List (Nat × Bool)) (T : Twin) : Prop := ∀ z ∈ R, z.1 ≠ 95 ∧ ∀ t ∈ T, z.1 ≠ t.2.1
theorem clear_nil (T : Twin) : Clear [] T := fun _ h => nomatch h
theorem clear_step {R : List (Nat × Bool)} {x y : Nat × Bool} {T : Twin} (h : Clear R ((x, y) :: T)) (g : Good ((x, y) :: T)) : Clear (R ++ [x]) T := fun z hz => by
  rcases List.mem_append.mp hz with hz | hz
  · exact ⟨(h z hz).1, fun t ht => (h z hz).2 t (.tail _ ht)⟩
  · rw [List.mem_singleton.mp hz]
    exact ⟨g.1, fun t ht => (g.2.2.2.1 t ht).1⟩
theorem clear_one {x y : Nat × Bool} {T : Twin} (g : Good ((x, y) :: T)) : Clear [x] T := clear_step (clear_nil _) g
theorem clear_turned {x y : Nat × Bool} {T : Twin} (g : Good ((x, y) :: T)) : Clear [y] (turned T) := clear_one (T := turned T) (y := x) (good_turned g)
theorem edc_ne {a b : Nat} (h : a ≠ b) : edc a b = 2 := if_neg h
theorem summand {x y : Nat × Bool} {T : Twin} (g : Good ((x, y) :: T)) : edc x.1 y.1 + dif x.2 y.2 ≤ 2 := by
  rcases g.2.2.1 with h | h
  · have : edc x.1 y.1 = 0 := if_pos h
    have := dif_le x.2 y.2
    lia
  · have : dif x.2 y.2 = 0 := if_pos h
    have := edc_le x.1 y.1
    lia
theorem low : ∀ (n : Nat) (T : Twin) (R : List (Nat × Bool)) (w v : Bool) (A B : List Nat), Good T → Clear R T → A = us w ++ tx (R ++ lo T) → B = us v ++ tx (hi T) → A.length + B.length < n → bnd R w v + wt T ≤ ed A B
  | 0, _, _, _, _, _, _, _, _, _, _, h => absurd h (Nat.not_lt_zero _)
  | n + 1, T, R, true, true, A, B, g, c, hA, hB, hn => by
    subst hA hB
    show _ ≤ ed (95 :: (us false ++ tx (R ++ lo T))) (95 :: (us false ++ tx (hi T)))
    rw [ed_same]
    have h := low n T R false false _ _ g c rfl rfl (by simp only [us, List.length_append, List.length_cons, List.length_nil, if_true, if_false, Bool.false_eq_true] at hn ⊢; lia)
    exact h
  | n + 1, [], R, true, false, A, B, g, c, hA, hB, hn => by
    subst hA hB
    show _ ≤ ed (95 :: tx (R ++ [])) []
    rw [ed_nil', List.append_nil, List.length_cons]
    have h1 := tx_len R
    have h2 := bnd_le R true false
    show bnd R true false + 0 ≤ _
    lia
  | n + 1, (x, y) :: T, R, true, false, A, B, g, c, hA, hB, hn => by
    subst hA hB
    have e : tx (R ++ lo ((x, y) :: T)) = tx ((R ++ [x]) ++ lo T) := by simp
    have hn' : (95 :: tx (R ++ lo ((x, y) :: T))).length + (y.1 :: (us y.2 ++ tx (hi T))).length < n + 1 := hn
    show _ ≤ ed (95 :: tx (R ++ lo ((x, y) :: T))) (y.1 :: (us y.2 ++ tx (hi T)))
    simp only [List.length_cons] at hn'
    rw [ed_cons, edc_ne (Ne.symm g.2.1)]
    have h1 := low n ((x, y) :: T) R false false (tx (R ++ lo ((x, y) :: T))) (y.1 :: (us y.2 ++ tx (hi T))) g c rfl rfl (by simp only [List.length_cons]; lia)
    have h2 := low n T (R ++ [x]) true y.2 (95 :: tx (R ++ lo ((x, y) :: T))) (us y.2 ++ tx (hi T)) g.2.2.2.2 (clear_step c g) (by rw [e]; rfl) rfl (by simp only [List.length_cons]; lia)
    have h3 := low n T (R ++ [x]) false y.2 (tx (R ++ lo ((x, y) :: T))) (us y.2 ++ tx (hi T)) g.2.2.2.2 (clear_step c g) (by rw [e]; rfl) rfl (by lia)
    have s := summand g
    have b1 := bnd_mid R true false
    have b2 := bnd_le R true false
    rw [bnd_snoc] at h2 h3
    have ew : wt ((x, y) :: T) = edc x.1 y.1 + dif x.2 y.2 + wt T := rfl
    exact min3_le (by omega) (by omega) (by omega)
  | n + 1, [], [], false, v, A, B, g, c, hA, hB, hn => by
    subst hA hB
    show _ ≤ ed [] (us v ++ [])
    rw [ed_nil]
    cases v <;> decide
  | n + 1, (x, y) :: T, [], false, true, A, B, g, c, hA, hB, hn => by
    subst hA hB
    have hn' : (x.1 :: (us x.2 ++ tx (lo T))).length + (95 :: tx (hi ((x, y) :: T))).length < n + 1 := hn
    show _ ≤ ed (x.1 :: (us x.2 ++ tx (lo T))) (95 :: tx (hi ((x, y) :: T)))
    simp only [List.length_cons] at hn'
    rw [ed_cons, edc_ne g.1]
    have h1 := low n (turned T) [y] true x.2 (95 :: tx (hi ((x, y) :: T))) (us x.2 ++ tx (lo T)) (good_turned g.2.2.2.2) (clear_turned g) (by rw [lo_turned]; rfl) (by rw [hi_turned]) (by simp only [List.length_cons]; lia)
    have h2 := low n ((x, y) :: T) [] false false (x.1 :: (us x.2 ++ tx (lo T))) (tx (hi ((x, y) :: T))) g (clear_nil _) rfl rfl (by simp only [List.length_cons]; lia)
    have h3 := low n (turned T) [y] false x.2 (tx (hi ((x, y) :: T))) (us x.2 ++ tx (lo T)) (good_turned g.2.2.2.2) (clear_turned g) (by rw [lo_turned]; rfl) (by rw [hi_turned]) (by lia)
    rw [ed_comm] at h1 h3
    rw [wt_turned, bnd_cons] at h1 h3
    simp only [List.length_nil] at h1 h3
    rw [bnd_nil] at h2 ⊢
    have s := summand g
    have b1 := dif_le false true
    have ew : wt ((x, y) :: T) = edc x.1 y.1 + dif x.2 y.2 + wt T := rfl
    exact min3_le (by omega) (by omega) (by omega)
  | n + 1, T, z :: R, false, true, A, B, g, c, hA, hB, hn => by
    subst hA hB
    have hn' : (z.1 :: (us z.2 ++ tx (R ++ lo T))).length + (95 :: tx (hi T)).length < n + 1 := hn
    show _ ≤ ed (z.1 :: (us z.2 ++ tx (R ++ lo T))) (95 :: tx (hi T))
    simp only [List.length_cons] at hn'
    have cR : Clear R T := fun q hq => c q (.tail _ hq)
    rw [ed_cons, edc_ne (c z (.head _)).1]
    have h1 := low n T R z.2 true (us z.2 ++ tx (R ++ lo T)) (95 :: tx (hi T)) g cR rfl rfl (by simp only [List.length_cons]; lia)
    have h2 := low n T (z :: R) false false (z.1 :: (us z.2 ++ tx (R ++ lo T))) (tx (hi T)) g c rfl rfl (by simp only [List.length_cons]; lia)
    have h3 := low n T R z.2 false (us z.2 ++ tx (R ++ lo T)) (tx (hi T)) g cR rfl rfl (by lia)
    have b1 := bnd_ge R z.2 true
    have b2 := bnd_ge R z.2 false
    rw [bnd_cons] at h2 ⊢
    exact min3_le (by omega) (by omega) (by omega)
  | n + 1, (x, y) :: T, [], false, false, A, B, g, c, hA, hB, hn => by
    subst hA hB
    have hn' : (x.1 :: (us x.2 ++ tx (lo T))).length + (y.1 :: (us y.2 ++ tx (hi T))).length < n + 1 := hn
    show _ ≤ ed (x.1 :: (us x.2 ++ tx (lo T))) (y.1 :: (us y.2 ++ tx (hi T)))
    simp only [List.length_cons] at hn'
    rw [ed_cons]
    have h1 := low n (turned T) [y] false x.2 (y.1 :: (us y.2 ++ tx (hi T))) (us x.2 ++ tx (lo T)) (good_turned g.2.2.2.2) (clear_turned g) (by rw [lo_turned]; rfl) (by rw [hi_turned]) (by simp only [List.length_cons]; lia)
    have h2 := low n T [x] false y.2 (x.1 :: (us x.2 ++ tx (lo T))) (us y.2 ++ tx (hi T)) g.2.2.2.2 (clear_one g) rfl rfl (by simp only [List.length_cons]; lia)
    have h3 := low n T [] x.2 y.2 (us x.2 ++ tx (lo T)) (us y.2 ++ tx (hi T)) g.2.2.2.2 (clear_nil _) rfl rfl (by lia)
    rw [ed_comm] at h1
    rw [wt_turned, bnd_cons] at h1
    rw [bnd_cons] at h2
    simp only [List.length_nil] at h1 h2
    rw [bnd_nil] at h3 ⊢
    have s := summand g
    have ew : wt ((x, y) :: T) = edc x.1 y.1 + dif x.2 y.2 + wt T := rfl
    have e0 : dif false false = 0 := rfl
    exact min3_le (by omega) (by omega) (by omega)
  | n + 1, [], z :: R, false, false, A, B, g, c, hA, hB, hn => by
    subst hA hB
    show _ ≤ ed (z.1 :: (us z.2 ++ tx (R ++ []))) []
    rw [ed_nil', List.append_nil, List.length_cons, List.length_append, bnd_cons]
    have h1 := tx_len R
    show 2 * R.length + 2 + 0 ≤ _
    lia
  | n + 1, (x, y) :: T, z :: R, false, false, A, B, g, c, hA, hB, hn => by
    subst hA hB
    have e : tx (R ++ lo ((x, y) :: T)) = tx ((R ++ [x]) ++ lo T) := by simp
    have hn' : (z.1 :: (us z.2 ++ tx (R ++ lo ((x, y) :: T)))).length + (y.1 :: (us y.2 ++ tx (hi T))).length < n + 1 := hn
    show _ ≤ ed (z.1 :: (us z.2 ++ tx (R ++ lo ((x, y) :: T)))) (y.1 :: (us y.2 ++ tx (hi T)))
    simp only [List.length_cons] at hn'
    have cR : Clear R ((x, y) :: T) := fun q hq => c q (.tail _ hq)
    rw [ed_cons, edc_ne ((c z (.head _)).2 _ (.head _))]
    have h1 := low n ((x, y) :: T) R z.2 false (us z.2 ++ tx (R ++ lo ((x, y) :: T))) (y.1 :: (us y.2 ++ tx (hi T))) g cR rfl rfl (by simp only [List.length_cons]; omega)
    have h2 := low n T ((z :: R) ++ [x]) false y.2 (z.1 :: (us z.2 ++ tx (R ++ lo ((x, y) :: T)))) (us y.2 ++ tx (hi T)) g.2.2.2.2 (clear_step c g) (by rw [e]; rfl) rfl (by simp only [List.length_cons]; lia)
    have h3 := low n T (R ++ [x]) z.2 y.2 (us z.2 ++ tx (R ++ lo ((x, y) :: T))) (us y.2 ++ tx (hi T)) g.2.2.2.2 (clear_step cR g) (by rw [e]) rfl (by lia)
    have s := summand g
    have b1 := bnd_ge R z.2 false
    rw [bnd_snoc] at h2 h3
    rw [bnd_cons]
    simp only [List.length_cons] at h2
    have ew : wt ((x, y) :: T) = edc x.1 y.1 + dif x.2 y.2 + wt T := rfl
    exact min3_le (by omega) (by omega) (by omega)
theorem ed_ins (x : Nat) : ∀ (A B : List Nat), ed (x :: A) B ≤ ed A B + 2
  | A, [] => by rw [ed_nil', ed_nil', List.length_cons]; lia
  | A, b :: B => by
    rw [ed_cons]
    exact min3_l _ _ _
theorem ed_us (w v : Bool) (A B : List Nat) : ed (us w ++ A) (us v ++ B) ≤ ed A B + dif w v := by
  cases w <;> cases v
  · exact Nat.le_refl _
  · have := ed_ins 95 B A
    rw [ed_comm, ed_comm B A] at this
    exact this
  · exact ed_ins 95 A B
  · show ed (95 :: A) (95 :: B) ≤ _
    rw [ed_same]; exact Nat.le_refl _
theorem upp : ∀ T : Twin, ed (tx (lo T)) (tx (hi T)) ≤ wt T
  | [] => by show ed [] [] ≤ 0; rw [ed_nil]; exact Nat.le_refl _
  | (x, y) :: T => by
    have h := upp T
    have h2 := ed_us x.2 y.2 (tx (lo T)) (tx (hi T))
    show ed (x.1 :: (us x.2 ++ tx (lo T))) (y.1 :: (us y.2 ++ tx (hi T))) ≤ edc x.1 y.1 + dif x.2 y.2 + wt T
    rw [ed_cons]
    exact Nat.le_trans (Nat.min_le_right _ _) (by omega)
theorem ed_is {T : Twin} (g : Good T) : ed (tx (lo T)) (tx (hi T)) = wt T := by
  have h1 := upp T
  have h2 := low _ T [] false false (tx (lo T)) (tx (hi T)) g (clear_nil _) rfl rfl (Nat.lt_succ_self _)
  have : bnd [] false false = 0 := rfl
  lia
theorem ed_pre : ∀ (p A B : List Nat), ed (p ++ A) (p ++ B) = ed A B
  | [], _, _ => rfl
  | x :: p, A, B => by
    show ed (x :: (p ++ A)) (x :: (p ++ B)) = _
    rw [ed_same, ed_pre p A B]
theorem ed_suf : ∀ (p A B : List Nat), ed (A ++ p) (B ++ p) = ed A B
  | [], A, B => by rw [List.append_nil, List.append_nil]
  | x :: p, A, B => by
    have h := ed_suf p (A ++ [x]) (B ++ [x])
    rw [List.append_assoc, List.append_assoc] at h
    exact h.trans (ed_snoc x A B)
end
section
/-! what is cut off tells nothing of the distance -/
theorem lcp_le : ∀ (A B : List Nat), lcp A B ≤ A.length ∧ lcp A B ≤ B.length
  | [], B => by simp [lcp]
  | a :: r, [] => by simp [lcp]
  | a :: r, b :: q => by
    have := lcp_le r q
    unfold lcp
    split <;> simp only [List.length_cons] <;> lia
theorem lcp_take : ∀ (A B : List Nat), A.take (lcp A B) = B.take (lcp A B)
  | [], B => by simp [lcp]
  | a :: r, [] => by simp [lcp]
  | a :: r, b :: q => by
    have := lcp_take r q
    unfold lcp
    split
    · rename_i h
      rw [List.take_succ_cons, List.take_succ_cons, this, h]
    · rfl
theorem lcp_head : ∀ (A B : List Nat) (x y : Nat) (r q : List Nat), A.drop (lcp A B) = x :: r → B.drop (lcp A B) = y :: q → x ≠ y
  | [], B, x, y, r, q, h, _ => by simp at h
  | a :: s, [], x, y, r, q, _, h => by simp at h
  | a :: s, b :: t, x, y, r, q, h1, h2 => by
    unfold lcp at h1 h2
    by_cases e : a = b
    · rw [if_pos e] at h1 h2
      exact lcp_head s t x y r q h1 h2
    · rw [if_neg e] at h1 h2
      have e1 : a = x := (List.cons.inj h1).1
      have e2 : b = y := (List.cons.inj h2).1
      rw [← e1, ← e2]; exact e
theorem cut_split (X Y : List Nat) : ∃ p s, X = p ++ cutA X Y ++ s ∧ Y = p ++ cutB X Y ++ s := by
  refine ⟨X.take (lcp X Y), ((X.drop (lcp X Y)).reverse.take (lcp (X.drop (lcp X Y)).reverse (Y.drop (lcp X Y)).reverse)).reverse, ?_, ?_⟩
  · conv => lhs; rw [← List.take_append_drop (lcp X Y) X]
    rw [List.append_assoc]
    congr 1
    unfold cutA
    have l := lcp_le (X.drop (lcp X Y)).reverse (Y.drop (lcp X Y)).reverse
    generalize X.drop (lcp X Y) = P at *
    generalize lcp P.reverse _ = n at *
    rw [List.length_reverse] at l
    rw [List.reverse_take, List.reverse_reverse, List.length_reverse]
    exact (List.take_append_drop _ _).symm
  · conv => lhs; rw [← List.take_append_drop (lcp X Y) Y]
    rw [List.append_assoc, lcp_take X Y]
    congr 1
    unfold cutB
    have l := lcp_le (X.drop (lcp X Y)).reverse (Y.drop (lcp X Y)).reverse
    rw [lcp_take (X.drop (lcp X Y)).reverse]
    generalize lcp (X.drop (lcp X Y)).reverse _ = n at *
    generalize Y.drop (lcp X Y) = P at *
    rw [List.length_reverse] at l
    rw [List.reverse_take, List.reverse_reverse, List.length_reverse]
    exact (List.take_append_drop _ _).symm
theorem cut_ed (X Y : List Nat) : ed (cutA X Y).reverse (cutB X Y).reverse = ed X.reverse Y.reverse := by
  obtain ⟨p, s, h1, h2⟩ := cut_split X Y
  generalize cutA X Y = a at *
  generalize cutB X Y = b at *
  rw [h1, h2]
  rw [List.reverse_append, List.reverse_append, List.reverse_append, List.reverse_append, ed_pre, ed_suf]
theorem ed_zero : ∀ {A B : List Nat}, ed A B = 0 → A = B
  | [], [], _ => rfl
  | [], b :: B, h => by rw [ed_nil] at h; simp at h
  | a :: A, [], h => by rw [ed_nil'] at h; simp at h
  | a :: A, b :: B, h => by
    rw [ed_cons] at h
    have h1 : ed A B = 0 := by lia
    have h2 : edc a b = 0 := by lia
    have : a = b := by
      unfold edc at h2
      split at h2
      · assumption
      · lia
    rw [this, ed_zero h1]
/-- of two cut texts, unlike in length, none empty, the distance is more than one step -/
theorem cut_far {X Y : List Nat} (hA : cutA X Y ≠ []) (hB : cutB X Y ≠ []) (hl : X.length ≠ Y.length) : 2 < ed X.reverse Y.reverse := by
  rw [← cut_ed]
  obtain ⟨p, s, h1, h2⟩ := cut_split X Y
  have hl2 : (cutA X Y).length ≠ (cutB X Y).length := fun e => hl (by
    have g1 := congrArg List.length h1
    have g2 := congrArg List.length h2
    simp only [List.length_append] at g1 g2
    (clear hA hB hl h1 h2; lia))
  -- the last signs
  have hlast : ∀ a b r q, (cutA X Y).reverse = a :: r → (cutB X Y).reverse = b :: q → a ≠ b := by
    intro a b r q e1 e2
    unfold cutA at e1
    unfold cutB at e2
    rw [List.reverse_take] at e1 e2
    have l := lcp_le (X.drop (lcp X Y)).reverse (Y.drop (lcp X Y)).reverse
    rw [List.length_reverse, List.length_reverse] at l
    have n1 : (X.drop (lcp X Y)).length - ((X.drop (lcp X Y)).length - lcp (X.drop (lcp X Y)).reverse (Y.drop (lcp X Y)).reverse) = lcp (X.drop (lcp X Y)).reverse (Y.drop (lcp X Y)).reverse := Nat.sub_sub_self l.1
    have n2 : (Y.drop (lcp X Y)).length - ((Y.drop (lcp X Y)).length - lcp (X.drop (lcp X Y)).reverse (Y.drop (lcp X Y)).reverse) = lcp (X.drop (lcp X Y)).reverse (Y.drop (lcp X Y)).reverse := Nat.sub_sub_self l.2
    rw [n1] at e1
    rw [n2] at e2
    exact lcp_head _ _ _ _ _ _ e1 e2
  -- the first signs
  have hfirst : ∀ a b r q, cutA X Y = a :: r → cutB X Y = b :: q → a ≠ b := by
    intro a b r q e1 e2
    unfold cutA at e1
    unfold cutB at e2
    have f1 : ∃ r', X.drop (lcp X Y) = a :: r' := by
      cases hX : X.drop (lcp X Y) with
      | nil => rw [hX] at e1; simp at e1
      | cons c t =>
        rw [hX] at e1
        cases hk : ((c :: t).length - lcp (c :: t).reverse (Y.drop (lcp X Y)).reverse) with
        | zero => rw [hk] at e1; simp at e1
        | succ k => rw [hk, List.take_succ_cons] at e1; exact ⟨t, by rw [(List.cons.inj e1).1]⟩
    have f2 : ∃ q', Y.drop (lcp X Y) = b :: q' := by
      cases hX : Y.drop (lcp X Y) with
      | nil => rw [hX] at e2; simp at e2
      | cons c t =>
        rw [hX] at e2
        cases hk : ((c :: t).length - lcp (X.drop (lcp X Y)).reverse (c :: t).reverse) with
        | zero => rw [hk] at e2; simp at e2
        | succ k => rw [hk, List.take_succ_cons] at e2; exact ⟨t, by rw [(List.cons.inj e2).1]⟩
    obtain ⟨r', f1⟩ := f1
    obtain ⟨q', f2⟩ := f2
    exact lcp_head _ _ _ _ _ _ f1 f2
  have rA := List.reverse_reverse (cutA X Y)
  have rB := List.reverse_reverse (cutB X Y)
  have lA := List.length_reverse (as := cutA X Y)
  have lB := List.length_reverse (as := cutB X Y)
  cases eA : (cutA X Y).reverse with
  | nil => rw [eA] at rA; exact absurd rA.symm hA
  | cons a r =>
    cases eB : (cutB X Y).reverse with
    | nil => rw [eB] at rB; exact absurd rB.symm hB
    | cons b q =>
      have ne := hlast a b r q eA eB
      have h := ed_cons a b r q
      rw [edc_ne ne] at h
      rw [eA] at rA lA
      rw [eB] at rB lB
      simp only [List.length_cons] at lA lB
      have z1 : ed r (b :: q) ≠ 0 := fun z => by
        have e := ed_zero z
        -- cutB = rev(b::q) = rev r, cutA = rev (a :: r): their first signs are one
        rw [e, List.reverse_cons] at rA
        cases eQ : (b :: q).reverse with
        | nil => simp at eQ
        | cons c t =>
          rw [eQ] at rA rB
          exact hfirst c c (t ++ [a]) t rA.symm rB.symm rfl
      have z2 : ed (a :: r) q ≠ 0 := fun z => by
        have e := ed_zero z
        rw [← e, List.reverse_cons] at rB
        cases eQ : (a :: r).reverse with
        | nil => simp at eQ
        | cons c t =>
          rw [eQ] at rA rB
          exact hfirst c c t (t ++ [b]) rA.symm rB.symm rfl
      have z3 : ed r q ≠ 0 := fun z => by
        have e := ed_zero z
        rw [e] at lA
        lia
      lia
/-- what the program's distance tells, told by the distance of the texts -/
theorem lev_all {X Y : List Nat} {mc n : Int} {due : Nat} (h : LevOk X Y mc n) (h0 : 0 ≤ mc) (hd : ed X.reverse Y.reverse = due) (h2 : due ≤ 2 → X = Y ∨ X.length ≠ Y.length) :
    (((due : Int) ≤ mc ∨ (due : Int) ≤ 2) → n = due) ∧ (¬ ((due : Int) ≤ mc ∨ (due : Int) ≤ 2) → mc < n ∧ n ≤ due) := by
  have hc := cut_ed X Y
  rcases h with ⟨e, hn⟩ | ⟨hne, h⟩
  · subst e
    have z := ed_pre X.reverse [] []
    rw [List.append_nil, ed_nil] at z
    have : due = 0 := by rw [← hd, z]; rfl
    subst this
    refine ⟨fun _ => by rw [hn]; rfl, fun q => absurd (.inr (by (clear h0 hn hc z hd h2 q; lia))) q⟩
  · rcases h with ⟨he, hn⟩ | ⟨hA, hB, hn⟩
    · have z : ed (cutA X Y).reverse (cutB X Y).reverse = 2 * ((cutA X Y).length + (cutB X Y).length) := by
        rcases he with he | he <;> rw [he]
        · rw [List.reverse_nil, ed_nil, List.length_reverse, List.length_nil]; lia
        · rw [List.reverse_nil, ed_nil', List.length_reverse, List.length_nil]; lia
      have : n = due := by lia
      refine ⟨fun _ => this, fun q => by omega⟩
    · rcases hn with hn | ⟨hn, hlt⟩
      · have : n = due := by lia
        refine ⟨fun _ => this, fun q => by omega⟩
      · refine ⟨fun q => ?_, fun q => by omega⟩
        by_cases hs : due ≤ 2
        · rcases h2 hs with e | e
          · exact absurd e hne
          · have := cut_far hA hB e
            lia
        · (clear h0 h2 hne hA hB hn; omega)
end
section
/-! a reply read from behind, as figures with or without an underscore behind each -/
noncomputable def figN (fig : Str) (k : Nat) : Nat := (Lt fig).getD k 0
noncomputable def pb (fig : Str) (l : Int) (k : Nat) : Bool := decide (0 < (fig.length : Int) - 1 - (k : Int) ∧ Int.fmod (Int.fdiv l (2 ^ ((fig.length : Int) - 1 - (k : Int) - 1).toNat)) 2 = 1)
noncomputable def ub (fig : Str) (l : Int) : Nat → Bool
  | 0 => false
  | k + 1 => pb fig l k
noncomputable def back (fig : Str) (l : Int) : Nat → List (Nat × Bool)
  | 0 => []
  | k + 1 => (figN fig k, ub fig l k) :: back fig l k
noncomputable def TT (base : Twin) (fig : Str) (l1 l2 : Int) : Nat → Twin
  | 0 => base
  | k + 1 => ((figN fig k, ub fig l1 k), (figN fig k, ub fig l2 k)) :: TT base fig l1 l2 k
theorem lo_TT (base : Twin) (fig : Str) (l1 l2 : Int) : ∀ k, lo (TT base fig l1 l2 k) = back fig l1 k ++ lo base
  | 0 => rfl
  | k + 1 => by
    have := lo_TT base fig l1 l2 k
    show (figN fig k, ub fig l1 k) :: lo (TT base fig l1 l2 k) = _
    rw [this]; rfl
theorem hi_TT (base : Twin) (fig : Str) (l1 l2 : Int) : ∀ k, hi (TT base fig l1 l2 k) = back fig l2 k ++ hi base
  | 0 => rfl
  | k + 1 => by
    have := hi_TT base fig l1 l2 k
    show (figN fig k, ub fig l2 k) :: hi (TT base fig l1 l2 k) = _
    rw [this]; rfl
theorem tx_app : ∀ A B : List (Nat × Bool), tx (A ++ B) = tx A ++ tx B
  | [], _ => rfl
  | z :: A, B => by
    show z.1 :: (us z.2 ++ tx (A ++ B)) = z.1 :: (us z.2 ++ tx A) ++ tx B
    rw [tx_app A B]; simp
theorem Lt_us : Lt (Str.ofString "_") = [95] := rfl
theorem plain_succ {fig : Str} {l : Int} {k : Nat} (hk : k < fig.length) : Lt (plainTo fig l (k + 1)) = Lt (plainTo fig l k) ++ figN fig k :: us (pb fig l k) := by
  have e := Lt_item (x := fig) (i := (k : Int)) (by lia) (by omega)
  rw [Int.toNat_natCast] at e
  rw [plainTo]
  unfold pb
  by_cases h : 0 < (fig.length : Int) - 1 - (k : Int) ∧ Int.fmod (Int.fdiv l (2 ^ ((fig.length : Int) - 1 - (k : Int) - 1).toNat)) 2 = 1
  · rw [if_pos h, Lt_app, Lt_app, e, decide_eq_true h, Lt_us]
    simp [us, figN]
  · rw [if_neg h, Lt_app, e, decide_eq_false h]
    simp [us, figN]
theorem us_rev (b : Bool) : (us b).reverse = us b := by cases b <;> rfl
theorem plain_rev {fig : Str} {l : Int} : ∀ {k : Nat}, k ≤ fig.length → (Lt (plainTo fig l k)).reverse = us (ub fig l k) ++ tx (back fig l k)
  | 0, _ => rfl
  | k + 1, h => by
    have ih := plain_rev (fig := fig) (l := l) (k := k) (by lia)
    rw [plain_succ (by lia), List.reverse_append, List.reverse_cons, us_rev, ih]
    show us (pb fig l k) ++ [figN fig k] ++ (us (ub fig l k) ++ tx (back fig l k)) = us (pb fig l k) ++ (figN fig k :: (us (ub fig l k) ++ tx (back fig l k)))
    simp
theorem ub_top {fig : Str} {l : Int} : ub fig l fig.length = false := by
  cases h : fig.length with
  | zero => rfl
  | succ n =>
    show pb fig l n = false
    unfold pb
    rw [h]
    exact decide_eq_false (fun q => by have := q.1; omega)
theorem txt_rev (fig : Str) (l : Int) : (Lt (txtF fig l)).reverse = tx (back fig l fig.length) := by
  have := plain_rev (fig := fig) (l := l) (k := fig.length) (Nat.le_refl _)
  rw [ub_top] at this
  exact this
theorem fig_dig {fig pool : Str} (h : FigOk fig pool) : ∀ n ∈ Lt fig, 48 ≤ n ∧ n ≤ 57 := fun n hn => by
  have h1 : n ∈ [48, 49, 50, 51, 52, 53, 54, 55, 56, 57] := h.mem_iff.mp (List.mem_append.mpr (.inl hn))
  have h2 : ∀ n ∈ [48, 49, 50, 51, 52, 53, 54, 55, 56, 57], 48 ≤ n ∧ n ≤ 57 := by decide
  exact h2 n h1
theorem fig_nodup {fig pool : Str} (h : FigOk fig pool) : (Lt fig).Nodup := by
  have h1 : ([48, 49, 50, 51, 52, 53, 54, 55, 56, 57] : List Nat).Nodup := by decide
  exact (List.nodup_append.mp (h.nodup_iff.mpr h1)).1
theorem figN_mem {fig : Str} {k : Nat} (h : k < fig.length) : figN fig k ∈ Lt fig := by
  have hk : k < (Lt fig).length := by rw [Lt_len]; exact h
  unfold figN
  rw [getD_get hk]; exact List.getElem_mem hk
theorem figN_inj {fig pool : Str} (h : FigOk fig pool) {i j : Nat} (hi : i < fig.length) (hj : j < fig.length) (e : figN fig i = figN fig j) : i = j := by
  have h1 : i < (Lt fig).length := by rw [Lt_len]; exact hi
  have h2 : j < (Lt fig).length := by rw [Lt_len]; exact hj
  unfold figN at e
  rw [getD_get h1, getD_get h2] at e
  exact (List.getElem_inj (fig_nodup h)).mp e
theorem TT_mem {base : Twin} {fig : Str} {l1 l2 : Int} {t : (Nat × Bool) × (Nat × Bool)} : ∀ {k : Nat}, t ∈ TT base fig l1 l2 k → t ∈ base ∨ ∃ j, j < k ∧ t.1.1 = figN fig j ∧ t.2.1 = figN fig j
  | 0, h => .inl h
  | k + 1, h => by
    rcases List.mem_cons.mp h with rfl | h
    · exact .inr ⟨k, Nat.lt_succ_self _, rfl, rfl⟩
    · rcases TT_mem h with h | ⟨j, hj, h⟩
      · exact .inl h
      · exact .inr ⟨j, by lia, h⟩
noncomputable def Off (base : Twin) : Prop := ∀ t ∈ base, (t.1.1 < 48 ∨ 57 < t.1.1) ∧ (t.2.1 < 48 ∨ 57 < t.2.1)
theorem good_TT {base : Twin} {fig pool : Str} {l1 l2 : Int} (h : FigOk fig pool) (hb : Good base) (ho : Off base) : ∀ {k : Nat}, k ≤ fig.length → Good (TT base fig l1 l2 k)
  | 0, _ => hb
  | k + 1, hk => by
    have hd := fig_dig h _ (figN_mem (fig := fig) (k := k) (by lia))
    refine ⟨?_, ?_, .inl rfl, fun t ht => ?_, good_TT h hb ho (by lia)⟩
    · show figN fig k ≠ 95; lia
    · show figN fig k ≠ 95; lia
    · show figN fig k ≠ t.2.1 ∧ figN fig k ≠ t.1.1
      rcases TT_mem ht with ht | ⟨j, hj, e1, e2⟩
      · have := ho t ht; omega
      · rw [e1, e2]
        have : figN fig k ≠ figN fig j := fun e => by have := figN_inj h (by lia) (by lia) e; lia
        exact ⟨this, this⟩
theorem edc_same (x : Nat) : edc x x = 0 := if_pos rfl
theorem fmod2 (x : Int) : x.fmod 2 = 0 ∨ x.fmod 2 = 1 := by
  have h1 := Int.fmod_nonneg_of_pos x (b := 2) (by decide)
  have h2 := Int.fmod_lt_of_pos x (b := 2) (by decide)
  lia
theorem dif_bit {P : Prop} {a b : Int} (hP : P) [d1 : Decidable (P ∧ a.fmod 2 = 1)] [d2 : Decidable (P ∧ b.fmod 2 = 1)] : (dif (decide (P ∧ a.fmod 2 = 1)) (decide (P ∧ b.fmod 2 = 1)) : Nat) = if a.fmod 2 ≠ b.fmod 2 then 2 else 0 := by
  rcases fmod2 a with ha | ha <;> rcases fmod2 b with hb | hb
  · rw [if_neg (by omega), decide_eq_false (by omega), decide_eq_false (by omega)]; rfl
  · rw [if_pos (by omega), decide_eq_false (by omega), decide_eq_true ⟨hP, hb⟩]; rfl
  · rw [if_pos (by omega), decide_eq_true ⟨hP, ha⟩, decide_eq_false (by omega)]; rfl
  · rw [if_neg (by omega), decide_eq_true ⟨hP, ha⟩, decide_eq_true ⟨hP, hb⟩]; rfl
theorem diffs_s (a b : Int) (n : Nat) : diffs a b (n + 1) = if (a.fdiv (2 ^ n)).fmod 2 ≠ (b.fdiv (2 ^ n)).fmod 2 then diffs a b n + 1 else diffs a b n := rfl
theorem wt_TT {base : Twin} {fig : Str} {l1 l2 : Int} : ∀ {k : Nat}, k + 1 ≤ fig.length → (wt (TT base fig l1 l2 (k + 1)) : Int) + 2 * diffs l1 l2 (fig.length - 1 - k) = (wt base : Int) + 2 * diffs l1 l2 (fig.length - 1)
  | 0, _ => by
    show ((edc (figN fig 0) (figN fig 0) + dif false false + wt base : Nat) : Int) + _ = _
    rw [edc_same, Nat.sub_zero]
    have : dif false false = 0 := rfl
    lia
  | k + 1, h => by
    have ih := wt_TT (base := base) (fig := fig) (l1 := l1) (l2 := l2) (k := k) (by lia)
    have e : wt (TT base fig l1 l2 (k + 1 + 1)) = edc (figN fig (k + 1)) (figN fig (k + 1)) + dif (pb fig l1 k) (pb fig l2 k) + wt (TT base fig l1 l2 (k + 1)) := rfl
    have eb : dif (pb fig l1 k) (pb fig l2 k) = if (l1.fdiv (2 ^ (fig.length - 1 - (k + 1)))).fmod 2 ≠ (l2.fdiv (2 ^ (fig.length - 1 - (k + 1)))).fmod 2 then 2 else 0 := by
      unfold pb
      have en : ((fig.length : Int) - 1 - (k : Int) - 1).toNat = fig.length - 1 - (k + 1) := toNat_sub2 h
      rw [en]
      exact dif_bit (by lia)
    have ed9 : fig.length - 1 - k = (fig.length - 1 - (k + 1)) + 1 := (Nat.succ_pred_eq_of_pos (Nat.sub_pos_of_lt (Nat.lt_sub_of_add_lt h))).symm
    rw [ed9, diffs_s] at ih
    rw [e, edc_same, eb]
    by_cases c : (l1.fdiv (2 ^ (fig.length - 1 - (k + 1)))).fmod 2 ≠ (l2.fdiv (2 ^ (fig.length - 1 - (k + 1)))).fmod 2
    · rw [if_pos c] at ih ⊢; lia
    · rw [if_neg c] at ih ⊢; lia
theorem wt_top {base : Twin} {fig : Str} {l1 l2 : Int} (h : 1 ≤ fig.length) : (wt (TT base fig l1 l2 fig.length) : Int) = (wt base : Int) + 2 * diffs l1 l2 (fig.length - 1) := by
  obtain ⟨k, hk⟩ : ∃ k, fig.length = k + 1 := ⟨fig.length - 1, by lia⟩
  have := wt_TT (base := base) (fig := fig) (l1 := l1) (l2 := l2) (k := k) (by lia)
  have e : fig.length - 1 - k = 0 := by omega
  rw [e] at this
  rw [← hk] at this
  have z : diffs l1 l2 0 = 0 := rfl
  lia
/-- a reply's signs -/
theorem mul3 (m : Nat) : Lt (Txt.mul ⟨#[m]⟩ 3) = [m, m, m] := rfl
noncomputable abbrev headL : List Nat := [50, 50, 57, 32, 103, 111, 32, 40]
noncomputable abbrev tailL : List Nat := [41, 32, 55]
theorem Lt_head : Lt (Str.ofString "229 go (") = headL := by decide +kernel
theorem Lt_tail : Lt (Str.ofString ") 7") = tailL := by decide +kernel
theorem Lt_reply (text : Str) (m : Nat) : Lt (replyOf text ⟨#[m]⟩) = headL ++ (m :: m :: m :: (Lt text ++ m :: tailL)) := by
  unfold replyOf
  rw [Lt_app, Lt_app, Lt_app, Lt_app, mul3, Lt_head, Lt_tail]
  show headL ++ [m, m, m] ++ Lt text ++ [m] ++ tailL = _
  simp
theorem mark_cp (y : Int) : ∃ m, markX y = ⟨#[m]⟩ ∧ (m = 124 ∨ m = 33 ∨ m = 58) := by
  have h1 := Int.fmod_nonneg_of_pos (y.fdiv 128) (b := 3) (by decide)
  have h2 := Int.fmod_lt_of_pos (y.fdiv 128) (b := 3) (by decide)
  unfold markX
  generalize (y.fdiv 128).fmod 3 = i at *
  have : i = 0 ∨ i = 1 ∨ i = 2 := by lia
  rcases this with rfl | rfl | rfl
  · exact ⟨124, by decide +kernel, .inl rfl⟩
  · exact ⟨33, by decide +kernel, .inr (.inl rfl)⟩
  · exact ⟨58, by decide +kernel, .inr (.inr rfl)⟩
theorem reply_rev (fig : Str) (l : Int) (m : Nat) : (Lt (replyOf (txtF fig l) ⟨#[m]⟩)).reverse = [55, 32, 41] ++ ((m :: tx (back fig l fig.length) ++ [m, m, m]) ++ [40, 32, 111, 103, 32, 57, 50, 50]) := by
  rw [Lt_reply, ← txt_rev]
  simp
noncomputable def M3 (m m' : Nat) : Twin := [((m, false), (m', false)), ((m, false), (m', false)), ((m, false), (m', false))]
theorem sep3 {m : Nat} (h : m = 124 ∨ m = 33 ∨ m = 58) : m < 48 ∨ 57 < m := by rcases h with rfl | rfl | rfl <;> decide
theorem ed_reply {fig pool : Str} {l1 l2 : Int} {m m' : Nat} (h : FigOk fig pool) (h1 : 1 ≤ fig.length) (hm : m = 124 ∨ m = 33 ∨ m = 58) (hm' : m' = 124 ∨ m' = 33 ∨ m' = 58) :
    (ed (Lt (replyOf (txtF fig l1) ⟨#[m]⟩)).reverse (Lt (replyOf (txtF fig l2) ⟨#[m']⟩)).reverse : Int) = (if m = m' then 0 else 8) + 2 * diffs l1 l2 (fig.length - 1) := by
  rw [reply_rev, reply_rev, ed_pre, ed_suf]
  by_cases e : m = m'
  · subst e
    rw [if_pos rfl]
    show (ed (m :: (tx (back fig l1 fig.length) ++ [m, m, m])) (m :: (tx (back fig l2 fig.length) ++ [m, m, m])) : Int) = _
    rw [ed_same, ed_suf]
    have g := good_TT (l1 := l1) (l2 := l2) (base := []) h trivial (fun _ h => nomatch h) (Nat.le_refl _)
    have := ed_is g
    rw [lo_TT, hi_TT] at this
    simp only [lo, hi, List.map_nil, List.append_nil] at this
    rw [this, wt_top h1]
    show ((0 : Nat) : Int) + _ = _
    lia
  · rw [if_neg e]
    have gM : Good (M3 m m') := by
      refine ⟨?_, ?_, .inr rfl, ?_, ?_, ?_, .inr rfl, ?_, ?_, ?_, .inr rfl, ?_, trivial⟩
      all_goals first
        | (show m ≠ 95; lia)
        | (show m' ≠ 95; lia)
        | (intro t ht; simp only [List.mem_cons, List.not_mem_nil, or_false, or_self] at ht; rw [ht]; exact ⟨e, Ne.symm e⟩)
        | exact fun t ht => nomatch ht
    have oM : Off (M3 m m') := fun t ht => by
      simp only [M3, List.mem_cons, List.not_mem_nil, or_false, or_self] at ht
      rw [ht]
      show (m < 48 ∨ 57 < m) ∧ (m' < 48 ∨ 57 < m')
      refine ⟨sep3 hm, sep3 hm'⟩
    have g := good_TT (l1 := l1) (l2 := l2) h gM oM (Nat.le_refl _)
    have g2 : Good (((m, false), (m', false)) :: TT (M3 m m') fig l1 l2 fig.length) := by
      refine ⟨?_, ?_, .inr rfl, fun t ht => ?_, g⟩
      · show m ≠ 95; (clear h h1 hm' e gM oM g; lia)
      · show m' ≠ 95; lia
      · show m ≠ t.2.1 ∧ m' ≠ t.1.1
        rcases TT_mem ht with ht | ⟨j, hj, e1, e2⟩
        · simp only [M3, List.mem_cons, List.not_mem_nil, or_false, or_self] at ht
          rw [ht]; exact ⟨e, Ne.symm e⟩
        · have hd := fig_dig h _ (figN_mem (fig := fig) (k := j) hj)
          rw [e1, e2]; (clear h h1 e gM oM g ht hj e1 e2; lia)
    have := ed_is g2
    have el : tx (lo (((m, false), (m', false)) :: TT (M3 m m') fig l1 l2 fig.length)) = m :: tx (back fig l1 fig.length) ++ [m, m, m] := by
      show m :: (us false ++ tx (lo (TT (M3 m m') fig l1 l2 fig.length))) = _
      rw [lo_TT, tx_app]; rfl
    have eh : tx (hi (((m, false), (m', false)) :: TT (M3 m m') fig l1 l2 fig.length)) = m' :: tx (back fig l2 fig.length) ++ [m', m', m'] := by
      show m' :: (us false ++ tx (hi (TT (M3 m m') fig l1 l2 fig.length))) = _
      rw [hi_TT, tx_app]; rfl
    rw [el, eh] at this
    rw [this]
    show ((edc m m' + dif false false + wt (TT (M3 m m') fig l1 l2 fig.length) : Nat) : Int) = _
    have hw := wt_top (base := M3 m m') (fig := fig) (l1 := l1) (l2 := l2) h1
    have hM : wt (M3 m m') = 6 := by
      show edc m m' + dif false false + (edc m m' + dif false false + (edc m m' + dif false false + 0)) = 6
      rw [edc_ne e]; rfl
    have e2 := edc_ne e
    have e3 : dif false false = 0 := rfl
    lia
/-- alike in length: an even number of steps -/
theorem par0 {n a b c k : Nat} (ih : c % 4 = 2 * ((a + b) % 2)) (e : n = a + b + 2 * k) : (0 + 0 + c) % 4 = 2 * (n % 2) := by
  rw [e, Nat.add_mul_mod_self_left, ← ih, Nat.add_zero, Nat.zero_add]
theorem par1 {n a b c k : Nat} (ih : c % 4 = 2 * ((a + b) % 2)) (e : n = a + b + 1 + 2 * k) : (0 + 2 + c) % 4 = 2 * (n % 2) := by
  rw [e, Nat.add_mul_mod_self_left]
  lia
theorem wt_even : ∀ {T : Twin}, (∀ t ∈ T, t.1.1 = t.2.1) → wt T % 4 = 2 * (((tx (lo T)).length + (tx (hi T)).length) % 2)
  | [], _ => rfl
  | (x, y) :: T, h => by
    have ih := wt_even (T := T) fun t ht => h t (.tail _ ht)
    have hx : x.1 = y.1 := h _ (.head _)
    show (edc x.1 y.1 + dif x.2 y.2 + wt T) % 4 = 2 * (((us x.2 ++ tx (lo T)).length + 1 + ((us y.2 ++ tx (hi T)).length + 1)) % 2)
    rw [hx, edc_same, List.length_append, List.length_append]
    generalize (tx (lo T)).length = a at *
    generalize (tx (hi T)).length = b at *
    generalize wt T = c at *
    cases x.2 <;> cases y.2 <;> simp only [us, dif, List.length_nil, List.length_cons, if_true, if_false, Bool.false_eq_true, Bool.true_eq_false] <;> first | exact par0 (k := 1) ih (by omega) | exact par0 (k := 2) ih (by omega) | exact par1 (k := 1) ih (by omega)
theorem Lt_len_rev (x : Str) : (Lt x).reverse.length = x.length := by rw [List.length_reverse, Lt_len]
theorem lev_law {fig pool : Str} {cnt x0 x1 mc n due : Int} {k : Nat} (hf : fig.length = cnt.toNat) (hp : FigOk fig pool) (h2 : 4 ≤ cnt) (h3 : cnt ≤ 6) (hk : k = (cnt - 1).toNat)
    (hd : due = (if markX x0 = markX x1 then 0 else 8) + 2 * diffs (linX cnt x0) (linX cnt x1) k) (h0 : 0 ≤ mc) (hn : LevOk (Lt (repX fig cnt x0)) (Lt (repX fig cnt x1)) mc n) :
    ((due ≤ mc ∨ due ≤ 2) → n = due) ∧ (¬ (due ≤ mc ∨ due ≤ 2) → mc < n ∧ n ≤ due) := by
  obtain ⟨m, em, hm⟩ := mark_cp x0
  obtain ⟨m', em', hm'⟩ := mark_cp x1
  have hl : 1 ≤ fig.length := by lia
  have e := ed_reply (l1 := linX cnt x0) (l2 := linX cnt x1) hp hl hm hm'
  have ek : fig.length - 1 = k := by rw [hk, cnt_len hf (by (clear hd hn h0; omega))]
  rw [← em, ← em'] at e
  have emm : (if m = m' then (0 : Int) else 8) = if markX x0 = markX x1 then 0 else 8 := by
    rw [em, em']
    by_cases q : m = m'
    · rw [if_pos q, if_pos (by rw [q])]
    · rw [if_neg q, if_neg (fun z => q (by have := congrArg Lt z; exact (List.cons.inj this).1))]
  rw [ek, emm, ← hd] at e
  have h9 := lev_all (due := ed (Lt (repX fig cnt x0)).reverse (Lt (repX fig cnt x1)).reverse) hn h0 rfl ?_
  · have e' : (ed (Lt (repX fig cnt x0)).reverse (Lt (repX fig cnt x1)).reverse : Int) = due := e
    rw [e'] at h9
    exact h9
  · intro hle
    have e' : (ed (Lt (repX fig cnt x0)).reverse (Lt (repX fig cnt x1)).reverse : Int) = due := e
    by_cases q : (Lt (repX fig cnt x0)).length = (Lt (repX fig cnt x1)).length
    · refine .inl ?_
      have hmm : markX x0 = markX x1 := by
        refine Classical.byContradiction fun z => ?_
        rw [if_neg z] at hd
        have : 0 ≤ diffs (linX cnt x0) (linX cnt x1) k := by
          clear hd ek e e' hn hk
          induction k with
          | zero => exact Int.le_refl _
          | succ k ih => rw [diffs_s]; split <;> lia
        lia
      have hw := wt_top (base := []) (fig := fig) (l1 := linX cnt x0) (l2 := linX cnt x1) hl
      rw [ek] at hw
      rw [if_pos hmm] at hd
      have hv := wt_even (T := TT [] fig (linX cnt x0) (linX cnt x1) fig.length) (fun t ht => by
        rcases TT_mem ht with ht | ⟨j, _, e1, e2⟩
        · exact nomatch ht
        · rw [e1, e2])
      have z0 : wt ([] : Twin) = 0 := rfl
      have hq : (tx (lo (TT [] fig (linX cnt x0) (linX cnt x1) fig.length))).length = (tx (hi (TT [] fig (linX cnt x0) (linX cnt x1) fig.length))).length := by
        rw [lo_TT, hi_TT]
        simp only [lo, hi, List.map_nil, List.append_nil]
        rw [← txt_rev, ← txt_rev, List.length_reverse, List.length_reverse]
        have r0 := congrArg List.length (Lt_reply (txtF fig (linX cnt x0)) m)
        have r1 := congrArg List.length (Lt_reply (txtF fig (linX cnt x1)) m')
        rw [← em] at r0
        rw [← em'] at r1
        simp only [List.length_append, List.length_cons, List.length_nil] at r0 r1
        have q' : (Lt (replyOf (txtF fig (linX cnt x0)) (markX x0))).length = (Lt (replyOf (txtF fig (linX cnt x1)) (markX x1))).length := q
        lia
      have hz : ed (Lt (repX fig cnt x0)).reverse (Lt (repX fig cnt x1)).reverse = 0 := by lia
      have := ed_zero hz
      have := congrArg List.reverse this
      rw [List.reverse_reverse, List.reverse_reverse] at this
      exact this
    · exact .inr q
end
section
/-! the reply, found and split -/
open StrLaws in
theorem find_one {x : Str} {c p : Nat} (h : (Lt x)[p]? = some c) (hn : ∀ k, k < p → (Lt x)[k]? ≠ some c) : Txt.find x ⟨#[c]⟩ = (p : Int) := by
  unfold Txt.find
  rcases occ_head x ⟨#[c]⟩ 1 (Nat.le_refl _) with ⟨_, h2⟩ | ⟨i, r, h1, h2, h3⟩
  · exact absurd ((subAt_one x c p).mpr h) (h2 p)
  · rw [h1]
    have hi := (subAt_one x c i).mp h2
    have : i = p := by
      rcases Nat.lt_trichotomy i p with q | q | q
      · exact absurd hi (hn i q)
      · exact q
      · exact absurd ((subAt_one x c p).mpr h) (h3 p q)
    rw [this]
open StrLaws in
theorem find_from {x : Str} {c p a : Nat} (h : (Lt x)[p]? = some c) (ha : a ≤ p) (hn : ∀ k, a ≤ k → k < p → (Lt x)[k]? ≠ some c) : Txt.find3 x ⟨#[c]⟩ (a : Int) = (p : Int) := by
  have hf : fromIndex x.length (a : Int) = a := by
    unfold fromIndex
    rw [if_neg (by lia)]; omega
  have hp : p < x.length := by
    have := (List.getElem?_eq_some_iff.mp h).1
    rw [Lt_len] at this; exact this
  unfold Txt.find3
  rw [hf, occ_eq]
  rcases occ_first x ⟨#[c]⟩ x.length 1 (Nat.le_refl _) (List.range' a (x.length + 1 - a)) a (fun i hi => (List.mem_range'_1.mp hi).1) with ⟨_, h2⟩ | ⟨pre, b, post, e, h1, h2, h3⟩
  · exact absurd ((subAt_one x c p).mpr h) (h2 p (List.mem_range'_1.mpr ⟨ha, by omega⟩))
  · have hb := (subAt_one x c b).mp h2
    have hm : b ∈ List.range' a (x.length + 1 - a) := by rw [e]; simp
    have hab : a ≤ b := (List.mem_range'_1.mp hm).1
    have hpm : p ∈ List.range' a (x.length + 1 - a) := List.mem_range'_1.mpr ⟨ha, by omega⟩
    have hbp : b = p := by
      rw [e] at hpm
      rcases List.mem_append.mp hpm with q | q
      · exact absurd ((subAt_one x c p).mpr h) (h3 p q)
      · rcases List.mem_cons.mp q with q | q
        · exact q.symm
        · have hs : (pre ++ b :: post).Pairwise (· < ·) := by rw [← e]; exact List.pairwise_lt_range'
          have hlt : b < p := (List.pairwise_cons.mp (List.pairwise_append.mp hs).2.1).1 p q
          exact absurd hb (hn b hab hlt)
    generalize (forIn (List.range' a (x.length + 1 - a)) ((#[] : Array Nat), a) (occBody x ⟨#[c]⟩ x.length 1)).run.fst = arr at h1
    have h4 : arr.toList[0]? = some b := by simpa using h1
    cases hL : arr.toList with
    | nil => rw [hL] at h4; cases h4
    | cons d t => rw [hL] at h4; simp at h4; rw [h4, hbp]
theorem join_cons2 (s x y : Str) (r : List Str) : Lt (Str.join s (x :: y :: r)) = Lt x ++ Lt s ++ Lt (Str.join s (y :: r)) := by
  show Lt (x ++ s ++ Str.join s (y :: r)) = _
  rw [Lt_app, Lt_app]
theorem cut_at {c : Nat} : ∀ {a b r s : List Nat}, c ∉ a → c ∉ b → a ++ c :: r = b ++ c :: s → a = b ∧ r = s
  | [], [], r, s, _, _, h => ⟨rfl, (List.cons.inj h).2⟩
  | [], x :: b, r, s, _, hb, h => absurd (by rw [(List.cons.inj h).1]; exact .head _) hb
  | x :: a, [], r, s, ha, _, h => absurd (by rw [← (List.cons.inj h).1]; exact .head _) ha
  | x :: a, y :: b, r, s, ha, hb, h => by
    obtain ⟨h1, h2⟩ := List.cons.inj h
    obtain ⟨h3, h4⟩ := cut_at (fun q => ha (.tail _ q)) (fun q => hb (.tail _ q)) h2
    exact ⟨by rw [h1, h3], h4⟩
theorem split_uniq {c : Nat} : ∀ {P Q : List Str}, P ≠ [] → Q ≠ [] → (∀ p ∈ P, c ∉ Lt p) → (∀ q ∈ Q, c ∉ Lt q) → Lt (Str.join ⟨#[c]⟩ P) = Lt (Str.join ⟨#[c]⟩ Q) → P = Q
  | [], _, h, _, _, _, _ => absurd rfl h
  | _ :: _, [], _, h, _, _, _ => absurd rfl h
  | [x], [y], _, _, _, _, h => by rw [Lt_inj (x := x) (y := y) h]
  | [x], y :: z :: r, _, _, hP, _, h => by
    rw [join_cons2] at h
    have h' : Lt x = Lt y ++ [c] ++ Lt (Str.join ⟨#[c]⟩ (z :: r)) := h
    exact absurd (by rw [h']; simp) (hP x (.head _))
  | x :: y :: r, [z], _, _, _, hQ, h => by
    rw [join_cons2] at h
    have h' : Lt x ++ [c] ++ Lt (Str.join ⟨#[c]⟩ (y :: r)) = Lt z := h
    exact absurd (by rw [← h']; simp) (hQ z (.head _))
  | x :: y :: r, z :: u :: s, _, _, hP, hQ, h => by
    rw [join_cons2, join_cons2] at h
    have h' : Lt x ++ c :: Lt (Str.join ⟨#[c]⟩ (y :: r)) = Lt z ++ c :: Lt (Str.join ⟨#[c]⟩ (u :: s)) := by
      have e : Lt (⟨#[c]⟩ : Str) = [c] := rfl
      rw [e] at h
      simpa using h
    obtain ⟨h1, h2⟩ := cut_at (hP x (.head _)) (hQ z (.head _)) h'
    rw [Lt_inj h1, split_uniq (List.cons_ne_nil _ _) (List.cons_ne_nil _ _) (fun p hp => hP p (.tail _ hp)) (fun p hp => hQ p (.tail _ hp)) h2]
noncomputable abbrev E0 : Str := ⟨#[]⟩
theorem split_mark {x t : Str} {m : Nat} (hx : Lt x = m :: m :: m :: (Lt t ++ [m])) (h : m ∉ Lt t) : Txt.split x ⟨#[m]⟩ = [E0, E0, E0, t, E0] := by
  refine split_uniq (c := m) ?_ (List.cons_ne_nil _ _) (StrLaws.split_free x m) ?_ ?_
  · intro q
    have := PyProof.Rows.split_pos x ⟨#[m]⟩
    rw [q] at this
    exact absurd this (by decide)
  · intro q hq
    simp only [List.mem_cons, List.not_mem_nil, or_false] at hq
    rcases hq with rfl | rfl | rfl | rfl | rfl
    · exact fun h => nomatch h
    · exact fun h => nomatch h
    · exact fun h => nomatch h
    · exact h
    · exact fun h => nomatch h
  · rw [StrLaws.join_split, hx, join_cons2, join_cons2, join_cons2, join_cons2]
    show _ = [] ++ [m] ++ ([] ++ [m] ++ ([] ++ [m] ++ (Lt t ++ [m] ++ [])))
    simp
theorem split_more {x t : Str} {m : Nat} (hx : Lt x = m :: m :: m :: (Lt t ++ [m])) (h : m ∈ Lt t) : (Txt.split x ⟨#[m]⟩).length ≠ 5 := by
  have hl := PyProof.Rows.split_len x m
  have hx' : x.cps.toList = m :: m :: m :: (Lt t ++ [m]) := hx
  rw [hx', PyProof.Rows.cnt_cons, PyProof.Rows.cnt_cons, PyProof.Rows.cnt_cons, PyProof.Rows.cnt_append, PyProof.Rows.cnt_cons, PyProof.Rows.cnt_nil, if_pos rfl] at hl
  have hp : ∀ l : List Nat, 0 ≤ PyProof.Rows.cnt m l := by
    intro l
    induction l with
    | nil => exact Int.le_refl _
    | cons a r ih => rw [PyProof.Rows.cnt_cons]; split <;> lia
  have : 1 ≤ PyProof.Rows.cnt m (Lt t) := by
    obtain ⟨a, b, e⟩ := List.append_of_mem h
    rw [e, PyProof.Rows.cnt_append, PyProof.Rows.cnt_cons, if_pos rfl]
    have := hp a
    have := hp b
    lia
  intro q
  rw [q] at hl
  lia
/-- the text's signs -/
theorem plain_signs {fig pool : Str} {l : Int} (hp : FigOk fig pool) : ∀ {k : Nat}, k ≤ fig.length → ∀ n ∈ Lt (plainTo fig l k), n = 95 ∨ (48 ≤ n ∧ n ≤ 57)
  | 0, _, n, h => nomatch h
  | k + 1, hk, n, h => by
    rw [plain_succ (by lia)] at h
    rcases List.mem_append.mp h with h | h
    · exact plain_signs hp (by lia) n h
    · rcases List.mem_cons.mp h with h | h
      · exact .inr (h ▸ fig_dig hp _ (figN_mem (fig := fig) (k := k) (by lia)))
      · refine .inl ?_
        cases hb : pb fig l k
        · rw [hb] at h; exact nomatch h
        · rw [hb] at h; exact List.mem_singleton.mp h
theorem txt_signs {fig pool : Str} {l : Int} (hp : FigOk fig pool) : ∀ n ∈ Lt (txtF fig l), n = 95 ∨ (48 ≤ n ∧ n ≤ 57) := plain_signs hp (Nat.le_refl _)
theorem plain_has {fig : Str} {l : Int} {j : Nat} : ∀ {k : Nat}, k ≤ fig.length → j < k → figN fig j ∈ Lt (plainTo fig l k)
  | 0, _, h => absurd h (Nat.not_lt_zero _)
  | k + 1, hk, h => by
    rw [plain_succ (by lia)]
    by_cases q : j = k
    · subst q; simp
    · exact List.mem_append.mpr (.inl (plain_has (by lia) (by lia)))
theorem plain_95 {fig pool : Str} {l : Int} (hp : FigOk fig pool) : ∀ {k : Nat}, k ≤ fig.length → (95 ∈ Lt (plainTo fig l k) ↔ ∃ j, j < k ∧ pb fig l j = true)
  | 0, _ => ⟨fun h => (nomatch h), fun ⟨_, h, _⟩ => absurd h (Nat.not_lt_zero _)⟩
  | k + 1, hk => by
    have ih := plain_95 (l := l) hp (k := k) (by lia)
    have hd := fig_dig hp _ (figN_mem (fig := fig) (k := k) (by lia))
    rw [plain_succ (by lia), List.mem_append, List.mem_cons, ih]
    constructor
    · rintro (⟨j, h1, h2⟩ | h | h)
      · exact ⟨j, by lia, h2⟩
      · lia
      · refine ⟨k, by lia, ?_⟩
        cases hb : pb fig l k
        · rw [hb] at h; exact nomatch h
        · rfl
    · rintro ⟨j, h1, h2⟩
      by_cases q : j = k
      · subst q
        rw [h2]; exact .inr (.inr (.head _))
      · exact .inl ⟨j, by lia, h2⟩
/-- a number below 2 to the n is nothing just if it has none of its n lowest bits -/
theorem bits_zero : ∀ {n : Nat} {l : Int}, 0 ≤ l → l < 2 ^ n → (l = 0 ↔ ∀ i, i < n → (l.fdiv (2 ^ i)).fmod 2 ≠ 1)
  | 0, l, h0, h1 => by
    have : l < 1 := h1
    exact ⟨fun _ _ h => absurd h (Nat.not_lt_zero _), fun _ => by lia⟩
  | n + 1, l, h0, h1 => by
    constructor
    · rintro rfl i _
      rw [Int.zero_fdiv]; decide
    · intro h
      have e0 := h 0 (Nat.succ_pos _)
      rw [Int.pow_zero, Int.fdiv_one] at e0
      have ih := (bits_zero (n := n) (l := l.fdiv 2) (Int.fdiv_nonneg h0 (by decide)) (by
        rw [Int.fdiv_eq_ediv_of_nonneg _ (by decide)]
        have : (2 : Int) ^ (n + 1) = 2 ^ n * 2 := Int.pow_succ 2 n
        omega)).mpr (fun i hi => by
          have := h (i + 1) (by lia)
          have e : (l.fdiv 2).fdiv (2 ^ i) = l.fdiv (2 ^ (i + 1)) := by
            have hp : (0 : Int) < 2 ^ i := Int.pow_pos (by decide)
            have hq : (0 : Int) < 2 ^ (i + 1) := Int.pow_pos (by decide)
            have e2 : l.fdiv 2 = l / 2 := Int.fdiv_eq_ediv_of_nonneg _ (by decide)
            have e3 : (l / 2).fdiv (2 ^ i) = l / 2 / 2 ^ i := Int.fdiv_eq_ediv_of_nonneg _ (Int.le_of_lt hp)
            have e4 : l.fdiv (2 ^ (i + 1)) = l / 2 ^ (i + 1) := Int.fdiv_eq_ediv_of_nonneg _ (Int.le_of_lt hq)
            rw [e2, e3, e4, Int.ediv_ediv_of_nonneg (by decide), Int.pow_succ, Int.mul_comm]
          rw [e]; exact this)
      rcases fmod2 l with q | q
      · rw [Int.fmod_eq_emod_of_nonneg _ (by decide)] at q
        rw [Int.fdiv_eq_ediv_of_nonneg _ (by decide)] at ih
        (clear h0 h1 h e0; lia)
      · exact absurd q e0
theorem txt_95 {fig pool : Str} {l : Int} (hp : FigOk fig pool) (h0 : 0 ≤ l) (h1 : l < 2 ^ (fig.length - 1)) : 95 ∈ Lt (txtF fig l) ↔ l ≠ 0 := by
  rw [plain_95 hp (Nat.le_refl _)]
  have hz := bits_zero h0 h1
  constructor
  · rintro ⟨j, hj, hb⟩ z
    have := of_decide_eq_true hb
    refine hz.mp z (((fig.length : Int) - 1 - (j : Int) - 1).toNat) (by omega) this.2
  · intro hne
    refine Classical.byContradiction fun hno => hne (hz.mpr fun i hi hb => hno ⟨fig.length - 2 - i, by omega, ?_⟩)
    unfold pb
    refine decide_eq_true ⟨by omega, ?_⟩
    have : ((fig.length : Int) - 1 - ((fig.length - 2 - i : Nat) : Int) - 1).toNat = i := (toNat_sub2 (by omega)).trans (by rw [show fig.length - 2 - i + 1 = fig.length - 1 - i by omega]; exact Nat.sub_sub_self (Nat.le_of_lt hi))
    rw [this]; exact hb
end
section
/-! the port read back -/
theorem step_dig {p : Array Nat × Bool} {c : Nat} (h : 48 ≤ c ∧ c ≤ 57) : NumText.step 10 p c = some (p.1.push (c - 48), true) := by
  unfold NumText.step NumText.digit?
  have h1 : (c == 95) = false := by simp; lia
  have h2 : (decide (48 ≤ c) && decide (c ≤ 57)) = true := by simp [h.1, h.2]
  rw [h1]
  simp only [h2, if_true, Bool.false_eq_true, if_false]
  rw [if_pos (by omega)]
theorem step_us (a : Array Nat) : NumText.step 10 (a, true) 95 = some (a, false) := rfl
noncomputable def digs (fig : Str) : Nat → Array Nat
  | 0 => #[]
  | k + 1 => (digs fig k).push (figN fig k - 48)
theorem fold_plain {fig pool : Str} {l : Int} (hp : FigOk fig pool) : ∀ {k : Nat}, k ≤ fig.length → (Lt (plainTo fig l k)).foldlM (NumText.step 10) ((#[] : Array Nat), false) = some (digs fig k, match k with | 0 => false | k + 1 => !pb fig l k)
  | 0, _ => rfl
  | k + 1, hk => by
    have ih := fold_plain (l := l) hp (k := k) (by lia)
    have hd := fig_dig hp _ (figN_mem (fig := fig) (k := k) (by lia))
    rw [plain_succ (by lia), List.foldlM_append, ih]
    show (figN fig k :: us (pb fig l k)).foldlM (NumText.step 10) _ = _
    rw [List.foldlM_cons, step_dig hd]
    show (us (pb fig l k)).foldlM (NumText.step 10) ((digs fig k).push (figN fig k - 48), true) = some ((digs fig k).push (figN fig k - 48), !pb fig l k)
    cases pb fig l k
    · rfl
    · rfl
theorem figs_take (fig : Str) : ∀ k, k ≤ fig.length → (digs fig k).toList = ((Lt fig).take k).map (· - 48)
  | 0, _ => rfl
  | k + 1, h => by
    have hk : k < (Lt fig).length := by rw [Lt_len]; lia
    show ((digs fig k).push (figN fig k - 48)).toList = _
    rw [Array.toList_push, figs_take fig k (by lia), List.take_add_one, List.getElem?_eq_getElem hk]
    unfold figN
    rw [getD_get hk]
    simp
theorem digs_size (fig : Str) : ∀ k, (digs fig k).size = k
  | 0 => rfl
  | k + 1 => by
    show ((digs fig k).push _).size = _
    rw [Array.size_push, digs_size fig k]
theorem find_dig {n : Nat} (h : 48 ≤ n ∧ n ≤ 57) : Txt.find (Str.ofString "0123456789") ⟨#[n]⟩ = ((n - 48 : Nat) : Int) := by
  have hL : Lt (Str.ofString "0123456789") = [48, 49, 50, 51, 52, 53, 54, 55, 56, 57] := by decide +kernel
  have hg : ∀ k, k < 10 → ([48, 49, 50, 51, 52, 53, 54, 55, 56, 57] : List Nat)[k]? = some (48 + k) := by decide
  refine find_one ?_ fun k hk => ?_
  · rw [hL, hg _ (by omega)]; congr 1; omega
  · rw [hL, hg _ (by omega)]
    intro e
    have := Option.some.inj e
    (clear h hL hg e; omega)
theorem port_fold : ∀ (L : List Nat) (p : Nat), (∀ n ∈ L, 48 ≤ n ∧ n ≤ 57) → List.foldl (fun (p : Int) (n : Int) => p * 10 + Txt.find (Str.ofString "0123456789") ⟨#[n.toNat]⟩) (p : Int) (L.map fun (c : Nat) => (c : Int)) = (((L.map (· - 48)).foldl (fun acc d => acc * 10 + d) p : Nat) : Int)
  | [], _, _ => rfl
  | n :: L, p, h => by
    have ih := port_fold L (p * 10 + (n - 48)) fun m hm => h m (.tail _ hm)
    have hd := find_dig (h n (.head _))
    show List.foldl _ ((p : Int) * 10 + Txt.find (Str.ofString "0123456789") ⟨#[((n : Nat) : Int).toNat]⟩) (L.map fun (c : Nat) => (c : Int)) = (((L.map (· - 48)).foldl (fun acc d => acc * 10 + d) (p * 10 + (n - 48)) : Nat) : Int)
    rw [← ih, Int.toNat_natCast, hd]
    congr 1
theorem port_is {fig pool : Str} (hp : FigOk fig pool) : portOf (KStt.codes fig) = (((digs fig fig.length).foldl (fun acc d => acc * 10 + d) 0 : Nat) : Int) := by
  have h := port_fold (Lt fig) 0 (fig_dig hp)
  rw [← Array.foldl_toList, figs_take fig _ (Nat.le_refl _), List.take_of_length_le (by rw [Lt_len]; exact Nat.le_refl _)]
  exact h
open NumText in
theorem core_self {t : List Nat} {a b : Nat} {r q : List Nat} (h1 : t = a :: r) (h2 : t.reverse = b :: q) (ha : 48 ≤ a ∧ a ≤ 57) (hb : 48 ≤ b ∧ b ≤ 57) : core t = t ∧ (sign (t.dropWhile blank)).1 = false := by
  have bl : ∀ c, 48 ≤ c ∧ c ≤ 57 → blank c = false := by
    intro c hc
    have h1 : (c == 32) = false := by simp; lia
    have h2 : decide (c ≤ 13) = false := by simp; lia
    unfold blank
    rw [h1, h2]; simp
  have e1 : t.dropWhile blank = t := by
    rw [h1, List.dropWhile_cons, bl a ha]; rfl
  have e2 : sign t = (false, t) := by
    unfold sign
    split
    · have := (List.cons.inj h1).1; lia
    · have := (List.cons.inj h1).1; lia
    · rfl
  have e3 : t.reverse.dropWhile blank = t.reverse := by
    rw [h2, List.dropWhile_cons, bl b hb]; rfl
  unfold core
  rw [e1, e2]
  show (t.reverse.dropWhile blank).reverse = t ∧ false = false
  rw [e3, List.reverse_reverse]
  exact ⟨rfl, rfl⟩
open NumText in
theorem int_txt {fig pool : Str} {l : Int} (hp : FigOk fig pool) (h1 : 1 ≤ fig.length) (h6 : fig.length ≤ 6) : PySem.intText? (txtF fig l) = some (portOf (KStt.codes fig)) := by
  have hs := txt_signs (l := l) hp
  have hall : (txtF fig l).cps.all (· < 128) = true := by
    rw [← Array.all_toList, List.all_eq_true]
    intro n hn
    have := hs n hn
    simp; omega
  have e1 : numTextOf (txtF fig l) = Lt (txtF fig l) := if_pos hall
  have e2 : numSeenOf (txtF fig l) = Lt (txtF fig l) := by
    show (numTextOf (txtF fig l)).takeWhile (· != 0) = _
    rw [e1]
    have : ∀ L : List Nat, (∀ n ∈ L, n ≠ 0) → L.takeWhile (· != 0) = L := by
      intro L h
      induction L with
      | nil => rfl
      | cons a r ih =>
        have : (a != 0) = true := by simpa using h a (.head _)
        rw [List.takeWhile_cons, this, if_pos rfl, ih fun n hn => h n (.tail _ hn)]
    exact this _ fun n hn => by have := hs n hn; lia
  have hlast : (Lt (txtF fig l)).reverse = figN fig (fig.length - 1) :: (us (ub fig l (fig.length - 1)) ++ tx (back fig l (fig.length - 1))) := by
    rw [txt_rev]
    obtain ⟨k, hk⟩ : ∃ k, fig.length = k + 1 := ⟨fig.length - 1, by lia⟩
    rw [hk]; rfl
  have hfirst : ∃ r, Lt (txtF fig l) = figN fig 0 :: r := by
    have : ∀ k, k + 1 ≤ fig.length → ∃ r, Lt (plainTo fig l (k + 1)) = figN fig 0 :: r := by
      intro k
      induction k with
      | zero => intro h; rw [plain_succ (by lia)]; exact ⟨_, rfl⟩
      | succ k ih =>
        intro h
        obtain ⟨r, hr⟩ := ih (by lia)
        rw [plain_succ (by lia), hr]; exact ⟨_, rfl⟩
    obtain ⟨k, hk⟩ : ∃ k, fig.length = k + 1 := ⟨fig.length - 1, by lia⟩
    have := this k (by lia)
    rw [← hk] at this
    exact this
  obtain ⟨r, hr⟩ := hfirst
  obtain ⟨c1, c2⟩ := core_self hr hlast (fig_dig hp _ (figN_mem (by lia))) (fig_dig hp _ (figN_mem (by (clear hp h6 hs hall e1 e2 hlast hr; omega))))
  have hf := fold_plain (l := l) hp (Nat.le_refl fig.length)
  have hflag : (match fig.length with | 0 => false | k + 1 => !pb fig l k) = true := by
    have ht := ub_top (fig := fig) (l := l)
    cases hq : fig.length with
    | zero => lia
    | succ k =>
      rw [hq] at ht
      have : pb fig l k = false := ht
      show (!pb fig l k) = true
      rw [this]; rfl
  rw [hflag] at hf
  have hd : digits? 10 (core (numSeenOf (txtF fig l))) = some (digs fig fig.length) := by
    rw [e2, c1]
    unfold digits?
    rw [hf]; rfl
  unfold PySem.intText?
  rw [if_pos (by rw [e1, e2]; simp), hd]
  show (if (digs fig fig.length).size ≤ 4300 then some (worth (sign ((numSeenOf (txtF fig l)).dropWhile blank)).1 (digs fig fig.length)) else none) = _
  rw [if_pos (by rw [digs_size]; lia), e2, c2, port_is hp]
  rfl
/-- what the reading of a reply needs -/
theorem reply_base {fig pool : Str} {l : Int} {m : Nat} (hp : FigOk fig pool) (h4 : 4 ≤ fig.length) (h6 : fig.length ≤ 6) (hm : m ≠ 40 ∧ m ≠ 41) :
    Reply (replyOf (txtF fig l) ⟨#[m]⟩) ⟨#[m]⟩ (portOf (KStt.codes fig)) ∧ (m ∉ Lt (txtF fig l) ↔ (pieces (replyOf (txtF fig l) ⟨#[m]⟩)).length = 5) := by
  have hL := Lt_reply (txtF fig l) m
  have hlen := congrArg List.length hL
  have htl : (txtF fig l).length ≤ 2 * fig.length := txt_le fig l fig.length
  have ht4 : 1 ≤ (txtF fig l).length := by
    have := congrArg List.length (txt_rev fig l)
    rw [Lt_len_rev] at this
    have h2 := tx_len (back fig l fig.length)
    have h3 : ∀ k, (back fig l k).length = k := by
      intro k
      induction k with
      | zero => rfl
      | succ k ih => show (back fig l k).length + 1 = _; rw [ih]
    rw [h3] at h2
    lia
  have hs := txt_signs (l := l) hp
  rw [Lt_len] at hlen
  simp only [List.length_append, List.length_cons, List.length_nil] at hlen
  rw [Lt_len] at hlen
  generalize hx : replyOf (txtF fig l) ⟨#[m]⟩ = x at *
  have h40 : Str.ofString "(" = ⟨#[40]⟩ := by decide +kernel
  have h41 : Str.ofString ")" = ⟨#[41]⟩ := by decide +kernel
  have hleft : Txt.find x (Str.ofString "(") = 7 := by
    rw [h40]
    refine find_one (p := 7) (by rw [hL]; rfl) fun k hk => ?_
    rw [hL, List.getElem?_append_left (by simp; lia)]
    have : ∀ k, k < 7 → headL[k]? ≠ some 40 := by decide
    exact this k hk
  have hat : ∀ j, (Lt x)[11 + j]? = (Lt (txtF fig l) ++ m :: tailL)[j]? := by
    intro j
    rw [hL, List.getElem?_append_right (by simp; lia)]
    have e : 11 + j - headL.length = j + 3 := by show 11 + j - 8 = j + 3; lia
    rw [e]; rfl
  have hright : Txt.find3 x (Str.ofString ")") (Txt.find x (Str.ofString "(") + 1) = (x.length : Int) - 3 := by
    rw [hleft, h41]
    have e8 : (7 : Int) + 1 = ((8 : Nat) : Int) := rfl
    rw [e8]
    have e9 : (x.length : Int) - 3 = ((x.length - 3 : Nat) : Int) := by lia
    rw [e9]
    refine find_from ?_ (by lia) fun k h1 h2 => ?_
    · have e : x.length - 3 = 11 + ((Lt (txtF fig l)).length + 1) := by rw [Lt_len]; lia
      rw [e, hat, List.getElem?_append_right (by lia)]
      have e' : (Lt (txtF fig l)).length + 1 - (Lt (txtF fig l)).length = 1 := by lia
      rw [e']; rfl
    · by_cases hk : k < 11
      · have : k = 8 ∨ k = 9 ∨ k = 10 := by lia
        rw [hL]
        rcases this with rfl | rfl | rfl <;> exact fun e => hm.2 (Option.some.inj e)
      · have e : k = 11 + (k - 11) := by omega
        rw [e, hat]
        intro q
        have hmem : k - 11 < (Lt (txtF fig l)).length + 1 := by rw [Lt_len]; lia
        by_cases hq : k - 11 < (Lt (txtF fig l)).length
        · rw [List.getElem?_append_left hq] at q
          have := hs 41 (List.mem_of_getElem? q)
          lia
        · rw [List.getElem?_append_right (by (clear hp h4 h6 hm htl ht4 hs hx hL hlen h40 h41 hleft hat e8 e9 h1 h2 hk e q hmem; omega))] at q
          have e2 : k - 11 - (Lt (txtF fig l)).length = 0 := Nat.sub_eq_zero_of_le (Nat.le_of_lt_succ hmem)
          rw [e2] at q
          exact hm.2 (Option.some.inj q)
  have hm1 : Txt.item x (Txt.find x (Str.ofString "(") + 1) = ⟨#[m]⟩ := by
    rw [hleft]
    apply Lt_inj
    rw [Lt_item (by lia) (by lia), hL]
    rfl
  have hm2 : Txt.item x (Txt.find3 x (Str.ofString ")") (Txt.find x (Str.ofString "(") + 1) - 1) = ⟨#[m]⟩ := by
    rw [hright]
    apply Lt_inj
    rw [Lt_item (by lia) (by lia)]
    have e : ((x.length : Int) - 3 - 1).toNat = 11 + (Lt (txtF fig l)).length := by rw [Lt_len]; lia
    rw [e, List.getD_eq_getElem?_getD, hat, List.getElem?_append_right (by lia)]
    have e' : (Lt (txtF fig l)).length - (Lt (txtF fig l)).length = 0 := by lia
    rw [e']; rfl
  have hmid : Lt (Txt.slice x (some (Txt.find x (Str.ofString "(") + 1)) (some (Txt.find3 x (Str.ofString ")") (Txt.find x (Str.ofString "(") + 1)))) = m :: m :: m :: (Lt (txtF fig l) ++ [m]) := by
    rw [hright, hleft, Lt_run (by lia) (by lia), hL]
    have e : ((x.length : Int) - 3).toNat = (headL ++ (m :: m :: m :: (Lt (txtF fig l) ++ [m]))).length := by
      simp only [List.length_append, List.length_cons, List.length_nil]
      rw [Lt_len]; lia
    have e2 : headL ++ (m :: m :: m :: (Lt (txtF fig l) ++ m :: tailL)) = (headL ++ (m :: m :: m :: (Lt (txtF fig l) ++ [m]))) ++ tailL := by simp
    rw [e, e2, List.take_left]
    rfl
  have hpc : pieces x = Txt.split (Txt.slice x (some (Txt.find x (Str.ofString "(") + 1)) (some (Txt.find3 x (Str.ofString ")") (Txt.find x (Str.ofString "(") + 1)))) ⟨#[m]⟩ := by
    unfold pieces
    rw [hm1]
  have hiff : m ∉ Lt (txtF fig l) ↔ (pieces x).length = 5 := by
    rw [hpc]
    constructor
    · intro h; rw [split_mark hmid h]; rfl
    · intro h q; exact split_more hmid q h
  refine ⟨⟨by lia, by lia, ?_, hleft, hright, hm1, hm2, fun y h5 hy => ?_⟩, hiff⟩
  · apply Lt_inj
    rw [Lt_upto (by decide), hL]
    show _ = Lt (Str.ofString "229")
    have : Lt (Str.ofString "229") = [50, 50, 57] := by decide +kernel
    rw [this]; rfl
  · rw [hpc, split_mark hmid (hiff.mpr h5)] at hy
    have : y = txtF fig l := (Option.some.inj hy).symm
    rw [this]
    exact ⟨by lia, int_txt hp (by lia) h6⟩
theorem reply_mark {fig pool : Str} {lines cnt : Int} (y : Int) (hf : fig.length = cnt.toNat) (hp : FigOk fig pool) (h0 : 0 ≤ lines) (h1 : lines < 2 ^ (cnt - 1).toNat) (h2 : 4 ≤ cnt) (h3 : cnt ≤ 6) :
    Reply (replyOf (txtF fig lines) (markX y)) (markX y) (portOf (KStt.codes fig)) ∧ (pieces (replyOf (txtF fig lines) (markX y))).length = 5 := by
  obtain ⟨m, em, hm⟩ := mark_cp y
  obtain ⟨r1, r2⟩ := reply_base (l := lines) (m := m) hp (by lia) (by lia) (by lia)
  rw [← em] at r1 r2
  refine ⟨r1, r2.mp fun h => ?_⟩
  have := txt_signs (l := lines) hp m h
  lia
theorem reply_fig {fig pool : Str} {lines cnt k : Int} (hf : fig.length = cnt.toNat) (hp : FigOk fig pool) (h0 : 0 ≤ lines) (h1 : lines < 2 ^ (cnt - 1).toNat) (h2 : 4 ≤ cnt) (h3 : cnt ≤ 6) (hk0 : 0 ≤ k) (hk1 : k < cnt) :
    Reply (replyOf (txtF fig lines) (Txt.item fig k)) (Txt.item fig k) (portOf (KStt.codes fig)) ∧ (pieces (replyOf (txtF fig lines) (Txt.item fig k))).length ≠ 5 := by
  have e := Lt_item (x := fig) (i := k) hk0 (by lia)
  have em : Txt.item fig k = ⟨#[figN fig k.toNat]⟩ := Lt_inj e
  have hd := fig_dig hp _ (figN_mem (fig := fig) (k := k.toNat) (by lia))
  obtain ⟨r1, r2⟩ := reply_base (l := lines) (m := figN fig k.toNat) hp (by lia) (by lia) (by lia)
  rw [← em] at r1 r2
  exact ⟨r1, fun q => r2.mpr q (plain_has (Nat.le_refl _) (by lia))⟩
theorem reply_us {fig pool : Str} {lines cnt : Int} (hf : fig.length = cnt.toNat) (hp : FigOk fig pool) (h0 : 0 ≤ lines) (h1 : lines < 2 ^ (cnt - 1).toNat) (h2 : 4 ≤ cnt) (h3 : cnt ≤ 6) :
    Reply (replyOf (txtF fig lines) (Str.ofString "_")) (Str.ofString "_") (portOf (KStt.codes fig)) ∧ ((pieces (replyOf (txtF fig lines) (Str.ofString "_"))).length = 5 ↔ lines = 0) := by
  have em : Str.ofString "_" = ⟨#[95]⟩ := by decide +kernel
  obtain ⟨r1, r2⟩ := reply_base (l := lines) (m := 95) hp (by lia) (by lia) (by lia)
  rw [← em] at r1 r2
  have ek : (cnt - 1).toNat = fig.length - 1 := cnt_len hf (by lia)
  rw [ek] at h1
  have h9 := txt_95 (l := lines) hp h0 h1
  refine ⟨r1, r2.symm.trans ?_⟩
  rw [h9]
  exact Decidable.not_not
theorem low_all : ∀ n ∈ [32, 33, 40, 41, 48, 49, 50, 51, 52, 53, 54, 55, 56, 57, 58, 95, 103, 111, 124], Txt.lower ⟨#[n]⟩ = ⟨#[n]⟩ := by decide +kernel
theorem low_reply {fig pool : Str} {l : Int} {m : Nat} (hp : FigOk fig pool) (hm : m = 124 ∨ m = 33 ∨ m = 58) : LowOk (replyOf (txtF fig l) ⟨#[m]⟩) := fun n hn => by
  rw [Lt_reply] at hn
  have hs := txt_signs (l := l) hp n
  have hd : ∀ n, 48 ≤ n ∧ n ≤ 57 → n ∈ [32, 33, 40, 41, 48, 49, 50, 51, 52, 53, 54, 55, 56, 57, 58, 95, 103, 111, 124] := by
    intro n h
    exact (by decide : ∀ m : Fin 58, 48 ≤ m.val → m.val ∈ [32, 33, 40, 41, 48, 49, 50, 51, 52, 53, 54, 55, 56, 57, 58, 95, 103, 111, 124]) ⟨n, Nat.lt_succ_of_le h.2⟩ h.1
  refine low_all n ?_
  rcases List.mem_append.mp hn with h | h
  · have : ∀ n ∈ headL, n ∈ [32, 33, 40, 41, 48, 49, 50, 51, 52, 53, 54, 55, 56, 57, 58, 95, 103, 111, 124] := by decide
    exact this n h
  · have hmm : m ∈ [32, 33, 40, 41, 48, 49, 50, 51, 52, 53, 54, 55, 56, 57, 58, 95, 103, 111, 124] := by
      rcases hm with rfl | rfl | rfl <;> decide
    simp only [List.mem_cons, List.mem_append, List.not_mem_nil, or_false] at h
    rcases h with rfl | rfl | rfl | h | rfl | rfl | rfl | rfl
    · exact hmm
    · exact hmm
    · exact hmm
    · rcases hs h with rfl | h
      · decide
      · exact hd n h
    · exact hmm
    · decide
    · decide
    · decide
/-- both replies end alike -/
theorem tail_pos {B : List Nat} {i : Nat} (h : (B ++ tailL)[i]? = some 41) (hB : 41 ∉ B) : i = B.length := by
  by_cases q : i < B.length
  · rw [List.getElem?_append_left q] at h
    exact absurd (List.mem_of_getElem? h) hB
  · rw [List.getElem?_append_right (by lia)] at h
    have hlt : i - B.length < 3 := (List.getElem?_eq_some_iff.mp h).1
    have : i - B.length = 0 ∨ i - B.length = 1 ∨ i - B.length = 2 := by lia
    rcases this with e | e | e
    · omega
    · rw [e] at h; exact absurd h (by decide)
    · rw [e] at h; exact absurd h (by decide)
theorem lcp_end {A B : List Nat} (hA : 41 ∉ A) (hB : 41 ∉ B) (hne : A ++ tailL ≠ B ++ tailL) :
    1 ≤ lcp ((A ++ tailL).drop (lcp (A ++ tailL) (B ++ tailL))).reverse ((B ++ tailL).drop (lcp (A ++ tailL) (B ++ tailL))).reverse := by
  have hl := lcp_le (A ++ tailL) (B ++ tailL)
  have ht := lcp_take (A ++ tailL) (B ++ tailL)
  generalize lcp (A ++ tailL) (B ++ tailL) = n at *
  have key : ∀ (C D : List Nat), 41 ∉ C → 41 ∉ D → (C ++ tailL).take n = (D ++ tailL).take n → n ≤ (D ++ tailL).length → C ++ tailL ≠ D ++ tailL → n < (C ++ tailL).length ∨ (C ++ tailL).length < n := by
    intro C D hC hD h1 h2 h3
    refine Nat.lt_or_gt_of_ne fun e => ?_
    have hc : (C ++ tailL)[C.length]? = some 41 := by
      rw [List.getElem?_append_right (Nat.le_refl _), Nat.sub_self]; rfl
    have hlen : (C ++ tailL).length = C.length + 3 := by rw [List.length_append]; rfl
    have h4 : ((C ++ tailL).take n)[C.length]? = some 41 := by rw [List.getElem?_take_of_lt (by lia)]; exact hc
    rw [h1, List.getElem?_take_of_lt (by lia)] at h4
    have h5 := tail_pos h4 hD
    have hlen2 : (D ++ tailL).length = D.length + 3 := by rw [List.length_append]; rfl
    rw [List.take_of_length_le (by lia), List.take_of_length_le (by lia)] at h1
    exact h3 h1
  have k1 := key A B hA hB ht hl.2 hne
  have k2 := key B A hB hA ht.symm hl.1 (Ne.symm hne)
  have rv : ∀ C : List Nat, n < (C ++ tailL).length → ∃ r, ((C ++ tailL).drop n).reverse = 55 :: r := by
    intro C h
    have e : C ++ tailL = (C ++ [41, 32]) ++ [55] := by simp
    rw [e] at h ⊢
    have hlen : n ≤ (C ++ [41, 32]).length := by rw [List.length_append, List.length_singleton] at h; lia
    rw [List.drop_append_of_le_length hlen, List.reverse_append]
    exact ⟨_, rfl⟩
  obtain ⟨r1, e1⟩ := rv A (by lia)
  obtain ⟨r2, e2⟩ := rv B (by omega)
  rw [e1, e2]
  unfold lcp
  rw [if_pos rfl]
  lia
theorem lev_pre {fig pool : Str} {cnt x0 x1 d : Int} (hf : fig.length = cnt.toNat) (hp : FigOk fig pool) (h2 : 4 ≤ cnt) (h3 : cnt ≤ 6) :
    (repX fig cnt x0).length ≤ 40 ∧ (repX fig cnt x1).length ≤ 40 ∧ 0 ≤ (d.fdiv 7).fmod 20 ∧ (d.fdiv 7).fmod 20 ≤ 19 ∧ LowOk (repX fig cnt x0) ∧ LowOk (repX fig cnt x1) ∧
      (repX fig cnt x0 ≠ repX fig cnt x1 → 1 ≤ lcp (Lt (Txt.slice (repX fig cnt x0) (some ((lcp (Lt (repX fig cnt x0)) (Lt (repX fig cnt x1)) : Nat) : Int)) none)).reverse (Lt (Txt.slice (repX fig cnt x1) (some ((lcp (Lt (repX fig cnt x0)) (Lt (repX fig cnt x1)) : Nat) : Int)) none)).reverse) := by
  obtain ⟨m, em, hm⟩ := mark_cp x0
  obtain ⟨m', em', hm'⟩ := mark_cp x1
  have b1 := fmod_b (y := d.fdiv 7) (c := 20) (by decide)
  have r1 := (reply_base (l := linX cnt x0) (m := m) hp (by lia) (by lia) (by lia)).1.len
  have r2 := (reply_base (l := linX cnt x1) (m := m') hp (by lia) (by lia) (by lia)).1.len
  have l1 := low_reply (l := linX cnt x0) hp hm
  have l2 := low_reply (l := linX cnt x1) hp hm'
  have c1 := Lt_reply (txtF fig (linX cnt x0)) m
  have c2 := Lt_reply (txtF fig (linX cnt x1)) m'
  rw [← em] at r1 l1 c1
  rw [← em'] at r2 l2 c2
  refine ⟨r1, r2, b1.1, by (clear hf hp h2 h3 em hm em' hm' r1 r2 l1 l2 c1 c2; omega), l1, l2, fun hne => ?_⟩
  rw [Lt_from (by lia), Lt_from (by lia), Int.toNat_natCast]
  have d1 : Lt (repX fig cnt x0) = (headL ++ (m :: m :: m :: (Lt (txtF fig (linX cnt x0)) ++ [m]))) ++ tailL := by
    show Lt (replyOf (txtF fig (linX cnt x0)) (markX x0)) = _
    rw [c1]; simp
  have d2 : Lt (repX fig cnt x1) = (headL ++ (m' :: m' :: m' :: (Lt (txtF fig (linX cnt x1)) ++ [m']))) ++ tailL := by
    show Lt (replyOf (txtF fig (linX cnt x1)) (markX x1)) = _
    rw [c2]; simp
  have no : ∀ (l : Int) (m : Nat), (m = 124 ∨ m = 33 ∨ m = 58) → 41 ∉ headL ++ (m :: m :: m :: (Lt (txtF fig l) ++ [m])) := by
    intro l m hm h
    rcases List.mem_append.mp h with h | h
    · exact absurd h (by decide)
    · simp only [List.mem_cons, List.mem_append, List.not_mem_nil, or_false] at h
      have hs := fun h => txt_signs (l := l) hp 41 h
      rcases h with h | h | h | h | h
      · lia
      · lia
      · lia
      · have := hs h; (clear hf hp h2 h3 em em' hm' b1 r1 r2 l1 l2 c1 c2 hne d1 d2 hm hs h; lia)
      · lia
  have hne2 : Lt (repX fig cnt x0) ≠ Lt (repX fig cnt x1) := fun e => hne (Lt_inj e)
  rw [d1, d2] at hne2 ⊢
  exact lcp_end (no _ _ hm) (no _ _ hm') hne2
end
section
/-! the rows, one by one -/
noncomputable def nice (st : GS) : Prop := match st with
  | .at r last => (∀ x ∈ r, 0 ≤ x ∧ x ≤ 200) ∧ ∀ v, last = some v → 1 ≤ v ∧ v ≤ 200
  | .rep v => 1 ≤ v ∧ v ≤ 200
theorem nice_out {st st' : GS} {y : Int} (h : nice st) (e : gout st = some (some (y, st'))) : (1 ≤ y ∧ y ≤ 200) ∧ nice st' := by
  match st, h, e with
  | .rep v, h, e =>
    have e' : some (some (v, GS.rep v)) = some (some (y, st')) := e
    have e2 := Option.some.inj (Option.some.inj e')
    have e3 : v = y := congrArg Prod.fst e2
    have e4 : GS.rep v = st' := congrArg Prod.snd e2
    rw [← e3, ← e4]; exact ⟨h, h⟩
  | .at [] last, h, e => exact nomatch e
  | .at (x :: r) last, h, e =>
    have hx := h.1 x (.head _)
    unfold gout at e
    dsimp only at e
    by_cases h1 : x = 127
    · rw [if_pos h1] at e; exact nomatch e
    · rw [if_neg h1] at e
      by_cases h2 : x = 0
      · rw [if_pos h2] at e
        cases last with
        | none => exact nomatch e
        | some v =>
          have e2 := Option.some.inj (Option.some.inj e)
          have e3 : v = y := congrArg Prod.fst e2
          have e4 : GS.rep v = st' := congrArg Prod.snd e2
          have hv := h.2 v rfl
          rw [← e3, ← e4]; exact ⟨hv, hv⟩
      · rw [if_neg h2] at e
        have e2 := Option.some.inj (Option.some.inj e)
        have e3 : x = y := congrArg Prod.fst e2
        have e4 : GS.at r (some x) = st' := congrArg Prod.snd e2
        rw [← e3, ← e4]
        refine ⟨by lia, fun z hz => h.1 z (.tail _ hz), fun v hv => ?_⟩
        rw [← Option.some.inj hv]; lia
theorem nice_next {st : GS} (h : nice st) : nice (gnext st) := by
  unfold gnext
  cases e : gout st with
  | none => exact h
  | some o =>
    cases o with
    | none => exact h
    | some p => exact (nice_out h (y := p.1) (st' := p.2) e).2
theorem nice_it {st : GS} (h : nice st) : ∀ k, nice (itG k st)
  | 0 => h
  | k + 1 => nice_next (nice_it h k)
theorem nice_sized {st : GS} (h : nice st) : Sized st := fun k _ _ e => (nice_out (nice_it h k) e).1
noncomputable def headOk : List Int → Bool
  | x :: _ => x != 0
  | [] => true
theorem fine_of {r : List Int} (h : headOk r = true) : Fine (.at r none) := by
  match r, h with
  | [], _ => trivial
  | x :: r, h => exact bne_iff_ne.mp h
noncomputable def rowOk (row : List Int) (way : Int) : Bool :=
  headOk row && row.all (fun x => decide (0 ≤ x ∧ x ≤ 200)) && decide (row.length ≤ 20) && (way != 2 || decide (3 ≤ row.length)) && (outs 9 (.at row none) == sizesF row way) && (outs 9 (.at row none)).all (fun y => decide (1 ≤ y))
theorem row_all_ok : ∀ c ∈ [4, 5, 6], ∀ l ∈ List.range 32, ∀ w ∈ [0, 1, 2, 3], l < 2 ^ (c - 1) → rowOk (rowF (l : Nat) (c : Nat) (w : Nat)) (w : Nat) = true := by decide +kernel
theorem in_dom {lines cnt way : Int} (h0 : 0 ≤ lines) (h1 : lines < 2 ^ (cnt - 1).toNat) (h2 : 4 ≤ cnt) (h3 : cnt ≤ 6) (h4 : 0 ≤ way) (h5 : way < 4) :
    ∃ c ∈ [4, 5, 6], ∃ l ∈ List.range 32, ∃ w ∈ [0, 1, 2, 3], l < 2 ^ (c - 1) ∧ lines = (l : Nat) ∧ cnt = (c : Nat) ∧ way = (w : Nat) := by
  refine ⟨cnt.toNat, ?_, lines.toNat, ?_, way.toNat, ?_, ?_, by lia, by lia, by lia⟩
  · have : cnt.toNat = 4 ∨ cnt.toNat = 5 ∨ cnt.toNat = 6 := by lia
    simp only [List.mem_cons, List.not_mem_nil, or_false]; exact this
  · have h6 : ∀ n : Nat, n < 6 → (2 : Int) ^ n ≤ 32 := by decide
    have := h6 (cnt - 1).toNat (by omega)
    rw [List.mem_range]; omega
  · have : way.toNat = 0 ∨ way.toNat = 1 ∨ way.toNat = 2 ∨ way.toNat = 3 := by lia
    simp only [List.mem_cons, List.not_mem_nil, or_false]; exact this
  · have e : cnt.toNat - 1 = (cnt - 1).toNat := (cnt_len rfl (by lia)).symm
    rw [e]
    have hc : (((2 : Nat) ^ (cnt - 1).toNat : Nat) : Int) = (2 : Int) ^ (cnt - 1).toNat := by push_cast; rfl
    omega
theorem row_ok {lines cnt way : Int} (h0 : 0 ≤ lines) (h1 : lines < 2 ^ (cnt - 1).toNat) (h2 : 4 ≤ cnt) (h3 : cnt ≤ 6) (h4 : 0 ≤ way) (h5 : way < 4) : rowOk (rowF lines cnt way) way = true := by
  obtain ⟨c, hc, l, hl, w, hw, h9, rfl, rfl, rfl⟩ := in_dom h0 h1 h2 h3 h4 h5
  exact row_all_ok c hc l hl w hw h9
theorem row_facts {lines cnt way : Int} (h0 : 0 ≤ lines) (h1 : lines < 2 ^ (cnt - 1).toNat) (h2 : 4 ≤ cnt) (h3 : cnt ≤ 6) (h4 : 0 ≤ way) (h5 : way < 4) :
    Fine (.at (rowF lines cnt way) none) ∧ Sized (.at (rowF lines cnt way) none) ∧ (rowF lines cnt way).length ≤ 20 ∧ (way = 2 → 3 ≤ (rowF lines cnt way).length) ∧ outs 9 (.at (rowF lines cnt way) none) = sizesF (rowF lines cnt way) way := by
  have h := row_ok h0 h1 h2 h3 h4 h5
  generalize rowF lines cnt way = row at *
  simp only [rowOk, Bool.and_eq_true, Bool.or_eq_true, decide_eq_true_eq, List.all_eq_true, beq_iff_eq, bne_iff_ne] at h
  obtain ⟨⟨⟨⟨⟨a1, a2⟩, a3⟩, a4⟩, a5⟩, a6⟩ := h
  refine ⟨fine_of a1, nice_sized ⟨a2, fun v hv => nomatch hv⟩, a3, fun hw => ?_, a5⟩
  rcases a4 with q | q
  · exact absurd hw q
  · exact q
/-- the cutting of any list by sizes, from behind -/
noncomputable def wrL {α : Type} : List Int → List (List α) × List α → List (List α) × List α
  | [], p => p
  | y :: r, p => if p.2.length = 0 then p else wrL r (p.2.drop (p.2.length - y.toNat) :: p.1, p.2.take (p.2.length - y.toNat))
noncomputable def finL {α : Type} (p : List (List α) × List α) : List (List α) := if p.2.length = 0 then p.1 else p.2 :: p.1
theorem wrL_map {α β : Type} (f : α → β) : ∀ (ys : List Int) (gs : List (List α)) (left : List α), wrL ys (gs.map (·.map f), left.map f) = ((wrL ys (gs, left)).1.map (·.map f), (wrL ys (gs, left)).2.map f)
  | [], _, _ => rfl
  | y :: r, gs, left => by
    unfold wrL
    dsimp only
    rw [List.length_map]
    by_cases h : left.length = 0
    · rw [if_pos h, if_pos h]
    · rw [if_neg h, if_neg h, ← List.map_drop, ← List.map_take]
      exact wrL_map f r (left.drop (left.length - y.toNat) :: gs) (left.take (left.length - y.toNat))
theorem finL_map {α β : Type} (f : α → β) (p : List (List α) × List α) : finL (p.1.map (·.map f), p.2.map f) = (finL p).map (·.map f) := by
  unfold finL
  dsimp only
  rw [List.length_map]
  by_cases h : p.2.length = 0
  · rw [if_pos h, if_pos h]
  · rw [if_neg h, if_neg h]; rfl
noncomputable def joinN : List (List Nat) → List Nat
  | [] => []
  | [x] => x
  | x :: y :: r => x ++ 95 :: joinN (y :: r)
noncomputable def joinO : List (List Nat) → List (Option Nat)
  | [] => []
  | [x] => x.map some
  | x :: y :: r => x.map some ++ none :: joinO (y :: r)
noncomputable def sgn (g : Nat → Nat) : Option Nat → Nat
  | none => 95
  | some k => g k
theorem joinN_map (g : Nat → Nat) : ∀ L : List (List Nat), joinN (L.map (·.map g)) = (joinO L).map (sgn g)
  | [] => rfl
  | [x] => by
    show x.map g = (x.map some).map (sgn g)
    rw [List.map_map]; rfl
  | x :: y :: r => by
    have ih := joinN_map g (y :: r)
    show x.map g ++ 95 :: joinN ((y :: r).map (·.map g)) = (x.map some ++ none :: joinO (y :: r)).map (sgn g)
    rw [ih, List.map_append, List.map_map]; rfl
theorem Lt_join : ∀ P : List Str, Lt (Txt.join (Str.ofString "_") P) = joinN (P.map Lt) := by
  have e : Str.ofString "_" = ⟨#[95]⟩ := by decide +kernel
  intro P
  show Lt (Builtin.Str.glued (Str.ofString "_") P) = _
  rw [StrLaws.glued_eq_join, e]
  induction P with
  | nil => rfl
  | cons x r ih =>
    cases r with
    | nil => rfl
    | cons y r =>
      rw [join_cons2, ih]
      show Lt x ++ [95] ++ _ = Lt x ++ 95 :: joinN ((y :: r).map Lt)
      simp
theorem wrGo_Lt : ∀ (ys : List Int) (gs : List Str) (left : Str), (∀ y ∈ ys, 1 ≤ y) → ((wrGo ys (gs, left)).1.map Lt, Lt (wrGo ys (gs, left)).2) = wrL ys (gs.map Lt, Lt left)
  | [], _, _, _ => rfl
  | y :: r, gs, left, h => by
    have hy := h y (.head _)
    unfold wrGo wrL
    dsimp only
    have e0 : left = Str.ofString "" ↔ (Lt left).length = 0 := by
      constructor
      · rintro rfl; rfl
      · intro q
        apply Lt_inj
        rw [List.eq_nil_of_length_eq_zero q]; rfl
    by_cases q : left = Str.ofString ""
    · rw [if_pos q, if_pos (e0.mp q)]
    · rw [if_neg q, if_neg (fun z => q (e0.mpr z))]
      unfold wrStep
      dsimp only
      rw [wrGo_Lt r _ _ fun z hz => h z (.tail _ hz)]
      have en : (- -y).toNat = y.toNat := by lia
      rw [List.map_cons, Lt_fromN (by lia), Lt_uptoN (by lia), en, Lt_len]
theorem Lt_written {fig : Str} {row : List Int} (h : ∀ y ∈ outs 9 (.at row none), 1 ≤ y) : Lt (writtenF fig row) = joinN (finL (wrL (outs 9 (.at row none)) ([], Lt fig))) := by
  have e := wrGo_Lt (outs 9 (.at row none)) [] fig h
  rw [List.map_nil] at e
  rw [← e]
  unfold writtenF finL
  dsimp only
  generalize wrGo (outs 9 (.at row none)) ([], fig) = p
  by_cases q : p.2 = Str.ofString ""
  · rw [if_pos q, if_pos (by rw [q]; rfl), Lt_join]
  · rw [if_neg q, if_neg, Lt_join]
    · rfl
    · intro z
      apply q
      apply Lt_inj
      rw [List.eq_nil_of_length_eq_zero z]; rfl
noncomputable def pbn (n : Nat) (l : Int) (k : Nat) : Bool := decide (0 < (n : Int) - 1 - (k : Int) ∧ Int.fmod (Int.fdiv l (2 ^ ((n : Int) - 1 - (k : Int) - 1).toNat)) 2 = 1)
noncomputable def plainO (n : Nat) (l : Int) : Nat → List (Option Nat)
  | 0 => []
  | k + 1 => plainO n l k ++ some k :: (if pbn n l k then [none] else [])
theorem Lt_plain (fig : Str) (l : Int) : ∀ k, k ≤ fig.length → Lt (plainTo fig l k) = (plainO fig.length l k).map (sgn (figN fig))
  | 0, _ => rfl
  | k + 1, h => by
    rw [plain_succ (by lia), Lt_plain fig l k (by lia)]
    show _ = (plainO fig.length l k ++ some k :: (if pbn fig.length l k then [none] else [])).map (sgn (figN fig))
    rw [List.map_append, List.map_cons]
    congr 1
    have e : pbn fig.length l k = pb fig l k := rfl
    rw [e]
    cases pb fig l k <;> rfl
theorem cut_all_ok : ∀ c ∈ [4, 5, 6], ∀ l ∈ List.range 32, ∀ w ∈ [0, 1, 2, 3], l < 2 ^ (c - 1) → (joinO (finL (wrL (outs 9 (.at (rowF (l : Nat) (c : Nat) (w : Nat)) none)) ([], List.range c))) == plainO c (l : Nat) c) = true := by decide +kernel
theorem Lt_range (fig : Str) : Lt fig = (List.range fig.length).map (figN fig) := by
  apply List.ext_getElem
  · rw [List.length_map, List.length_range, Lt_len]
  · intro i h1 h2
    rw [List.getElem_map, List.getElem_range]
    unfold figN
    rw [getD_get h1]
theorem written_plain {fig : Str} {lines cnt way : Int} (hf : fig.length = cnt.toNat) (h0 : 0 ≤ lines) (h1 : lines < 2 ^ (cnt - 1).toNat) (h2 : 4 ≤ cnt) (h3 : cnt ≤ 6) (h4 : 0 ≤ way) (h5 : way < 4) :
    writtenF fig (rowF lines cnt way) = txtF fig lines := by
  have hok := row_ok h0 h1 h2 h3 h4 h5
  obtain ⟨c, hc, l, hl, w, hw, h9, rfl, rfl, rfl⟩ := in_dom h0 h1 h2 h3 h4 h5
  have hcut := eq_of_beq (cut_all_ok c hc l hl w hw h9)
  have hy : ∀ y ∈ outs 9 (.at (rowF (l : Nat) (c : Nat) (w : Nat)) none), 1 ≤ y := by
    unfold rowOk at hok
    rw [Bool.and_eq_true, List.all_eq_true] at hok
    intro y hy
    exact of_decide_eq_true (hok.2 y hy)
  have hn : fig.length = c := by lia
  apply Lt_inj
  rw [Lt_written hy]
  show _ = Lt (plainTo fig (l : Nat) fig.length)
  rw [Lt_plain fig _ _ (Nat.le_refl _), hn, ← hcut, Lt_range fig, hn]
  have e1 := wrL_map (figN fig) (outs 9 (.at (rowF (l : Nat) (c : Nat) (w : Nat)) none)) [] (List.range c)
  rw [List.map_nil] at e1
  rw [e1, finL_map, joinN_map]
end
section
/-! the law's end -/
theorem rng_k {k c : Int} {pre : List Int} (h : k = 0 + (pre.length : Int)) (h2 : pre.length < (c - 1 - 0).toNat) (hc : c ≤ 6) : 0 ≤ k ∧ k ≤ 1000000 ∧ k < 9000 := by omega
theorem law_post (args : List WData) : PySem.Challenge.rw_wn0048_01.row.claim.post args (.bool true) args = true := by
  first | with_unfolding_all rfl | decide +kernel | (simp [PySem.Challenge.rw_wn0048_01]; done)
theorem law_good {cl : Str → Option Addr} {mean : ExcName → Option Value} {args : List WData} {s₁ : Shared} {h' : Heap} {g : Array GenState} {d : Drawn} {k : Nat} {o : OsState} {L : Addr} {m : Str → Option Value} {b : Bool}
    (F : Fr s₁.heap L h' m) (hb : AllBare g) (ho : o = s₁.os) (ht : b = true) :
    GoodWG PySem.Challenge.rw_wn0048_01.row.claim cl mean args s₁ (.ok (.ret (.bool b))) ⟨h', g, d, k, o⟩ := by
  subst ht
  exact ⟨.inl ⟨.bool true, .bool true, [], rfl, fun _ => rfl, .bool true, law_post args, fun _ => ⟨List.nodup_nil, fun _ h => nomatch h⟩⟩, .of_keep F.keep, ho, hb⟩
theorem lev_fin {fig pool : Str} {cnt x0 x1 mc n due d0 : Int} (hf : fig.length = cnt.toNat) (hp : FigOk fig pool) (h2 : 4 ≤ cnt) (h3 : cnt ≤ 6)
    (hd : due = d0 + 2 * diffs (linX cnt x0) (linX cnt x1) (rangeKs 0 (cnt - 1 - 0).toNat).length) (h0 : d0 = if markX x0 = markX x1 then 0 else 8) (hmc : 0 ≤ mc) (hn : LevOk (Lt (repX fig cnt x0)) (Lt (repX fig cnt x1)) mc n) :
    ((due ≤ mc ∨ due ≤ 2) → n = due) ∧ (¬ (due ≤ mc ∨ due ≤ 2) → mc < n ∧ n ≤ due) := by
  refine lev_law hf hp h2 h3 (k := (rangeKs 0 (cnt - 1 - 0).toNat).length) ?_ (by rw [hd, h0]) hmc hn
  rw [rangeKs_length, Int.sub_zero]
theorem d0_ne {x y : Int} (h : (markX x != markX y) = true) : (8 : Int) = if markX x = markX y then 0 else 8 := by
  rw [if_neg (bne_iff_ne.mp h)]
theorem d0_eq {x y : Int} (h : ¬ (markX x != markX y) = true) : (0 : Int) = if markX x = markX y then 0 else 8 := by
  rw [if_pos (by simpa using h)]
theorem d0_eq' {x y : Int} (h : (markX x != markX y) = false) : (0 : Int) = if markX x = markX y then 0 else 8 := by
  rw [if_pos (by simpa using h)]
end
section
/-! the contracts used with what they hand back laid open: no case of it is left to the walk -/
section
variable {w : World} {f : Addr} {vs : List Value} {news : List (Addr × Obj)} {dk : Nat} {pre : Prop} {ns : List Int} {x : Str} {cnt : Int} {P : Int → Prop} {port : Int}
  {p : Program} {loose : List Str} {mean : ExcName → Option Value} {mg mb : Str → Option Value} {dp un : Nat} {gd : Option (List Code)} {cn : Str} {cs : Scope} {a : Addr} {ccd : Value} {cl : List (Str × Addr)} {outer : List Env} {A₀ A : Around} {base h₀ : Heap} {L : Addr} {m : Str → Option Value} {s : Shared}
  {Q E : Value → Shared → Prop}
theorem con_fig (C : Con w f vs news dk pre (fun v tl => tl = [] ∧ ∃ fig pool t, v = .str fig t ∧ fig.length = cnt.toNat ∧ FigOk fig pool)) (hA : A = ktrTop dp un gd cn cs L a ccd cl outer)
    (B : Below A₀ base outer h₀) (F : Fr h₀ L s.heap m) (X : (hd.heap_39 w.params).In h₀) (N : News h₀ L s.heap news) (T : Top p loose mean mg mb h₀) (hk : cs.kind = .function) (hd : dp + dk < recursionLimit) (hu : un + 8 * dk + 1000 < cLine) (hp : pre)
    (hret : ∀ fig pool t h' tk', fig.length = cnt.toNat → FigOk fig pool → Fr h₀ L h' m → News h₀ L h' news → Q (.str fig t) { s with heap := h', toks := tk' }) : wpAny (model PG w) A (call (.ref f) vs) Q E s :=
  con_use C hA B F X N T hk hd hu hp fun v tl h' tk' hv F' N' => by
    obtain ⟨rfl, fig, pool, t, rfl, h1, h2⟩ := hv
    exact hret fig pool t h' tk' h1 h2 F' N'
theorem con_txt (C : Con w f vs news dk pre (fun v tl => tl = [] ∧ ∃ t, v = .str x t)) (hA : A = ktrTop dp un gd cn cs L a ccd cl outer)
    (B : Below A₀ base outer h₀) (F : Fr h₀ L s.heap m) (X : (hd.heap_39 w.params).In h₀) (N : News h₀ L s.heap news) (T : Top p loose mean mg mb h₀) (hk : cs.kind = .function) (hd : dp + dk < recursionLimit) (hu : un + 8 * dk + 1000 < cLine) (hp : pre)
    (hret : ∀ t h' tk', Fr h₀ L h' m → News h₀ L h' news → Q (.str x t) { s with heap := h', toks := tk' }) : wpAny (model PG w) A (call (.ref f) vs) Q E s :=
  con_use C hA B F X N T hk hd hu hp fun v tl h' tk' hv F' N' => by
    obtain ⟨rfl, t, rfl⟩ := hv
    exact hret t h' tk' F' N'
theorem con_int (C : Con w f vs news dk pre (fun v tl => tl = [] ∧ ∃ n t, v = .int n t ∧ P n)) (hA : A = ktrTop dp un gd cn cs L a ccd cl outer)
    (B : Below A₀ base outer h₀) (F : Fr h₀ L s.heap m) (X : (hd.heap_39 w.params).In h₀) (N : News h₀ L s.heap news) (T : Top p loose mean mg mb h₀) (hk : cs.kind = .function) (hd : dp + dk < recursionLimit) (hu : un + 8 * dk + 1000 < cLine) (hp : pre)
    (hret : ∀ n t h' tk', P n → Fr h₀ L h' m → News h₀ L h' news → Q (.int n t) { s with heap := h', toks := tk' }) : wpAny (model PG w) A (call (.ref f) vs) Q E s :=
  con_use C hA B F X N T hk hd hu hp fun v tl h' tk' hv F' N' => by
    obtain ⟨rfl, n, t, rfl, h⟩ := hv
    exact hret n t h' tk' h F' N'
theorem con_list (C : Con w f vs news dk pre (ListRet ns)) (hA : A = ktrTop dp un gd cn cs L a ccd cl outer)
    (B : Below A₀ base outer h₀) (F : Fr h₀ L s.heap m) (X : (hd.heap_39 w.params).In h₀) (N : News h₀ L s.heap news) (T : Top p loose mean mg mb h₀) (hk : cs.kind = .function) (hd : dp + dk < recursionLimit) (hu : un + 8 * dk + 1000 < cLine) (hp : pre)
    (hret : ∀ r vs c h' tk', IntsAre vs ns → Fr h₀ L h' m → News h₀ L h' ((r, listOf (List.toArray vs) c) :: news) → Q (.ref r) { s with heap := h', toks := tk' }) : wpAny (model PG w) A (call (.ref f) vs) Q E s :=
  con_use C hA B F X N T hk hd hu hp fun v tl h' tk' hv F' N' => by
    obtain ⟨r, vs, c, rfl, rfl, h⟩ := hv
    exact hret r vs c h' tk' h F' N'
theorem con_at (C : Con w f vs news dk pre (ListAt ns news)) (hA : A = ktrTop dp un gd cn cs L a ccd cl outer)
    (B : Below A₀ base outer h₀) (F : Fr h₀ L s.heap m) (X : (hd.heap_39 w.params).In h₀) (N : News h₀ L s.heap news) (T : Top p loose mean mg mb h₀) (hk : cs.kind = .function) (hd : dp + dk < recursionLimit) (hu : un + 8 * dk + 1000 < cLine) (hp : pre)
    (hret : ∀ r vs c h' tk', IntsAre vs ns → Fr h₀ L h' m → News h₀ L h' ((r, listOf (List.toArray vs) c) :: news) → Q (.ref r) { s with heap := h', toks := tk' }) : wpAny (model PG w) A (call (.ref f) vs) Q E s :=
  con_use C hA B F X N T hk hd hu hp fun v tl h' tk' hv F' N' => by
    obtain ⟨-, r, vs, c, rfl, h1, h⟩ := hv
    exact hret r vs c h' tk' h F' (news_and N' h1)
theorem conG_list (C : ConG w f vs news dk pre (ListRet' ns)) (hA : A = ktrTop dp un gd cn cs L a ccd cl outer)
    (B : Below A₀ base outer h₀) (F : Fr h₀ L s.heap m) (X : (hd.heap_39 w.params).In h₀) (N : News h₀ L s.heap news) (T : Top p loose mean mg mb h₀) (hk : cs.kind = .function) (hd : dp + dk < recursionLimit) (hu : un + 8 * dk + 1000 < cLine) (hp : pre) (hb : AllBare s.gens)
    (hret : ∀ r vs c h' g' d' tk', IntsAre vs ns → Fr h₀ L h' m → News h₀ L h' ((r, listOf (List.toArray vs) c) :: news) → AllBare g' → Q (.ref r) ⟨h', g', d', tk', s.os⟩) : wpAny (model PG w) A (call (.ref f) vs) Q E s :=
  conG_use C hA B F X N T hk hd hu hp hb fun v tl h' g' d' tk' hv F' N' hb' => by
    obtain ⟨r, vs, c, rfl, rfl, h⟩ := hv
    exact hret r vs c h' g' d' tk' h F' N' hb'
theorem conG_txt {x' : Str} (C : ConG w f vs news dk pre (fun v tl => tl = [] ∧ ∃ t, v = .str x t)) (hA : A = ktrTop dp un gd cn cs L a ccd cl outer)
    (B : Below A₀ base outer h₀) (F : Fr h₀ L s.heap m) (X : (hd.heap_39 w.params).In h₀) (N : News h₀ L s.heap news) (T : Top p loose mean mg mb h₀) (hk : cs.kind = .function) (hd : dp + dk < recursionLimit) (hu : un + 8 * dk + 1000 < cLine) (hp : pre) (hb : AllBare s.gens) (ex : x = x')
    (hret : ∀ t h' g' d' tk', Fr h₀ L h' m → News h₀ L h' news → AllBare g' → Q (.str x' t) ⟨h', g', d', tk', s.os⟩) : wpAny (model PG w) A (call (.ref f) vs) Q E s := by
  subst ex
  exact conG_use C hA B F X N T hk hd hu hp hb fun v tl h' g' d' tk' hv F' N' hb' => by
    obtain ⟨rfl, t, rfl⟩ := hv
    exact hret t h' g' d' tk' F' N' hb'
theorem conSG_true (C : ConSG w f vs news dk pre (fun v tl => tl = [] ∧ v = .bool true)) (hA : A = ktrTop dp un gd cn cs L a ccd [] [])
    (B : Below A₀ base [] h₀) (F : Fr h₀ L s.heap m) (X : (hd.heap_39 w.params).In h₀) (N : News h₀ L s.heap news) (T : Top p loose mean mg mb h₀) (XB : (hd.heap_39 w.params).In base) (TB : Top p loose mean mg mb base) (hk : cs.kind = .function) (hd : dp + dk < recursionLimit) (hu : un + 8 * dk + 1000 < cLine) (hp : pre) (hb : AllBare s.gens)
    (hret : ∀ h' g' d' tk', Fr h₀ L h' m → News h₀ L h' news → AllBare g' → Q (.bool true) ⟨h', g', d', tk', s.os⟩) : wpAny (model PG w) A (call (.ref f) vs) Q E s :=
  conSG_use C hA B F X N T XB TB hk hd hu hp hb fun v tl h' g' d' tk' hv F' N' hb' => by
    obtain ⟨rfl, rfl⟩ := hv
    exact hret h' g' d' tk' F' N' hb'
theorem conS_read (C : ConS w f vs news dk pre (ReadRet x port)) (hA : A = ktrTop dp un gd cn cs L a ccd [] [])
    (B : Below A₀ base [] h₀) (F : Fr h₀ L s.heap m) (X : (hd.heap_39 w.params).In h₀) (N : News h₀ L s.heap news) (T : Top p loose mean mg mb h₀) (XB : (hd.heap_39 w.params).In base) (TB : Top p loose mean mg mb base) (hk : cs.kind = .function) (hd : dp + dk < recursionLimit) (hu : un + 8 * dk + 1000 < cLine) (hp : pre)
    (h5 : (pieces x).length = 5 → ∀ D t1 t2 h' tk', Fr h₀ L h' m → News h₀ L h' ((D, tupOf [.str (Str.ofString "h") t1, .int port t2]) :: news) → Q (.ref D) { s with heap := h', toks := tk' })
    (hn : (pieces x).length ≠ 5 → ∀ h' tk', Fr h₀ L h' m → News h₀ L h' news → Q .none { s with heap := h', toks := tk' }) : wpAny (model PG w) A (call (.ref f) vs) Q E s :=
  conS_use C hA B F X N T XB TB hk hd hu hp fun v tl h' tk' hv F' N' => by
    rcases hv with ⟨h, D, t1, t2, rfl, rfl⟩ | ⟨h, rfl, rfl⟩
    · exact h5 h D t1 t2 h' tk' F' N'
    · exact hn h h' tk' F' N'
end
end
section
theorem take2_len {w9 : List Int} : (w9.take 2 ++ [5, 46].drop w9.length).length = 2 := by
  match w9 with
  | [] => rfl
  | [_] => rfl
  | _ :: _ :: _ => simp
local macro_rules | `(tactic| walk_at "subscriptTail List cons Slice ref ref") => `(tactic| (k_here; k_extra "my cut"))
local macro_rules | `(tactic| walk_at "compareOp NotEq ref ref") => `(tactic| (k_here; k_extra "my cmp"))
local macro_rules | `(tactic| walk_at "call builtin:list.append") => `(tactic| (k_here; k_extra "my app"))
local macro_rules | `(tactic| walk_at "ite") => `(tactic| k_extra "my ite")
local macro_rules | `(tactic| walk_at "exec For Name BinOp cons nil") => `(tactic| (k_here; k_extra "law for"))
local macro_rules | `(tactic| walk_at "binaryOp Pow int int") => `(tactic| (k_here; k_extra "my pow"))
local macro_rules | `(tactic| walk_at "binaryOp FloorDiv int int") => `(tactic| (k_here; k_extra "my div"))
theorem abs_post {α : Type} {M : Model} {A : Around} {t : Sem α} {Q : α → Shared → Prop} {E : Value → Shared → Prop} {s : Shared} (h : ∀ Q', Q' = Q → wpAny M A t Q' E s) : wpAny M A t Q E s := h Q rfl
theorem port_0 : (0 : Int) = portOf [] := rfl
local macro_rules | `(tactic| omega) => `(tactic| lia)
theorem law_ends : PySem.Challenge.rw_wn0048_01.Holds := hd (by
  intro w s₀ s₁ mg mb G Y fa o pm cd doc dV kV ho hd' hcd hD hmg hg args vals as hpre hlay hrd hwl hlo
  have KX := kIn_of Y
  have X := (Ground.X G).1
  have V := (Ground.X G).2
  try w_nolog (first | (have GL := glob_more (Ground.glob G (by first | k_qdec | decide +kernel) (by first | k_qdec | decide +kernel)) V) | (have GL := glob_more (Ground.glob G (by decide +kernel)) V))
  refine Ground.open G ?_
  intro T B D TE TW
  try (refine guard_noD D (by decide +kernel) ?_; clear D)
  obtain ⟨_, _, M⟩ := bmod_of_top T
  have TA := at_of_top T
  try (obtain ⟨_, _, he, B0⟩ := based_of_top T rfl hmg ho hd'; have he' : cd = _ := he; subst he'; clear he)
  clear hmg
  wrow_args hpre hlay hrd hwl hlo
  all_goals (
    first | refine callC_kw (enter_call ?_) | refine enter_call ?_ | refine callC_kw (enter_callW ?_) | refine enter_callW ?_ | w_how
    w_top on
    have K0 := below_caller (Top.heap T)
    w_call any ho hd' hcd hD T F
    clear hd' TA
    k_drop
    skip)
  all_goals (try k_fold)
  replace K0 : Below callerA s₁.heap [] s₁.heap := K0
  have hbare : AllBare s₁.gens := .of_eq hg
  rename List Int => w9
  k_with_none
  k_with "gen call" => (rename Fr _ _ _ _ => lF'; rename News _ _ _ _ => lN'; first
    | ((with_reducible show wpAny _ _ (call (Value.ref 86) _) _ _ _); k_dflt ((refine' con_fig (c_figures w _ _ _ _ _) rfl K0 lF' KX lN' T rfl ?c0 ?c1 (mod3_bd _) ?_); (case c0 => ktr_room); (case c1 => ktr_units); intro fig pool tfig h' tk' hfl hfo F' N'; have hfb := mod3_bd (w9.sum + 9127); generalize 4 + (w9.sum + 9127).fmod 3 = cnt at *; obtain ⟨hc4, hc6⟩ := hfb))
    | ((with_reducible show wpAny _ _ (call (Value.ref 93) _) _ _ _); k_dflt ((refine' con_list (c_row w _ _ _ _ _ _ _) rfl K0 lF' KX lN' T rfl ?c0 ?c1 ⟨hl1, hl3, hc4, hc6, hy1, hy2⟩ ?_); (case c0 => ktr_room); (case c1 => ktr_units); intro rr rvs rc h' tk' hIr F' N'))
    | ((with_reducible show wpAny _ _ (call (Value.ref 100) _) _ _ _); k_dflt ((refine' conG_list (c_told w _ rvs rc _ _) rfl K0 lF' KX lN' T rfl ?c0 ?c1 ⟨by k_mem, hIr, hr1⟩ (by assumption) ?_); (case c0 => ktr_room); (case c1 => ktr_units); intro rt tvs tc h' g' d' tk' hIt F' N' hbt; rw [hr5] at hIt))
    | ((with_reducible show wpAny _ _ (call (Value.ref 107) _) _ _ _); k_dflt ((refine' con_at (c_sizes w _ rvs rc _ _ _ _) rfl K0 lF' KX lN' T rfl ?c0 ?c1 ⟨by k_mem, hIr, hr3, hr4⟩ ?_); (case c0 => ktr_room); (case c1 => ktr_units); intro rz zvs zc h' tk' hIz F' N'))
    | ((with_reducible show wpAny _ _ (call (Value.ref 121) _) _ _ _); k_dflt ((refine' conG_txt (c_written w _ _ _ rvs rc _ _) rfl K0 lF' KX lN' T rfl ?c0 ?c1 ⟨by k_mem, hIr, hr1, hr2, hf6⟩ (by assumption) hwp ?_); (case c0 => ktr_room); (case c1 => ktr_units); intro tw h' g' d' tk' F' N' hbw))
    | ((with_reducible show wpAny _ _ (call (Value.ref 128) _) _ _ _); k_dflt ((refine' con_txt (c_plain w _ _ _ _ _) rfl K0 lF' KX lN' T rfl ?c0 ?c1 ⟨hf6, hl1, hl3⟩ ?_); (case c0 => ktr_room); (case c1 => ktr_units); intro tp h' tk' F' N'))
    | ((with_reducible show wpAny _ _ (call (Value.ref 114) _) _ _ _); k_dflt ((refine' conSG_true (c_refused w _ _ _ (rowF _ _ _) _) rfl K0 lF' KX lN' T KX T rfl ?c0 ?c1 ⟨by k_mem, by assumption⟩ (by assumption) ?_); (case c0 => ktr_room); (case c1 => ktr_units); intro h' g' d' tk' F' N' hbx))
    | ((with_reducible show wpAny _ _ (call (Value.ref 79) _) _ _ _); k_dflt ((refine' con_int (c_lev w _ _ _ _ _ _ _) rfl K0 lF' KX lN' T rfl ?c0 ?c1 (lev_pre hfl hfo hc4 hc6) ?_); (case c0 => ktr_room); (case c1 => ktr_units); intro nn tn h' tk' hlev F' N'))
    | ((with_reducible show wpAny _ _ (call (Value.ref 135) _) _ _ _); k_dflt ((refine' con_txt (c_reply w _ _ _ _ _) rfl K0 lF' KX lN' T rfl ?c0 ?c1 ⟨txt_20 hfl hc6, rfl⟩ ?_); (case c0 => ktr_room); (case c1 => ktr_units); intro tq h' tk' F' N'))
    | ((with_reducible show wpAny _ _ (call (Value.ref 142) [Value.str (replyOf _ (Txt.item (Str.ofString "|!:") _)) _]) _ _ _); k_dflt ((refine' conS_read (c_read w _ _ (portOf (KStt.codes fig)) _ _) rfl K0 lF' KX lN' T KX T rfl ?c0 ?c1 (reply_mark y hfl hfo hl1 hl2 hc4 hc6).1 ?_ (fun hne => absurd (reply_mark y hfl hfo hl1 hl2 hc4 hc6).2 hne)); (case c0 => ktr_room); (case c1 => ktr_units); intro _ DD t8 t9 h' tk' F' N'))
    | ((with_reducible show wpAny _ _ (call (Value.ref 142) [Value.str (replyOf _ (Txt.item fig _)) _]) _ _ _); k_dflt ((refine' conS_read (c_read w _ _ (portOf (KStt.codes fig)) _ _) rfl K0 lF' KX lN' T KX T rfl ?c0 ?c1 (reply_fig (k := y.fmod cnt) hfl hfo hl1 hl2 hc4 hc6 hz1 hz2).1 (fun he5 => absurd he5 (reply_fig (k := y.fmod cnt) hfl hfo hl1 hl2 hc4 hc6 hz1 hz2).2) ?_); (case c0 => ktr_room); (case c1 => ktr_units); intro _ h' tk' F' N'))
    | ((with_reducible show wpAny _ _ (call (Value.ref 142) [Value.str (replyOf _ (Str.ofString "_")) _]) _ _ _); k_dflt ((refine' conS_read (c_read w _ _ (portOf (KStt.codes fig)) _ _) rfl K0 lF' KX lN' T KX T rfl ?c0 ?c1 (reply_us hfl hfo hl1 hl2 hc4 hc6).1 ?u5 ?un); (case c0 => ktr_room); (case c1 => ktr_units); (case' u5 => (intro he5 DD t8 t9 h' tk' F' N'; have hu0 := (reply_us hfl hfo hl1 hl2 hc4 hc6).2.mp he5)); (case' un => (intro hne h' tk' F' N'; have hu1 := fun q => hne ((reply_us hfl hfo hl1 hl2 hc4 hc6).2.mpr q))))))
  k_with "my pow" => k_dflt ((have hr9 := rng_k (by with_reducible assumption) (by with_reducible assumption) hc6); (refine pow_int_small hr9.1 hr9.2.1 (by decide) ?_); clear hr9)
  k_with "my div" => k_dflt ((have hr9 := rng_k (by with_reducible assumption) (by with_reducible assumption) hc6); (refine floordiv_int (Int.ne_of_gt (pow_pos_of (by decide) _)) ?_ (Or.inl (PyProof.noPylong_of_log2 (kbt_py hr9.2.2)))); clear hr9)
  k_with "my cmp" => (rename News _ _ _ _ => lN'; first
    | k_dflt (refine ke_ne_ints (isList_of lN' (by k_mem)) (isList_of lN' (by k_mem)) hIt hIz (by ke_room) ?_; rw [decide_eq_true rfl, Bool.not_true])
    | k_dflt ((refine ne_dataH (by ke_read) (by ke_read) (by ke_shaped) (by ke_shaped) (by ke_room) ?_); ke_norm))
  k_with "my ite" => first
    | ((with_reducible show if (Int.fmod _ _ != Int.fmod _ _) = true then _ else _); k_dflt ((refine ite_ne (a := Int.fmod (Int.fdiv (linX cnt x0) (2 ^ Int.toNat _)) 2) (b := Int.fmod (Int.fdiv (linX cnt x1) (2 ^ Int.toNat _)) 2) ?_ ?_) <;> intro hne9))
    | (with_reducible refine ite_f bne_no9 ?_)
    | (with_reducible refine ite_z0 hu0 ?_)
    | (with_reducible refine ite_nz hu1 ?_)
    | (with_reducible refine ite_b0 hu0 ?_)
    | (with_reducible refine ite_bn hu1 ?_)
    | (with_reducible refine ite_d0 hu0 ?_)
    | (with_reducible refine ite_dn hu1 ?_)
  k_with "my app" => (rename Fr _ _ _ _ => lF'; rename News _ _ _ _ => lN'; first
    | (k_dflt (show wpAny _ _ (call (Value.builtin "list.append") [Value.ref rp, _]) _ _ _); k_dflt (refine app_keep ((ru, listOf (List.toArray vu) c2) :: (mk, listOf (List.toArray vm) c3) :: keep) lF' lN' (its := List.toArray vr) (n := c1) (by repeat (first | exact List.Mem.head _ | apply List.Mem.tail)) (fun p hp => by kst_mem) (ne3 (Ne.symm d12) (Ne.symm d13) (hdk _ (.head _))) (sz_two hvr.length hx2) ?_; intro h5 F5 N5))
    | (k_dflt (show wpAny _ _ (call (Value.builtin "list.append") [Value.ref ru, _]) _ _ _); k_dflt (refine app_keep ((rp, _) :: (mk, listOf (List.toArray vm) c3) :: keep) lF' lN' (its := List.toArray vu) (n := c2) (.tail _ (.head _)) (fun p hp => by (rcases List.mem_cons.mp hp with rfl | hp; exact .head _; exact .tail _ (.tail _ hp))) (ne3 d12 (Ne.symm d23) (hdk _ (.tail _ (.head _)))) (sz_two hvu.length hx2) ?_; intro h6 F6 N6))
    | (k_dflt (show wpAny _ _ (call (Value.builtin "list.append") [Value.ref mk, _]) _ _ _); k_dflt (refine app_keep ((ru, _) :: (rp, _) :: keep) lF' lN' (its := List.toArray vm) (n := c3) (.tail _ (.tail _ (.head _))) (fun p hp => by (rcases List.mem_cons.mp hp with rfl | hp; exact .head _; rcases List.mem_cons.mp hp with rfl | hp; exact .tail _ (.head _); exact .tail _ (.tail _ (.tail _ hp)))) (ne3 d23 d13 (hdk _ (.tail _ (.tail _ (.head _))))) (sz_two hvm.length hx2) ?_; intro h7 F7 N7)))
  k_with "pyIter str" => k_state (fun pre (port : Int) => port = portOf pre) "port"
  k_with "pyIter ref" => k_of "k" => k_state_given ["due!"] (fun d0 pre due => due = d0 + 2 * diffs (linX cnt x0) (linX cnt x1) pre.length) "due"
  k_with "state" => first | (with_reducible rfl) | exact port_0 | exact port_step (by assumption) | (with_reducible exact diffs_0) | exact diffs_1 (by with_reducible assumption) (by with_reducible assumption) (by with_reducible assumption) | exact diffs_2 (by with_reducible assumption) (by with_reducible assumption) (by with_reducible assumption)
  k_with "my cut" => k_dflt (
    refine kba_turn (value' := PySem.Expr.Name (PySem.Str.ofString "_") ⟨0, 0, 0, 0⟩) (fun _ => rfl) ?_
    rename Fr _ _ _ _ => lF'
    rename News _ _ _ _ => lN'
    refine' kmk_slice_ints lF' lN' (isList_of lN' (.head _)) (.int _ _) .none (ns := [5, 46]) ?i (kmk_from ?i ?zm) rfl ?_ ?s ?t ?z
    case i => exact .cons _ _ (.cons _ _ .nil)
    case zm => exact Int.natCast_nonneg _
    case s => with_unfolding_all rfl
    case t => (intro _; with_unfolding_all rfl)
    case z => exact Nat.le_of_ble_eq_true rfl
    intro D2 ws2 h2 F2 N2 l2 hI2 hC2 hL2)
  k_with "law for" => k_dflt (refine wpAny_For ?_ (by intro _; rfl))
  k_with "pyIter ref" => (
    (with_reducible show wpAny _ _ _ (fun _ _ => codeAny _ _ _ _ _) _ _)
    subst kInv
    rename Fr _ _ _ _ => lF'
    rename News _ _ _ _ => lN'
    rename IntsAre _ (List.take 2 _ ++ _) => hI9
    obtain ⟨xs, hxs⟩ : ∃ xs, xs = List.take 2 w9 ++ List.drop ((w9.length : Nat) : Int).toNat [5, 46] := ⟨_, rfl⟩
    rw [← hxs] at hI9
    k_dflt (
      refine for_tok (fig := fig) (cnt := cnt) lF' rfl rfl rfl rfl rfl rfl rfl ?_
      intro t1 t2 t3 t4 u0 rp ru mk e5 e6 e7 lF2 hps
      subst e5
      subst e6
      subst e7
      obtain ⟨d12, d13, d23⟩ := ne_chain (a := rp) (b := ru) (c := mk) (by assumption) (by assumption)
      have d4 := ne_last (a := rp) (b := ru) (c := mk) (by assumption)
      have hx2 : xs.length = 2 := by rw [hxs]; exact take2_len
      refine' for_inv (TurnJ fig cnt xs rp ru mk) _ (rest := []) rfl lF2 ?zN hI9 hps hbare (turnJ_0 (c1 := 0) (c2 := 0) (c3 := 0)) ?zd rfl rfl rfl ?turn ?done
      case zd =>
        intro q hq p hp
        rw [List.mem_singleton.mp hp]
        simp only [List.mem_cons, List.not_mem_nil, or_false] at hq
        rcases hq with rfl | rfl | rfl <;> first | exact d4.1 | exact d4.2.1 | exact d4.2.2
      case zN =>
        intro p hp
        simp only [List.cons_append, List.nil_append, List.mem_cons, List.not_mem_nil, or_false] at hp
        rcases hp with rfl | rfl | rfl | rfl <;> exact lN' _ (by k_mem)
      case' turn =>
        intro i y t u nx keep s' hy hJ hb hos F1 hdk N1
        obtain ⟨vr, c1, vu, c2, vm, c3, rfl, hvr, hvu, hvm⟩ := hJ
        obtain ⟨h9, g9, d9, k9, o9⟩ := s'
        dsimp only [lawPs, kstB] at hb hos F1 N1
        simp only [List.cons_append, List.nil_append] at N1
        obtain ⟨hl1, hl2, hl3⟩ := lin_bds (cnt := cnt) (y := y) hc6
        obtain ⟨hy1, hy2⟩ := way_bds y
        obtain ⟨hz1, hz2⟩ := fmod_b (y := y) (c := cnt) (by omega)
        obtain ⟨hm1, hm2⟩ := fmod_b (y := y.fdiv 128) (c := 3) (by decide)
        obtain ⟨hr1, hr2, hr3, hr4, hr5⟩ := row_facts hl1 hl2 hc4 hc6 hy1 hy2
        have hf6 : fig.length ≤ 6 := by omega
        have hwp := written_plain (fig := fig) hfl hl1 hl2 hc4 hc6 hy1 hy2
        refine abs_post ?_
        intro QT eQT
      case' done =>
        intro u nx s' hJ hb hos F1 N1
        obtain ⟨vr, c1, vu, c2, vm, c3, rfl, hvr, hvu, hvm⟩ := hJ
        obtain ⟨h9, g9, d9, k9, o9⟩ := s'
        obtain ⟨x0, x1, rfl⟩ := two_of hx2
        change StrsAre vr [repX fig cnt x0, repX fig cnt x1] at hvr
        change IntsAre vu [linX cnt x0, linX cnt x1] at hvu
        change StrsAre vm [markX x0, markX x1] at hvm
        obtain ⟨ta, tb, rfl⟩ := strs_two hvr
        obtain ⟨te, tf, rfl⟩ := strs_two hvm
        obtain ⟨tc, td, rfl⟩ := ints_two hvu
        dsimp only [lawPs, kstB] at hb hos F1 N1
        simp only [List.cons_append, List.nil_append] at N1
        dsimp only))
  repeat' (first | (k_unfold; (try dsimp only)) | walk1 | (dsimp only; walk1) | (leave1; (try dsimp only)) | fail "no step")
  all_goals first
    | (rw [eQT]; exact turn_end hy hvr hvu hvm F7 N7 (by (dsimp only [lawPs]; kst_all1)) (by assumption) hos)
    | (have hL := lev_fin hfl hfo hc4 hc6 (by with_reducible assumption) (by first | exact d0_ne (by with_reducible assumption) | exact d0_eq (by with_reducible assumption) | exact d0_eq' (by with_reducible assumption)) (fmod_b (by decide)).1 hlev
       refine law_good (by assumption) hb hos ?_
       first
         | exact beq_iff_eq.mpr (hL.1 (.inl (by with_reducible assumption)))
         | exact beq_iff_eq.mpr (hL.1 (.inr (by with_reducible assumption)))
         | exact decide_eq_true (hL.2 (fun q => q.elim (fun r => absurd r (by with_reducible assumption)) (fun r => absurd r (by with_reducible assumption)))).2
         | exact decide_eq_true (hL.2 (fun q => q.elim (fun r => absurd r (by with_reducible assumption)) (fun r => absurd r (by with_reducible assumption)))).1))
end
end Mine
theorem PySem.Challenge.cw_wn0048_01_holds : PySem.Challenge.rw_wn0048_01.Holds :=
  Mine.law_ends
