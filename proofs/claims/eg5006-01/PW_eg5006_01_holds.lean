import PyProof.Rows.All
import Wide.All
import OpenK.AllK
import Wide.FinOn
import Lean
import PySem.Challenge.RW_eg5006_01
section
open PySem PySem.W PyProof.Rows
set_option Elab.async false
namespace Mine
set_option maxRecDepth 100000 in
set_option maxHeartbeats 8000000 in
open_top hd for PySem.Challenge.rw_eg5006_01
end Mine
end

section
open PySem PySem.W PyProof.Rows
set_option Elab.async false
set_option maxRecDepth 100000
namespace Mine

/-- what stood at the call stands behind it -/
def KeepR (g : Heap) (R : Result → Shared → Prop) (r : Result) (s' : Shared) : Prop := g.StaysIn s'.heap → R r s'

section
variable {prog : Program} {w : World} {A A₀ : Around} {s : Shared} {K : Frag} {L : Addr} {h₀ base : Heap} {m mg mb : Str → Option Value} {p : Program} {loose : List Str} {mean : ExcName → Option Value}

theorem codeP {env : Env} {outer : List Env} {R : Result → Shared → Prop} {name qual : Str} {params : Arguments} {body : List Stmt} {scope : Scope} {dV kV doc pm cdv ct oc : Value} {an od : Option Addr} {osl : Array (Option Value)} {f : Addr} {args : Args} {binds : List (Str × Value)}
    (B : Below A₀ base outer h₀) (F : Fr h₀ L s.heap m) (X₀ : K.In h₀) (T : Top p loose mean mg mb h₀) (hA : A.frames = some (env :: outer)) (hf : env.frame = some L) (hke : env.scope.kind = .function)
    (ho : K.lookup f = some ⟨oc, od, .func (fnOf name qual params body scope dV kV doc pm an cdv ct), osl⟩) (hcd : codeIn K cdv qual = true) (hroom : A.depth < recursionLimit)
    (hbind : BindsTo s (fnOf name qual params body scope dV kV doc pm an cdv ct) args binds) (hloc : ∀ y ∈ binds, scope.names.lookup y.1 = some .local)
    (h : ∀ g L' h₁, Fr h₀ L g m → Fr g L' h₁ (fun y => binds.reverse.lookup y) → News g L' h₁ [] → Below A base (env :: outer) g → K.In g → Top p loose mean mg mb g →
      wpAny (model prog w) (A.deeper (envOf qual scope L' f cdv)) (execs body (envOf qual scope L' f cdv))
        (fun fl s' => LeaveK h₀ L m g (KeepR s.heap R) (match fl with | .ret v => v | _ => .none) s')
        (fun e s' => wpAny (model prog w) (A.deeper (envOf qual scope L' f cdv)) (leaving (envOf qual scope L' f cdv) e) (fun _ s'' => R (.error e) s'') (fun e' s'' => R (.error e') s'') s')
        { s with heap := h₁, toks := s.toks + binds.length })
    (hco : scope.isCoroutine = false) (hgen : scope.isGenerator = false) (hk : scope.kind = .function)
    (hcell : ∀ x ∈ scope.names, x.2 ≠ .cell) : codeAny (model prog w) A (.call (.ref f) args) R s := by
  have N : News h₀ L s.heap [] := News.nil
  obtain ⟨FG, BG, st, lv⟩ := groundX (R := KeepR s.heap R) B F N hA hf hke
  have X := X₀.keeps st
  refine codeAny_call_def (fd := fnOf name qual params body scope dV kV doc pm an cdv ct) (body := body) (binds := binds) hroom ((X₀.keeps F.keep) _ _ ho) rfl (T.nolimit.keeps F.keep) (codeRec_of (X₀.keeps F.keep) hcd) rfl hbind hcell hloc (fun h₁ hns hk₁ => ?_) hco hgen hk
  refine wpAny_mono (h _ s.heap.objs.size h₁ FG ⟨hns, fun b o e => hk₁ b o (of_hideAll _ e), Nat.le_of_eq (hideAll_size _ _)⟩
    News.nil BG (X₀.keeps st) (T.keeps st)) (fun fl s' hl => ?_) fun _ _ y => y
  have hk := lv _ _ hl
  obtain ⟨L', m', news', F', N', k⟩ := hl
  exact hk F'.keep
end

/-- a contract of a def that writes into nothing that stands: called with these arguments it gives back R -/
def Gives (lv : Nat) (w : World) (p : Program) (loose : List Str) (mean : ExcName → Option Value) (mg mb : Str → Option Value) (f : Addr) (pos : List Value) (kw : List (Str × Value)) (R : Tok → Value) : Prop :=
  ∀ (dp un : Nat) (gd : Option (List Code)) (cn : Str) (cs : Scope) (a : Addr) (ccd : Value) (cl : List (Str × Addr)) (outer : List Env) (A₀ : Around) (base h₀ : Heap) (L : Addr) (m : Str → Option Value) (s : Shared) (Q E : Value → Shared → Prop),
    Below A₀ base outer h₀ → Fr h₀ L s.heap m → (hd.heap_39 w.params).In h₀ → Top p loose mean mg mb h₀ → cs.kind = .function → dp + lv + 4 < recursionLimit → un + 8 * lv + 40 < cLine →
    (∀ t h' tk', s.heap.StaysIn h' → Q (R t) { s with heap := h', toks := tk' }) →
    wpAny (model PySem.Challenge.rw_eg5006_01.row.prog w) (ktrTop dp un gd cn cs L a ccd cl outer) (call (.ref f) pos kw) Q E s

end Mine
end

section
open PySem PySem.W PySem.Calls PySem.Builtin PyProof.Rows
set_option Elab.async false
set_option maxRecDepth 100000
namespace Mine

/-- small octets -/
def Sm (b : Array UInt8) : Prop := b.size ≤ 4096

theorem bytes_slot_lstrip : Slot "bytes" "lstrip" "bytes.lstrip" :=
  .of (owner := "bytes") (n := "lstrip") (by rw [typeLookup_type, builtinLookup_eq_fast]; kernel_rfl) (by decide +kernel) (by decide +kernel) (by decide +kernel)
    (by first | exact .inl (by decide +kernel) | exact .inr (by decide +kernel)) (by rw [isSubtype_type]; kernel_rfl)
theorem bytes_type_lstrip : typeOf (.builtin "bytes.lstrip") = pure (.type "method_descriptor") := by show builtinType _ = _; rw [builtinType_eq_fast]; kernel_rfl
theorem bytes_entry_lstrip : entryFor table "bytes.lstrip" = some Builtin.«bytes.lstrip» := entryFor_of_tree (by kernel_rfl)
theorem bytes_args_lstrip (a b : Value) : argsOk "bytes.lstrip" ⟨[a, b], []⟩ := by
  unfold argsOk; kernel_rfl
theorem bytes_slot_rstrip : Slot "bytes" "rstrip" "bytes.rstrip" :=
  .of (owner := "bytes") (n := "rstrip") (by rw [typeLookup_type, builtinLookup_eq_fast]; kernel_rfl) (by decide +kernel) (by decide +kernel) (by decide +kernel)
    (by first | exact .inl (by decide +kernel) | exact .inr (by decide +kernel)) (by rw [isSubtype_type]; kernel_rfl)
theorem bytes_type_rstrip : typeOf (.builtin "bytes.rstrip") = pure (.type "method_descriptor") := by show builtinType _ = _; rw [builtinType_eq_fast]; kernel_rfl
theorem bytes_entry_rstrip : entryFor table "bytes.rstrip" = some Builtin.«bytes.rstrip» := entryFor_of_tree (by kernel_rfl)
theorem bytes_args_rstrip (a : Value) : argsOk "bytes.rstrip" ⟨[a], []⟩ := by
  unfold argsOk; kernel_rfl

def lst (b c : Array UInt8) : Array UInt8 := (b.toList.dropWhile fun x => c.contains x).toArray
def NoSp (b : Array UInt8) : Prop := ∀ c ∈ b.toList, Bytes.isSpace c = false

theorem length_dropWhile_le {α : Type} (p : α → Bool) : ∀ l : List α, (l.dropWhile p).length ≤ l.length
  | [] => Nat.le_refl _
  | x :: r => by
    rw [List.dropWhile_cons]
    split
    · exact Nat.le_succ_of_le (length_dropWhile_le p r)
    · exact Nat.le_refl _
theorem dropWhile_whole {α : Type} (p : α → Bool) (l : List α) (h : (l.dropWhile p).length = l.length) : l.dropWhile p = l := by
  cases l with
  | nil => rfl
  | cons x r =>
    rw [List.dropWhile_cons] at h ⊢
    split
    · rename_i hp
      rw [if_pos hp] at h
      have := length_dropWhile_le p r
      rw [List.length_cons] at h
      omega
    · rfl
theorem dropWhile_none {α : Type} (p : α → Bool) (l : List α) (h : ∀ x ∈ l, p x = false) : l.dropWhile p = l := by
  cases l with
  | nil => rfl
  | cons x r =>
    rw [List.dropWhile_cons, if_neg (by rw [h x (.head _)]; exact Bool.false_ne_true)]

theorem size_lst (b c : Array UInt8) : (lst b c).size ≤ b.size := by
  unfold lst
  rw [List.size_toArray]
  have := length_dropWhile_le (fun x => c.contains x) b.toList
  rwa [Array.length_toList] at this

section
variable {b c : Array UInt8} {t u : Tok}
theorem like_eq {id : String} : Bytes.bytesLike id (.bytes b t) = pure b := KBd.like_eq

theorem meets_lstrip : Meets («bytes.lstrip» ⟨[.bytes b t, .bytes c u], []⟩) (fun _ R s => b.size ≤ sizeLine ∧ ∀ t' k, R (.ok (.ret (.bytes (lst b c) t'))) { s with toks := k }) := by
  refine .of_wp fun prog w A R s hS => ?_
  obtain ⟨hsz, h⟩ := hS
  show wpAny _ _ (Bytes.stripM .bytes "lstrip" true false ⟨[.bytes b t, .bytes c u], []⟩) _ _ s
  unfold Bytes.stripM
  refine wpAny_bind (wpAny_of_eq (a := (.bytes b t, [.bytes c u])) (by kernel_rfl) ?_)
  refine wpAny_bind (wpAny_of_eq like_eq ?_)
  refine wpAny_bind (wpAny_pure ?_)
  refine wpAny_bind (wpAny_of_eq (a := b) rfl ?_)
  by_cases hl : ((b.toList.dropWhile c.contains).length == b.size) = true
  · refine wpAny_ite ?_
    rw [if_pos (by simpa using hl)]
    refine wpAny_bind (wpAny_rule ?_)
    refine wpAny_bind ?_
    unfold Bytes.Kind.same
    rw [if_pos (by decide)]
    refine wpAny_bind (wpAny_typeOf (typeIs_bytes _ b t) ?_)
    rw [if_pos (by decide)]
    refine wpAny_pure (wpAny_pure ⟨_, rfl, ?_⟩)
    have e : lst b c = b := by
      unfold lst
      have h2 : (b.toList.dropWhile c.contains).length = b.toList.length := by
        rw [Array.length_toList]; exact beq_iff_eq.mp hl
      have h3 := dropWhile_whole _ _ h2
      show (b.toList.dropWhile c.contains).toArray = b
      rw [h3]
    have h' := fun k => h t k
    rw [e] at h'
    exact h' _
  · refine wpAny_ite ?_
    rw [if_neg (by simpa using hl)]
    refine wpAny_bind ?_
    refine wpAny_mkBytes (wpAny_pure ⟨_, rfl, h _ _⟩) ?_
    exact Nat.le_trans (size_lst b c) hsz

theorem meets_rstrip (hn : NoSp b) : Meets («bytes.rstrip» ⟨[.bytes b t], []⟩) (fun _ R s => ∀ t' k, R (.ok (.ret (.bytes b t'))) { s with toks := k }) := by
  refine .of_wp fun prog w A R s h => ?_
  show wpAny _ _ (Bytes.stripM .bytes "rstrip" false true ⟨[.bytes b t], []⟩) _ _ s
  unfold Bytes.stripM
  refine wpAny_bind (wpAny_of_eq (a := (.bytes b t, [])) (by kernel_rfl) ?_)
  refine wpAny_bind (wpAny_pure ?_)
  refine wpAny_bind (wpAny_of_eq (a := b) rfl ?_)
  have e : (b.toList.reverse.dropWhile Bytes.isSpace).reverse = b.toList := by
    rw [dropWhile_none _ _ (fun x hx => hn x (List.mem_reverse.mp hx)), List.reverse_reverse]
  refine wpAny_ite ?_
  rw [if_pos (by simp only [if_true, Bool.false_eq_true, if_false]; rw [e, Array.length_toList]; exact beq_self_eq_true _)]
  refine wpAny_bind (wpAny_rule ?_)
  refine wpAny_bind ?_
  unfold Bytes.Kind.same
  rw [if_pos (by decide)]
  refine wpAny_bind (wpAny_typeOf (typeIs_bytes _ b t) ?_)
  rw [if_pos (by decide)]
  exact wpAny_pure (wpAny_pure ⟨_, rfl, h t _⟩)
end

section
variable {prog : Program} {w : World} {A : Around} {E : Value → Shared → Prop} {s : Shared} {b c : Array UInt8} {t u : Tok} {Q : Value → Shared → Prop}
theorem m_lstrip {M : Model} {pl : Sem Bool} {Q : Value × List Value → Shared → Prop} (h : Q (.builtin "bytes.lstrip", [.bytes b t]) s) : wpAny M A (getMethod (.bytes b t) "lstrip" pl) Q E s := by
  with_reducible exact KBd.method_of (.bytes b t) (typeIs_bytes _ _ _) bytes_slot_lstrip bytes_type_lstrip KBd.noRef h
theorem m_rstrip {M : Model} {pl : Sem Bool} {Q : Value × List Value → Shared → Prop} (h : Q (.builtin "bytes.rstrip", [.bytes b t]) s) : wpAny M A (getMethod (.bytes b t) "rstrip" pl) Q E s := by
  with_reducible exact KBd.method_of (.bytes b t) (typeIs_bytes _ _ _) bytes_slot_rstrip bytes_type_rstrip KBd.noRef h
theorem r_lstrip (hb : Sm b) (h : ∀ t' k, Q (.bytes (lst b c) t') { s with toks := k }) : wpAny (model prog w) A (call (.builtin "bytes.lstrip") [.bytes b t, .bytes c u]) Q E s :=
  call_meets bytes_slot_lstrip (typeIs_bytes _ _ _) bytes_entry_lstrip (bytes_args_lstrip _ _) meets_lstrip ⟨by rw [sizeLine_eq]; exact Nat.le_trans hb (by decide), h⟩
theorem r_rstrip (hn : NoSp b) (h : ∀ t' k, Q (.bytes b t') { s with toks := k }) : wpAny (model prog w) A (call (.builtin "bytes.rstrip") [.bytes b t]) Q E s :=
  call_meets bytes_slot_rstrip (typeIs_bytes _ _ _) bytes_entry_rstrip (bytes_args_rstrip _) (meets_rstrip hn) h
theorem r_add (hb : Sm b) (hc : Sm c) (h : ∀ t' k, Q (.bytes (b ++ c) t') { s with toks := k }) : wpAny (model prog w) A (binaryOp .Add (.bytes b t) (.bytes c u)) Q E s :=
  KBy.add_bytes (by unfold Sm at hb hc; omega) h
theorem r_len (hb : Sm b) (h : ∀ t' k, Q (.int (b.size : Int) t') { s with toks := k }) : wpAny (model prog w) A (call (.builtin "len") [.bytes b t]) Q E s :=
  len_bytes (by unfold Sm at hb; omega) (h _ _)
theorem r_slice {value slice : PySem.Expr} {h₀ : Heap} {L : Addr} {m : PySem.Str → Option Value} {news : List (Addr × Obj)} {l r : Value} {lo hi : Option Int} (hF : Fr h₀ L s.heap m) (hN : News h₀ L s.heap news) (hl : IsPart l lo) (hu : IsPart r hi) (hb : Sm b)
    (h : ∀ h' t' k, Fr h₀ L h' m → News h₀ L h' news → Q (.bytes (KBy.picked b lo hi) t') { s with heap := h', toks := k })
    (hs : subscripted slice false (.bytes b t) (.ref s.heap.objs.size) = operate [.ref s.heap.objs.size, .bytes b t] (getItem (.bytes b t) (.ref s.heap.objs.size)) := by with_unfolding_all rfl)
    (ht : ∀ r, letTemporaryGo value (.bytes b t) r = pure () := by intro _; with_unfolding_all rfl) :
    wpAny (model prog w) A (subscriptTail value slice (.bytes b t) (.ref s.heap.objs.size)) Q E { s with heap := s.heap.push { cls := .type "slice", data := .fields #[l, r, .none] } } :=
  KBc.slice_K hF hN rfl hl hu (by rw [KBw.ints_length]; unfold Sm at hb; omega) (fun h' t' k F N _ => h h' t' k F N) hs ht
end

theorem sm_lst {b c : Array UInt8} (h : Sm b) : Sm (lst b c) := Nat.le_trans (size_lst b c) h
theorem sm_picked {b : Array UInt8} {lo hi : Option Int} (h : Sm b) : Sm (KBy.picked b lo hi) := Nat.le_trans (KBc.size_picked_le b lo hi) h
theorem sm_of {b : Array UInt8} {n : Nat} (h : b.size = n) (hn : n ≤ 4096) : Sm b := by unfold Sm; omega
theorem sm_lit {l : List UInt8} (h : Nat.ble l.length 4096 = true) : Sm l.toArray := by unfold Sm; rw [List.size_toArray]; exact Nat.le_of_ble_eq_true h
end Mine
end

section
open PySem PySem.W PySem.Calls PySem.Builtin PyProof.Rows
set_option Elab.async false
set_option maxRecDepth 100000
namespace Mine

/-- the number that octets write, the greatest first -/
def beVal (l : List UInt8) : Nat := l.foldl (fun (acc : Nat) (b : UInt8) => acc * 256 + b.toNat) 0

section
variable {prog : Program} {w : World} {M : Model} {A : Around} {E : Value → Shared → Prop} {s : Shared} {K : Frag} {h₀ : Heap} {L : Addr} {m : PySem.Str → Option Value} {news : List (Addr × Obj)}

theorem grown_big {n k : Nat} {Q : Value → Shared → Prop} (hn : n < 2 ^ k) (hk : k ≤ 100000) (h : Q (.int (n : Int) s.toks) { s with toks := s.toks + 1 }) : wpAny M A (mkIntGrown (n : Int)) Q E s := by
  unfold mkIntGrown
  have hl : ¬ ((n : Int).natAbs.log2 ≥ bitsLine) := by
    rw [Int.natAbs_natCast]
    have hb : bitsLine = 134217728 := by decide
    by_cases hz : n = 0
    · subst hz
      rw [hb]
      decide
    · have h1 := (Nat.log2_lt hz).mpr hn
      omega
  rw [if_neg hl]
  exact wpAny_mkInt h

theorem fb_tree {b : Array UInt8} {t u : Tok} {P : Fin → Shared → Prop} (hl : Sm b) (h : P (.done (.ret (.int (beVal b.toList : Int) s.toks))) { s with toks := s.toks + 1 }) :
    wpAny M A (Builtin.«int.from_bytes» ⟨[.type "int", .bytes b t], [(PySem.Str.ofString "byteorder", .str (PySem.Str.ofString "big") u)]⟩) P E s := by
  have hn : b.toList.foldl (fun (acc : Nat) (b : UInt8) => acc * 256 + b.toNat) 0 < 2 ^ (8 * 4096) := by
    have h1 := KFB.fold_lt b.toList 0
    rw [Nat.zero_add, Nat.one_mul, Array.length_toList] at h1
    have h2 : 256 ^ b.size ≤ 256 ^ 4096 := Nat.pow_le_pow_right (by decide) hl
    have h3 : (256 : Nat) ^ 4096 = 2 ^ (8 * 4096) := by rw [Nat.pow_mul]
    omega
  unfold Builtin.«int.from_bytes»
  refine wpAny_bind (wpAny_of_eq (a := true) KFB.type_int ?_)
  refine KFB.if_not rfl ?_
  refine wpAny_bind (wpAny_of_eq (a := true) F.conv_sub_int ?_)
  refine KFB.if_not rfl ?_
  refine wpAny_bind (wpAny_of_eq (a := [some (.bytes b t), some (.str (PySem.Str.ofString "big") u), none]) (by kernel_rfl) ?_)
  refine wpAny_bind (wpAny_of_eq (a := PySem.Str.ofString "big") (by kernel_rfl) ?_)
  refine wpAny_bind (wpAny_of_eq (a := false) rfl ?_)
  refine wpAny_bind (wpAny_of_eq (a := false) (by kernel_rfl) ?_)
  refine wpAny_bind (wpAny_of_eq (a := b) rfl ?_)
  show wpAny _ _ (mkIntGrown (b.toList.foldl (fun (acc : Int) (b : UInt8) => acc * 256 + (b.toNat : Int)) ((0 : Nat) : Int)) >>= fun v => _) _ _ _
  rw [KFB.foldI_eq]
  refine wpAny_bind (grown_big hn (by decide) ?_)
  refine KFB.if_so (by decide +kernel) ?_
  exact wpAny_bind (wpAny_pure (wpAny_pure h))
theorem fb_check {b : Array UInt8} {t u : Tok} {o : PySem.Str} : checkBoundCall "int.from_bytes" ⟨[.type "int", .bytes b t], [(PySem.Str.ofString "byteorder", .str o u)]⟩ = pure () := by first | kernel_rfl | rfl
theorem fb_quiet {as : Args} : (Code.builtin "int.from_bytes" as).quiet = true := Code.quiet_builtin _ (by decide +kernel)
theorem fb_call {x : Addr} {b : Array UInt8} {t u : Tok} {Q : Value → Shared → Prop} (N : News h₀ L s.heap news) (hm : (x, KFB.bound) ∈ news) (hb : Sm b)
    (h : ∀ t' k, Q (.int (beVal b.toList : Int) t') { s with toks := k }) : wpAny (model prog w) A (call (.ref x) [.bytes b t] [(PySem.Str.ofString "byteorder", .str (PySem.Str.ofString "big") u)]) Q E s := by
  have ho : KFB.StandsAt x s.heap := KFB.at_of N hm
  refine wpAny_call (codeAny_of_tree ?_)
  show wpAny _ A.in1 (callAny (.ref x) ⟨[.bytes b t], [(PySem.Str.ofString "byteorder", .str (PySem.Str.ofString "big") u)]⟩) _ _ s
  simp only [callAny]
  refine wpAny_bind (wpAny_load ho ?_)
  simp only [KFB.bound, show (Value.type "builtin_function_or_method" == Value.type "method" || Value.type "builtin_function_or_method" == Value.type "builtin_function_or_method" || Value.type "builtin_function_or_method" == Value.type "method-wrapper") = true by decide, if_true]
  refine KFB.if_so (by decide) ?_
  refine wpAny_bind (wpAny_of_eq (a := ()) fb_check ?_)
  refine wpAny_bind (wpAny_pure (wpAny_pure ?_))
  exact ⟨fb_quiet, codeAny_builtin KFB.entry_fb (fb_tree hb (h _ _))⟩
theorem fb_with {pos : Pos} {u : Addr} {first : List Value} {env : Env} {e : Expr} {rest : List Expr} {kws : List Keyword} {Q : Value → Shared → Prop} (_N : News h₀ L s.heap news) (_hm : (u, KFB.bound) ∈ news) (hall : (backToKw pos (keywordEach kws env)).all (·.1.isSome) = true)
    (h : wpAny M A (spliced (backTo pos (starEach (e :: rest) env))) (fun vs s₁ => wpAny M A (evalAll ((backToKw pos (keywordEach kws env)).map (·.2)))
      (fun ks s₂ => KFB.StandsAt u s₂.heap ∧ wpAny M A (call (.ref u) (first ++ vs) (((backToKw pos (keywordEach kws env)).filterMap (·.1)).zip ks)) Q E s₂) E s₁) E s)
    (hplain : ((backTo pos (starEach (e :: rest) env)).any (·.1) || (backToKw pos (keywordEach kws env)).any (·.1.isNone)) = false := by rfl) (he : starEach (e :: rest) env = (false, eval e env) :: starEach rest env := by rfl) :
    wpAny M A (callWith pos (.ref u) first (backTo pos (starEach (e :: rest) env)) (backToKw pos (keywordEach kws env))) Q E s := by
  unfold callWith
  refine wpAny_bind (wpAny_holding (wpAny_mono (evalArgs_kw2 (Q := fun x s₁ => KFB.StandsAt u s₁.heap ∧ wpAny M A (call (.ref u) (first ++ x.pos) x.kw) Q E s₁) hall h he) (fun x s₁ h₁ => wpAny_bind (wpAny_standAt ?_)) fun _ _ x => x))
  obtain ⟨ho, hcall⟩ := h₁
  simp only [hplain]
  refine wpAny_bind (m := keeperOf (.ref u)) ?_
  unfold keeperOf
  refine wpAny_bind (wpAny_load ho ?_)
  simp only [KFB.bound, show (Value.type "builtin_function_or_method" != Value.type "method") = true by decide, show (Value.type "builtin_function_or_method" == Value.type "builtin_function_or_method" || Value.type "builtin_function_or_method" == Value.type "method-wrapper") = true by decide, if_true]
  refine wpAny_pure ?_
  exact wpAny_bind (wpAny_mono hcall (fun r s₂ hr => wpAny_bind (wpAny_holding (wpAny_point (wpAny_pure hr)))) fun _ _ x => x)
end

section
variable {s : Shared} {K : Frag}
theorem binds_KK {fd : FuncData} {args : Args} {binds : List (PySem.Str × Value)} {T D : Addr} {o od : Obj} {items : Array Value} {n : Nat} {k k2 : _ → Sem (List (PySem.Str × Value))} {name : PySem.Str} {r : Option Value} (X : K.In s.heap) (hd : fd.defaults = .ref T) (ho : K.lookup T = some o) (hs : o.data = .seq items n)
    (h₁ : bindArgs fd args = seqItems? fd.defaults >>= k) (h₂ : k (some items) = nsGet D name >>= k2) (hD : K.lookup D = some od) (hn : nsLook name od = pure r) (h₃ : k2 r = pure binds) : BindsTo s fd args binds := by
  intro M A E Q hq
  rw [h₁, hd]
  refine wpAny_bind (wpAny_seqItems (X _ _ ho) hs ?_)
  rw [h₂]
  refine wpAny_bind ?_
  unfold nsGet
  refine wpAny_bind (wpAny_loadPart (X _ _ hD) ?_)
  rw [hn]
  exact wpAny_pure (h₃ ▸ wpAny_pure hq)
end

theorem KeepR.intro {g : Heap} {R : Result → Shared → Prop} {r : Result} {s' : Shared} (h : g.StaysIn s'.heap → R r s') : KeepR g R r s' := h

theorem Gives.use {lv : Nat} {w : World} {p : Program} {loose : List PySem.Str} {mean : ExcName → Option Value} {mg mb : PySem.Str → Option Value} {f : Addr} {pos : List Value} {kw : List (PySem.Str × Value)} {R : Tok → Value}
    {dp un : Nat} {gd : Option (List Code)} {cn : PySem.Str} {cs : Scope} {a : Addr} {ccd : Value} {cl : List (PySem.Str × Addr)} {outer : List Env} {A₀ : Around} {base h₀ : Heap} {L : Addr} {m : PySem.Str → Option Value} {s : Shared} {news : List (Addr × Obj)} {Q E : Value → Shared → Prop}
    (C : Gives lv w p loose mean mg mb f pos kw R) (B : Below A₀ base outer h₀) (F : Fr h₀ L s.heap m) (X : (hd.heap_39 w.params).In h₀) (N : News h₀ L s.heap news) (T : Top p loose mean mg mb h₀) (hk : cs.kind = .function) (hd : dp + lv + 4 < recursionLimit) (hu : un + 8 * lv + 40 < cLine)
    (ret : ∀ t h' tk', Fr h₀ L h' m → News h₀ L h' news → Q (R t) { s with heap := h', toks := tk' }) :
    wpAny (model PySem.Challenge.rw_eg5006_01.row.prog w) (ktrTop dp un gd cn cs L a ccd cl outer) (call (.ref f) pos kw) Q E s :=
  C dp un gd cn cs a ccd cl outer A₀ base h₀ L m s Q E B F X T hk hd hu fun t h' tk' st => ret t h' tk' (F.keeps st) fun q hq => ⟨st _ _ (N q hq).1, (N q hq).2⟩
end Mine
end

section
open PySem PySem.W PySem.Calls PySem.Builtin PyProof.Rows
set_option Elab.async false
set_option maxRecDepth 100000
namespace Mine

def encGo (al : List UInt8) : Nat → Nat → List UInt8 → List UInt8
  | 0, _, acc => acc
  | f + 1, n, acc => if n = 0 then acc else encGo al f (n / 58) (al.getD (n % 58) 0 :: acc)

def EncInv (al : List UInt8) (N n₀ : Nat) (i : Int) (str : Array UInt8) : Prop :=
  0 ≤ i ∧ N ≤ 1000 ∧ ∃ j, i.toNat < 58 ^ j ∧ str.size + j = N ∧ encGo al j i.toNat str.toList = encGo al N n₀ []

theorem EncInv.sm {al : List UInt8} {N n₀ : Nat} {i : Int} {str : Array UInt8} (h : EncInv al N n₀ i str) : Sm str := by
  obtain ⟨_, h1, j, _, h2, _⟩ := h
  unfold Sm; omega

theorem picked_one {b : Array UInt8} {k : Int} (h0 : 0 ≤ k) (h1 : k < b.size) : KBy.picked b (some k) (some (k + 1)) = #[b.toList.getD k.toNat 0] := by
  rw [KBc.picked_eq]
  obtain ⟨n, rfl⟩ := Int.eq_ofNat_of_zero_le h0
  have hn : n < b.toList.length := by rw [Array.length_toList]; omega
  have e1 : clipAt b.size (n : Int) = n := by
    have := clipAt_cast b.size (n : Int)
    omega
  have e2 : clipAt b.size ((n : Int) + 1) = n + 1 := by
    have := clipAt_cast b.size ((n : Int) + 1)
    omega
  show ((b.toList.drop (clipAt b.size (n : Int))).take (clipAt b.size ((n : Int) + 1) - clipAt b.size (n : Int))).toArray = _
  rw [e1, e2, List.drop_eq_getElem_cons hn, show n + 1 - n = 1 by omega, List.take_succ_cons, List.take_zero, Int.toNat_natCast, List.getD_eq_getElem?_getD, List.getElem?_eq_getElem hn]
  rfl
theorem picked01 {b : Array UInt8} (h : b.size = 58) : KBy.picked b (some 0) (some 1) = #[b.toList.getD 0 0] := picked_one (by decide) (by omega)

theorem EncInv.turn {al : Array UInt8} (hal : al.size = 58) {N n₀ : Nat} {i : Int} {str : Array UInt8} (h : EncInv al.toList N n₀ i str) (hne : i ≠ 0) :
    EncInv al.toList N n₀ (Int.fdiv i (al.size : Int)) (KBy.picked al (some (Int.fmod i (al.size : Int))) (some (Int.fmod i (al.size : Int) + 1)) ++ str) := by
  obtain ⟨h0, hN, j, hj, hs, he⟩ := h
  obtain ⟨n, rfl⟩ := Int.eq_ofNat_of_zero_le h0
  rw [hal]
  have ed : Int.fdiv (n : Int) ((58 : Nat) : Int) = ((n / 58 : Nat) : Int) := by
    rw [Int.fdiv_eq_ediv_of_nonneg _ (by decide)]; rfl
  have em : Int.fmod (n : Int) ((58 : Nat) : Int) = ((n % 58 : Nat) : Int) := by
    rw [Int.fmod_eq_emod_of_nonneg _ (by decide)]; rfl
  rw [ed, em, picked_one (by omega) (by omega)]
  have hn0 : n ≠ 0 := by omega
  rw [Int.toNat_natCast] at hj he
  cases j with
  | zero => rw [Nat.pow_zero] at hj; omega
  | succ j =>
    refine ⟨by omega, hN, j, ?_, ?_, ?_⟩
    · rw [Int.toNat_natCast]
      rw [Nat.pow_succ] at hj
      omega
    · rw [Array.size_append]; simp; omega
    · rw [← he, Int.toNat_natCast, Array.toList_append]
      conv => rhs; unfold encGo
      rw [if_neg hn0, Int.toNat_natCast]
      rfl
theorem EncInv.less {al : List UInt8} {n : Nat} (hal : n = 58) {N n₀ : Nat} {i : Int} {str : Array UInt8} (h : EncInv al N n₀ i str) (hne : i ≠ 0) : (Int.fdiv i (n : Int)).toNat < i.toNat := by
  obtain ⟨h0, _⟩ := h
  subst hal
  obtain ⟨n, rfl⟩ := Int.eq_ofNat_of_zero_le h0
  have ed : Int.fdiv (n : Int) ((58 : Nat) : Int) = ((n / 58 : Nat) : Int) := by
    rw [Int.fdiv_eq_ediv_of_nonneg _ (by decide)]; rfl
  rw [ed, Int.toNat_natCast, Int.toNat_natCast]
  omega
theorem EncInv.start {al : List UInt8} {N n : Nat} (hN : N ≤ 1000) (hi : n < 58 ^ N) : EncInv al N n (n : Int) #[] :=
  ⟨by omega, hN, N, by rw [Int.toNat_natCast]; exact hi, by simp, by rw [Int.toNat_natCast]⟩
theorem EncInv.done {al : List UInt8} {N n₀ : Nat} {i : Int} {str : Array UInt8} (h : EncInv al N n₀ i str) (hi : i = 0) : str = (encGo al N n₀ []).toArray := by
  subst hi
  obtain ⟨_, _, j, _, _, he⟩ := h
  have : encGo al j (0 : Int).toNat str.toList = str.toList := by
    cases j with
    | zero => rfl
    | succ j => unfold encGo; exact if_pos rfl
  rw [← he, this]

section
variable {prog : Program} {w : World} {A : Around} {E : Value → Shared → Prop} {s : Shared} {b c : Array UInt8} {t u : Tok} {Q : Value → Shared → Prop}
theorem r_mul {x : UInt8} {n : Int} (hb : b = #[x]) (h0 : 0 ≤ n) (h1 : n ≤ 4096) (h : ∀ t' k, Q (.bytes (List.replicate n.toNat x).toArray t') { s with toks := k }) :
    wpAny (model prog w) A (binaryOp .Mult (.bytes b t) (.int n u)) Q E s := by
  subst hb
  refine bytes_mul_any (b := [x]) (List.cons_ne_nil _ _) (by omega) (by omega) (Nat.le_of_ble_eq_true rfl) fun t' k => ?_
  have e : (List.replicate n.toNat [x]).flatten = List.replicate n.toNat x := by
    generalize n.toNat = j
    induction j with
    | zero => rfl
    | succ j ih => rw [List.replicate_succ, List.flatten_cons, ih, List.replicate_succ]; rfl
  rw [e]
  exact h t' k
end
theorem lead_lo {b c : Array UInt8} : 0 ≤ (b.size : Int) - ((lst b c).size : Int) := by have := size_lst b c; omega
theorem lead_hi {b c : Array UInt8} (h : Sm b) : (b.size : Int) - ((lst b c).size : Int) ≤ 4096 := by unfold Sm at h; omega

theorem beVal_lt (l : List UInt8) : beVal l < 256 ^ l.length := by
  have := KFB.fold_lt l 0
  rwa [Nat.zero_add, Nat.one_mul] at this
theorem beVal_fits {b c : Array UInt8} : beVal (lst b c).toList < 58 ^ (2 * b.size) := by
  have h1 := beVal_lt (lst b c).toList
  rw [Array.length_toList] at h1
  have h2 : 256 ^ (lst b c).size ≤ 256 ^ b.size := Nat.pow_le_pow_right (by decide) (size_lst b c)
  have h3 : 256 ^ b.size ≤ 3364 ^ b.size := Nat.pow_le_pow_left (by decide) _
  have h4 : 58 ^ (2 * b.size) = 3364 ^ b.size := by rw [Nat.pow_mul]
  omega

theorem GivesEnd {R : Tok → Value} {Q E : Value → Shared → Prop} {s s' : Shared} {h' : Heap} {tk' : Nat} {v : Value} (hret : ∀ t h' tk', s.heap.StaysIn h' → Q (R t) { s with heap := h', toks := tk' }) (hv : ∃ t, v = R t) (hs : s' = { s with heap := h', toks := tk' }) :
    KeepR s.heap (fun r s' => match r with | .ok (.ret v) => Q v s' | .ok _ => False | .error e => E e s') (.ok (.ret v)) s' := by
  intro hk
  obtain ⟨t, rfl⟩ := hv
  subst hs
  exact hret t h' tk' hk

/-- called with what binds to these names, the def gives back R -/
def GivesB (lv : Nat) (w : World) (p : Program) (loose : List PySem.Str) (mean : ExcName → Option Value) (mg mb : PySem.Str → Option Value) (f : Addr) (binds : List (PySem.Str × Value)) (R : Tok → Value) : Prop :=
  ∀ (pos : List Value) (kw : List (PySem.Str × Value)), (∀ (s : Shared) (fd : FuncData) (oc : Value) (od : Option Addr) (osl : Array (Option Value)), (hd.heap_39 w.params).In s.heap → (hd.heap_39 w.params).lookup f = some ⟨oc, od, .func fd, osl⟩ → BindsTo s fd ⟨pos, kw⟩ binds) →
    Gives lv w p loose mean mg mb f pos kw R
end Mine
namespace Mine
theorem encGo_len (al : List UInt8) : ∀ (f n : Nat) (acc : List UInt8), (encGo al f n acc).length ≤ f + acc.length
  | 0, _, acc => by unfold encGo; omega
  | f + 1, n, acc => by
    unfold encGo
    split
    · omega
    · have := encGo_len al f (n / 58) (al.getD (n % 58) 0 :: acc)
      rw [List.length_cons] at this
      omega
theorem sm_enc {al : List UInt8} {N n : Nat} (h : N ≤ 4096) : Sm (encGo al N n []).toArray := by
  unfold Sm; rw [List.size_toArray]
  have := encGo_len al N n []
  rw [List.length_nil] at this
  omega
theorem sm_rep {n : Int} {x : UInt8} (h : n ≤ 4096) : Sm (List.replicate n.toNat x).toArray := by
  unfold Sm; rw [List.size_toArray, List.length_replicate]; omega
/-- what b58encode gives back, by plain reckoning -/
def encSpec (al v : Array UInt8) : List UInt8 := List.replicate (v.size - (lst v #[0]).size) (al.toList.getD 0 0) ++ encGo al.toList (2 * v.size) (beVal (lst v #[0]).toList) []
theorem encSpec_is {al v : Array UInt8} : (List.replicate ((v.size : Int) - ((lst v #[0]).size : Int)).toNat (al.toList.getD 0 0)).toArray ++ (encGo al.toList (2 * v.size) (beVal (lst v #[0]).toList) []).toArray = (encSpec al v).toArray := by
  have e : ((v.size : Int) - ((lst v #[0]).size : Int)).toNat = v.size - (lst v #[0]).size := by omega
  unfold encSpec
  rw [e, List.append_toArray]
end Mine
end

section
open PySem PySem.W PySem.Calls PySem.Builtin PyProof.Rows
set_option Elab.async false
set_option maxRecDepth 100000
namespace Mine
open KBw (IsBytesIter)

section
variable {prog : Program} {w : World} {A : Around} {E : Value → Shared → Prop} {s : Shared} {b : Array UInt8} {t : Tok}

theorem nextOf_bytes_item {it : Addr} {i : Nat} {c : UInt8} {Q : Value → Shared → Prop} (hit : IsBytesIter s.heap it b t i) (hx : b[i]? = some c)
    (hQ : ∀ h', IsBytesIter h' it b t (i + 1) → Heap.SameBut it s.heap h' → Q (.int (c.toNat : Int) s.toks) { s with heap := h', toks := s.toks + 1 }) :
    wpAny (model prog w) A (Builtin.SmallTypes.nextOf (.ref it)) Q E s := by
  obtain ⟨o, ho, hc, hd⟩ := id hit
  unfold Builtin.SmallTypes.nextOf
  refine wpAny_bind (wpAny_callSpecial?_slot (name := PySem.Str.ofString "__next__") (KBw.iter_typeIs hit) KBw.slot_next
    (wpAny_call_entry KBw.slot_next (KBw.iter_typeIs hit) KBw.entry_next ?_ (KBw.args_next _)))
  show wpAny _ _ (field (.ref it) 0 >>= _) _ _ s
  refine wpAny_bind (wpAny_field ho hd (x := .bytes b t) rfl ?_)
  show wpAny _ _ (if (Value.bytes b t == Value.none) = true then _ else _) _ _ s
  rw [if_neg (show ¬ ((Value.bytes b t == Value.none) = true) from Bool.false_ne_true)]
  show wpAny _ _ (field (.ref it) 1 >>= _) _ _ s
  refine wpAny_bind (wpAny_field ho hd (x := .int i 0) rfl ?_)
  refine wpAny_bind (wpAny_of_eq (a := b) rfl ?_)
  simp only [Int.toNat_natCast, hx]
  refine wpAny_bind (wpAny_setField ho hd (by simp) (wpAny_bind (wpAny_mkInt (wpAny_pure ⟨_, rfl, wpAny_pure (hQ _ ?_ (Heap.SameBut.update ..))⟩))))
  exact ⟨_, Heap.get?_update_self _ ho (Obj.isFreed_of_fields (Obj.data_mapFields hd _)), (Obj.cls_mapFields ..).trans hc, by
    rw [Obj.data_mapFields hd]; simp [rawInt]⟩

theorem nextOf_bytes_end {it : Addr} {i : Nat} {Q : Value → Shared → Prop} (hh : A.handled = none) (hit : IsBytesIter s.heap it b t i) (hx : b[i]? = none)
    (hE : ∀ h' e, Heap.ExtBut it s.heap h' → (∃ o, h'.get? e = some o ∧ o.cls = .type "StopIteration") → E (.ref e) { s with heap := h' }) :
    wpAny (model prog w) A (Builtin.SmallTypes.nextOf (.ref it)) Q E s := by
  obtain ⟨o, ho, hc, hd⟩ := id hit
  unfold Builtin.SmallTypes.nextOf
  refine wpAny_bind (wpAny_callSpecial?_slot (name := PySem.Str.ofString "__next__") (KBw.iter_typeIs hit) KBw.slot_next
    (wpAny_call_entry KBw.slot_next (KBw.iter_typeIs hit) KBw.entry_next ?_ (KBw.args_next _)))
  show wpAny _ _ (field (.ref it) 0 >>= _) _ _ s
  refine wpAny_bind (wpAny_field ho hd (x := .bytes b t) rfl ?_)
  show wpAny _ _ (if (Value.bytes b t == Value.none) = true then _ else _) _ _ s
  rw [if_neg (show ¬ ((Value.bytes b t == Value.none) = true) from Bool.false_ne_true)]
  show wpAny _ _ (field (.ref it) 1 >>= _) _ _ s
  refine wpAny_bind (wpAny_field ho hd (x := .int i 0) rfl ?_)
  refine wpAny_bind (wpAny_of_eq (a := b) rfl ?_)
  simp only [Int.toNat_natCast, hx]
  refine wpAny_bind (wpAny_rule (wpAny_bind (wpAny_setField ho hd (by simp) ?_)))
  show wpAny _ _ (newExc (.type "StopIteration") [] >>= _) _ _ _
  refine wpAny_bind ?_
  simp only [newExc, newTuple]
  refine wpAny_bind (wpAny_newObj_type ?_ (by size_fits))
  refine wpAny_bind (m := firstArgMember _ _) (wpAny_of_eq (a := Value.none) (by first | rfl | (simp only [firstArgMember]; rfl)) ?_)
  refine wpAny_newObj_type ?_ (by size_fits)
  simp only [raiseNew]
  refine wpAny_bind (wpAny_handled ?_)
  first | rw [show A.in1.handled = none from hh] | rw [hh]
  refine wpAny_bind (wpAny_pure (wpAny_throw ?_))
  exact hE _ _ (((Heap.SameBut.update ..).extBut.push _).push _) ⟨_, Heap.get?_push_size _ rfl, rfl⟩

theorem drawsBytes (hh : A.handled = none) (it : Addr) (b : Array UInt8) (t : Tok) :
    Draws prog w A it [it] b.size (fun i v => ∃ c u, b[i]? = some c ∧ v = .int (c.toNat : Int) u) (fun i h => IsBytesIter h it b t i) where
  live := fun _ _ st => let ⟨o, ho, _⟩ := st; ⟨o, ho⟩
  frame := fun _ _ _ st hk => let ⟨o, ho, r⟩ := st; ⟨o, hk it (by simp) o ho, r⟩
  item := fun i s Q E hi st hQ => by
    refine nextOf_bytes_item st (c := b[i]) (by simp [hi]) fun h' hit' hs' => ?_
    exact hQ _ h' (s.toks + 1) ⟨_, _, by simp [hi], rfl⟩ hit' hs'
  done := fun s Q E st hE => nextOf_bytes_end hh st (by simp) hE

set_option maxHeartbeats 1000000 in
theorem meets_enumerate_newB (x : Array UInt8) (t : Tok) :
    Meets (Builtin.«enumerate.__new__» ⟨[.type "enumerate", .bytes x t], []⟩) (fun _ R s =>
      R (.ok (.ret (.ref (s.heap.push { cls := .type "bytes_iterator", data := .fields #[.bytes x t, .int 0 0] }).objs.size)))
        { s with heap := (s.heap.push { cls := .type "bytes_iterator", data := .fields #[.bytes x t, .int 0 0] }).push { cls := .type "enumerate", data := .fields #[.none, .bool false, .ref s.heap.objs.size, rawInt 0, .none, .none] } }) :=
  .of_wp fun prog w A R s h => by
    obtain ⟨hp, g, d, tk, os⟩ := s
    have hsub := sub_enumerate
    wp_walk
    refine wpAny_stack_any fun st => wpAny_pure ?_
    split
    · rename_i c _ _ _ _ _
      cases (c == Value.type "enumerate")
      · wp_walk using KBw.pyIter_bytes
        exact ⟨_, rfl, h⟩
      · wp_walk using KBw.pyIter_bytes
        exact ⟨_, rfl, h⟩
    · wp_walk using KBw.pyIter_bytes
      exact ⟨_, rfl, h⟩

theorem call_enumerate_bytes {x : Array UInt8} {t : Tok} {Q : Value → Shared → Prop}
    (h : ∀ h', IsEnum h' (s.heap.objs.size + 1) s.heap.objs.size 0 .none → IsBytesIter h' s.heap.objs.size x t 0 → h'.objs.size = s.heap.objs.size + 2 →
      (∀ b o, s.heap.get? b = some o → h'.get? b = some o) → Q (.ref (s.heap.objs.size + 1)) { s with heap := h' }) :
    wpAny (model prog w) A (call (.type "enumerate") [.bytes x t]) Q E s := by
  refine callType_new F.called_enumerate (by decide) (F.typeCall_enumerate_1 _) (F.newCall_enumerate_1 _) (fun obj => F.args_object_init_2 obj _) F.entry_enumerate_new
    (meets_enumerate_newB x t) ?_
  have hz : (s.heap.push { cls := .type "bytes_iterator", data := .fields #[.bytes x t, .int 0 0] }).objs.size = s.heap.objs.size + 1 := Heap.size_push ..
  show _ ∧ _
  rw [hz]
  have he : IsEnum ((s.heap.push { cls := .type "bytes_iterator", data := .fields #[.bytes x t, .int 0 0] }).push
      { cls := .type "enumerate", data := .fields #[.none, .bool false, .ref s.heap.objs.size, rawInt 0, .none, .none] }) (s.heap.objs.size + 1) s.heap.objs.size 0 .none := by
    have := Heap.get?_push_size (s.heap.push { cls := .type "bytes_iterator", data := .fields #[.bytes x t, .int 0 0] })
      (o := { cls := .type "enumerate", data := .fields #[.none, .bool false, .ref s.heap.objs.size, rawInt 0, .none, .none] }) rfl
    rw [hz] at this; exact this
  refine ⟨⟨_, he, rfl⟩, h _ he ⟨_, Heap.get?_push_of_some _ (Heap.get?_push_size _ rfl), rfl, rfl⟩ (by rw [Heap.size_push, hz]) fun b o y => Heap.get?_push_of_some _ (Heap.get?_push_of_some _ y)⟩
end
end Mine
end

section
open PySem PySem.W PySem.Calls PySem.Builtin PyProof.Rows
set_option Elab.async false
set_option maxRecDepth 100000
namespace Mine
open KBw (IsBytesIter)

/-- the pairs that {char: index for index, char in enumerate(al)} has stored after i turns -/
def PairsUp (al : Array UInt8) (i : Nat) (kvs : List (Int × Value)) : Prop :=
  kvs.map (·.1) = (al.toList.take i).map (fun c => (c.toNat : Int)) ∧ ∀ j, j < i → ∃ t, (kvs[j]?).map (·.2) = some (.int (j : Int) t)

def MapObj (prog : Program) (w : World) (al : Array UInt8) (o : Obj) : Prop := ∃ kvs, o.IsDictOf (intKind prog w) kvs ∧ PairsUp al al.size kvs

theorem PairsUp.zero {al : Array UInt8} : PairsUp al 0 [] := ⟨by simp, fun j h => absurd h (Nat.not_lt_zero _)⟩
theorem PairsUp.length {al : Array UInt8} {i : Nat} {kvs : List (Int × Value)} (h : PairsUp al i kvs) (hi : i ≤ al.size) : kvs.length = i := by
  have := congrArg List.length h.1
  have hl : al.toList.length = al.size := by simp
  rw [List.length_map, List.length_map, List.length_take, hl, Nat.min_eq_left hi] at this
  exact this
theorem toNat_inj8 {a b : UInt8} (h : (a.toNat : Int) = (b.toNat : Int)) : a = b := by
  have : a.toNat = b.toNat := by omega
  exact UInt8.toNat_inj.mp this
theorem PairsUp.snoc {al : Array UInt8} (hnd : al.toList.Nodup) {i : Nat} {kvs : List (Int × Value)} (h : PairsUp al i kvs) {c : UInt8} (hc : al[i]? = some c) {t : Tok} :
    PairsUp al (i + 1) (stored kvs (c.toNat : Int) (.int (i : Int) t)) := by
  have hi : i < al.size := (Array.getElem?_eq_some_iff.mp hc).1
  have hlen := h.length (Nat.le_of_lt hi)
  have hcl : al.toList[i]? = some c := by rw [Array.getElem?_toList]; exact hc
  have hnot : kvs.any (fun kv => decide (kv.1 = (c.toNat : Int))) = false := by
    rw [Bool.eq_false_iff]
    intro hany
    obtain ⟨kv, hm, he⟩ := List.any_eq_true.mp hany
    have he' : kv.1 = (c.toNat : Int) := by simpa using he
    have hmem : (c.toNat : Int) ∈ (al.toList.take i).map (fun c => (c.toNat : Int)) := by
      rw [← h.1, ← he']; exact List.mem_map_of_mem hm
    obtain ⟨d, hd, hdc⟩ := List.mem_map.mp hmem
    have hdc' : d = c := toNat_inj8 hdc
    subst hdc'
    obtain ⟨j, hj, hjd⟩ := List.getElem_of_mem hd
    rw [List.length_take] at hj
    have hj2 : al.toList[j]? = some d := by
      have h3 : (al.toList.take i)[j]? = some d := by rw [List.getElem?_eq_getElem (by rw [List.length_take]; exact hj), hjd]
      rw [List.getElem?_take] at h3
      split at h3
      · exact h3
      · cases h3
    have hji : j = i := by
      have h4 : j < al.toList.length := by omega
      exact (List.getElem?_inj h4 hnd).mp (hj2.trans hcl.symm)
    omega
  have hst : stored kvs (c.toNat : Int) (.int (i : Int) t) = kvs ++ [((c.toNat : Int), .int (i : Int) t)] := by
    unfold stored
    rw [if_neg (by rw [hnot]; exact Bool.false_ne_true)]
  rw [hst]
  refine ⟨?_, fun j hj => ?_⟩
  · rw [List.map_append, h.1, List.take_add_one, hcl, List.map_append]
    rfl
  · rcases Nat.lt_or_ge j i with h1 | h1
    · obtain ⟨t', e⟩ := h.2 j h1
      exact ⟨t', by rw [List.getElem?_append_left (by omega)]; exact e⟩
    · have hji : j = i := by omega
      subst hji
      exact ⟨t, by rw [List.getElem?_append_right (by omega), hlen, Nat.sub_self]; rfl⟩

theorem valueAt_of {kvs : List (Int × Value)} (hnd : (kvs.map (·.1)).Nodup) {j : Nat} {k : Int} {v : Value} (h : kvs[j]? = some (k, v)) : valueAt kvs k = some v := by
  unfold valueAt
  induction kvs generalizing j with
  | nil => cases h
  | cons p r ih =>
    rw [List.map_cons, List.nodup_cons] at hnd
    cases j with
    | zero =>
      rw [List.getElem?_cons_zero] at h
      cases h
      rw [List.find?_cons]
      simp
    | succ j =>
      rw [List.getElem?_cons_succ] at h
      have hne : p.1 ≠ k := fun e => hnd.1 (e ▸ List.mem_map.mpr ⟨(k, v), List.mem_of_getElem? h, rfl⟩)
      rw [List.find?_cons]
      simp only [hne, decide_false]
      exact ih hnd.2 h

theorem MapObj.get {prog : Program} {w : World} {al : Array UInt8} {o : Obj} (h : MapObj prog w al o) {j : Nat} {c : UInt8} (hc : al[j]? = some c) {hp : Heap} {D : Addr} (hD : hp.get? D = some o) :
    ∃ (kvs : List (Int × Value)) (t : Tok), hp.DictOf (intKind prog w) D kvs ∧ valueAt kvs (c.toNat : Int) = some (.int (j : Int) t) := by
  obtain ⟨kvs, ho, hk, ht⟩ := h
  have hj : j < al.size := (Array.getElem?_eq_some_iff.mp hc).1
  obtain ⟨t, e⟩ := ht j hj
  have hD' : hp.DictOf (intKind prog w) D kvs := Heap.dictOf_iff.mpr ⟨o, hD, ho⟩
  obtain ⟨_, _, _, _, _, _, hnd⟩ := ho
  refine ⟨kvs, t, hD', ?_⟩
  obtain ⟨p, hp', e2⟩ := Option.map_eq_some_iff.mp e
  have hk2 : (kvs.map (·.1))[j]? = some p.1 := by rw [List.getElem?_map, hp']; rfl
  rw [hk, List.getElem?_map, List.getElem?_take, if_pos hj, Array.getElem?_toList, hc] at hk2
  have e1 : p.1 = (c.toNat : Int) := (Option.some.inj hk2).symm
  obtain ⟨p1, p2⟩ := p
  dsimp only at e1 e2
  subst e1 e2
  exact valueAt_of hnd hp'

section
variable {prog : Program} {w : World} {A : Around} {R : Result → Shared → Prop} {s : Shared}
theorem compLoop_pairD {kx vx iter : Expr} {elts : List Expr} {x1 : Nat} {tp : Pos} {scope : Scope} {pos : Pos} {it : Value} {D : Addr} {env : Env} (I : Nat → Shared → Prop)
    (turn : ∀ n s, I n s → wpAny (model prog w) A (pyNext it) (fun r s₁ => match r with
      | none => R (.ok .next) s₁
      | some v => wpAny (model prog w) A (letOwnedTupleGo (.Tuple elts x1 tp) it v) (fun _ s₁' => wpAny (model prog w) A (assign (.Tuple elts x1 tp) env v) (fun _ s₂ =>
          wpAny (model prog w) A (eval kx env) (fun kv s₄ => wpAny (model prog w) A (eval vx env) (fun vv s₅ =>
              wpAny (model prog w) A (dictSet D kv vv) (fun _ s₆ => ∃ m, m < n ∧ I m s₆) (notedBy (model prog w) A env fun e s' => R (.error e) s') s₅) (notedBy (model prog w) A env fun e s' => R (.error e) s') s₄) (notedBy (model prog w) A env fun e s' => R (.error e) s') s₂)
          (notedBy (model prog w) A env fun e s' => R (.error e) s') s₁') (notedBy (model prog w) A env fun e s' => R (.error e) s') s₁) (notedBy (model prog w) A env fun e s' => R (.error e) s') s)
    (n : Nat) (h : I n s) : codeAny (model prog w) A (.compLoop (.DictComp kx vx [⟨.Tuple elts x1 tp, iter, [], 0⟩] scope pos) 0 it (.ref D) env) R s := by
  refine codeAny_loop rfl I (fun n s hI => ?_) n h
  show wpAny _ A ((compTurn (.DictComp kx vx [⟨.Tuple elts x1 tp, iter, [], 0⟩] scope pos) 0 it (.ref D) env).onRaise (fun x => do noteFrame x env; theTreesLotGoes x)) _ _ s
  refine wpAny_noted ?_
  rw [compTurn_dict]
  refine wpAny_bind (wpAny_standAt (wpAny_bind (wpAny_mono (turn n s hI) (fun r s₁ h₁ => ?_) fun _ _ h' => h')))
  cases r with
  | none => exact wpAny_pure h₁
  | some v =>
    refine wpAny_bind (wpAny_mono h₁ (fun _ s₁' h₁' => ?_) fun _ _ h' => h')
    refine wpAny_bind (wpAny_mono h₁' (fun _ s₂ h₂ => wpAny_bind (wpAny_mono (wpAny_tests_nil (Q := fun ok s₃ => ok = true ∧ s₃ = s₂) ⟨rfl, rfl⟩) (fun ok s₃ h₃ => ?_) fun _ _ h' => h')) fun _ _ h' => h')
    obtain ⟨rfl, rfl⟩ := h₃
    exact wpAny_bind (wpAny_bind (wpAny_mono h₂ (fun kv s₄ h₄ => wpAny_bind (wpAny_holding (wpAny_mono h₄ (fun vv s₅ h₅ => wpAny_bind (wpAny_standAt (wpAny_holding (wpAny_mono h₅ (fun _ s₆ h₆ => wpAny_pure ⟨rfl, h₆⟩) fun _ _ h' => h')))) fun _ _ h' => h'))) fun _ _ h' => h'))

def EnumSrc (prog : Program) (w : World) (al : Array UInt8) (Q : Value → Shared → Prop) (xv : Value) (s₁ : Shared) : Prop :=
  ∃ e it ta, xv = .ref e ∧ e ≠ it ∧ IsEnum s₁.heap e it 0 .none ∧ IsBytesIter s₁.heap it al ta 0 ∧
      (∀ D h' tk o, s₁.heap.objs.size ≤ D → h'.get? D = some o → MapObj prog w al o → (∀ b o', b ≠ e → b ≠ it → s₁.heap.get? b = some o' → h'.get? b = some o') → Q (.ref D) { s₁ with heap := h', toks := tk })

set_option maxHeartbeats 2000000 in
theorem dictComp_enum {env : Env} {E : Value → Shared → Prop} {xi xc : PySem.Str} {p1 p2 p3 p4 tp : Pos} {k : Nat} {iter : Expr} {scope : Scope} {cl : List (PySem.Str × Addr)} {pos : Pos} {Q : Value → Shared → Prop} {al : Array UInt8}
    (hnd : al.toList.Nodup) (hsz : al.size ≤ 1000) (hh : A.handled = none) (hclos : closureFor scope env = pure cl) (hcell : ∀ y ∈ scope.names, y.2 ≠ .cell) (hkind : scope.kind = .function)
    (hnames : ∀ y ∈ scope.names, y.2 = .local → scope.names.lookup y.1 = some .local) (hxi : scope.names.lookup xi = some .local) (hxc : scope.names.lookup xc = some .local) (hne : xi ≠ xc)
    (hdi : (xi == ("__debug__" : PySem.Str)) = false) (hdc : (xc == ("__debug__" : PySem.Str)) = false)
    (h : wpAny (model prog w) A (eval iter env) (EnumSrc prog w al Q) E s)
    (hs : ∀ x, foldedSetIterable iter env x = pure x := by intro _; rfl) :
    wpAny (model prog w) A (eval (.DictComp (.Name xc p1) (.Name xi p2) [⟨.Tuple [.Name xi p3, .Name xc p4] k tp, iter, [], 0⟩] scope pos) env) Q E s := by
  rw [arm_eval_DictComp]
  refine wpAny_comprehension_free (use := none) rfl hs hclos hkind hnames (wpAny_mono h (fun xv s₁ h₁ => ?_) fun _ _ e => e)
  obtain ⟨e, it, ta, rfl, hei, he, hit, hQ⟩ := h₁
  have hef : e ∉ [it] := fun hm => hei (List.mem_singleton.mp hm)
  have W := fun (A' : Around) (hA' : A'.handled = none) => WalksT.enumerateD (A := A') (drawsBytes (prog := prog) (w := w) (A := A'.in1) hA' it al ta) e hei hef (by simp)
  have W₀ := W A hh
  have hst₀ : (∃ old, IsEnum s₁.heap e it ((0 : Nat) : Int) old) ∧ IsBytesIter s₁.heap it al ta 0 := ⟨⟨_, he⟩, hit⟩
  refine W₀.self 0 _ _ _ hst₀ ?_
  refine wpAny_newObj_type (wpAny_newFunctionEnv hcell (by intro y hy; simp at hy) (fun h₁ hns₁ hsb₁ => ?_) hkind)
  dsimp only at hns₁ hsb₁ ⊢
  have hnew : (s₁.heap.push { cls := .type "dict", dict := none, data := .dict #[] }).DictOf (intKind prog w) s₁.heap.objs.size [] := Heap.DictOf.new s₁.heap
  generalize hH2 : s₁.heap.push { cls := .type "dict", dict := none, data := .dict #[] } = H2 at hns₁ hsb₁ hnew ⊢
  have hC : H2.objs.size = s₁.heap.objs.size + 1 := by rw [← hH2, Heap.size_push]
  have hDC : s₁.heap.objs.size ≠ H2.objs.size := by rw [hC]; exact Nat.ne_of_lt (Nat.lt_succ_self _)
  have below : ∀ b, b < s₁.heap.objs.size → b ≠ H2.objs.size ∧ b ≠ s₁.heap.objs.size := fun b hb => ⟨by rw [hC]; exact Nat.ne_of_lt (Nat.lt_succ_of_lt hb), Nat.ne_of_lt hb⟩
  have helt : e < s₁.heap.objs.size := Heap.lt_size he
  have hitlt : it < s₁.heap.objs.size := by obtain ⟨_, y, _⟩ := hit; exact Heap.lt_size y
  have hDe := (below e helt).2
  have hCe := (below e helt).1
  have hDi := (below it hitlt).2
  have hCi := (below it hitlt).1
  have old : ∀ b o, s₁.heap.get? b = some o → h₁.get? b = some o := fun b o q => hsb₁.extBut b o (below b (Heap.lt_size q)).1 (Heap.get?_push_of_some _ (hH2 ▸ Heap.get?_push_of_some _ q))
  have hacc : h₁.DictOf (intKind prog w) s₁.heap.objs.size [] := hnew.at fun o q => hsb₁.extBut _ _ hDC (Heap.get?_push_of_some _ q)
  have hst₁ : (∃ old, IsEnum h₁ e it ((0 : Nat) : Int) old) ∧ IsBytesIter h₁ it al ta 0 := W₀.frame _ _ _ hst₀ fun b _ o q => old b o q
  have fresh : ∀ a, s₁.heap.objs.size ≤ a → s₁.heap.get? a = none := fun a ha => by
    cases q : s₁.heap.get? a with
    | none => rfl
    | some o' => exact absurd (Heap.lt_size q) (Nat.not_lt.mpr ha)
  have wr_of : ∀ b, b ∉ ([e, it] : List Addr) ↔ (b ≠ e ∧ b ≠ it) := fun b => by simp [List.mem_cons]
  have loop : ∀ s₃ : Shared, s₃ = { s₁ with heap := h₁, toks := s₁.toks + ([] : List (PySem.Str × Value)).length } →
      codeAny (model prog w) A (.compLoop (.DictComp (.Name xc p1) (.Name xi p2) [⟨.Tuple [.Name xi p3, .Name xc p4] k tp, iter, [], 0⟩] scope pos) 0 (.ref e) (.ref s₁.heap.objs.size) (compEnvC scope cl H2.objs.size env))
        (compPost (model prog w) A E none Q (.ref s₁.heap.objs.size) H2.objs.size) s₃ := by
    rintro s₃ rfl
    refine compLoop_pairD
      (fun n s' => ∃ h' tk i m' kvs, s' = { s₁ with heap := h', toks := tk } ∧ i ≤ al.size ∧ n = al.size + 1 - i ∧ ((∃ old, IsEnum h' e it ((i : Nat) : Int) old) ∧ IsBytesIter h' it al ta i) ∧ h'.Ns H2.objs.size m' ∧
        h'.DictOf (intKind prog w) s₁.heap.objs.size kvs ∧ PairsUp al i kvs ∧ (∀ b o', b ≠ e → b ≠ it → s₁.heap.get? b = some o' → h'.get? b = some o')) ?_ (al.size + 1)
      ⟨h₁, _, 0, _, [], rfl, Nat.zero_le _, rfl, hst₁, hns₁, hacc, PairsUp.zero, fun b o' _ _ q => old b o' q⟩
    rintro n s' ⟨h', tk, i, m', kvs, rfl, hi, rfl, hst', hn', hd', hP, hk'⟩
    by_cases hlt : i < al.size
    · refine W₀.item i _ _ _ hlt hst' fun T vals h₂ tk₂ hPt hT hTup hMid hk₂ => ?_
      obtain ⟨ti, x, ⟨c, u, hc, rfl⟩, rfl⟩ := hPt
      refine W₀.go _ _ _ i T _ _ _ hMid fun h₃ hst₃ hk₃ => ?_
      have hTw := W₀.apart _ _ _ hMid
      have hTup₃ : h₃.IsTuple T #[.int (i : Int) ti, .int (c.toNat : Int) u] := by
        obtain ⟨ot, ho, r⟩ := hTup
        exact ⟨ot, hk₃ _ _ hTw ho, r⟩
      refine wpAny_assign_Tuple hh hTup₃ rfl rfl fun h₄ hx₄ => ?_
      have up : ∀ b o, b ≠ e → b ≠ it → h'.get? b = some o → h₄.get? b = some o := fun b o hb1 hb2 q =>
        hx₄ b o (Nat.ne_of_lt (Heap.lt_size (hk₃ b o ((wr_of b).mpr ⟨hb1, hb2⟩) (hk₂ b o ((wr_of b).mpr ⟨hb1, hb2⟩) q)))) (hk₃ b o ((wr_of b).mpr ⟨hb1, hb2⟩) (hk₂ b o ((wr_of b).mpr ⟨hb1, hb2⟩) q))
      have hst₄ : (∃ old, IsEnum h₄ e it ((i + 1 : Nat) : Int) old) ∧ IsBytesIter h₄ it al ta (i + 1) := W₀.frame _ _ _ hst₃ fun b _ o q => hx₄ b o (Nat.ne_of_lt (Heap.lt_size q)) q
      have hn₄ : h₄.Ns H2.objs.size m' := hn'.at' fun o q => up _ o (Ne.symm hCe) (Ne.symm hCi) q
      have hd₄ : h₄.DictOf (intKind prog w) s₁.heap.objs.size kvs := hd'.at fun o q => up _ o (Ne.symm hDe) (Ne.symm hDi) q
      have hp : ((compEnvC scope cl H2.objs.size env).scope.kind == .class || ((compEnvC scope cl H2.objs.size env).scope.kind == .module && (compEnvC scope cl H2.objs.size env).locals != (compEnvC scope cl H2.objs.size env).globals)) = false := by
        simp [compEnvC, relabel, hkind]
      have hkf : (compEnvC scope cl H2.objs.size env).scope.kind = .function := by simp [compEnvC, relabel, hkind]
      refine assignInOrder_cons (wpAny_assign_Name (wpAny_storeName_local (lookup_relabel_local hxi) hn₄ (fun h₅ hn₅ hs₅ => ?_) hp))
      refine assignInOrder_cons (wpAny_assign_Name (wpAny_storeName_local (lookup_relabel_local hxc) hn₅ (fun h₆ hn₆ hs₆ => ?_) hp))
      refine assignInOrder_nil ?_
      have up6 : ∀ b o, b ≠ H2.objs.size → h₄.get? b = some o → h₆.get? b = some o := fun b o hb q => hs₆.extBut b o hb (hs₅.extBut b o hb q)
      refine wpAny_Name (wpAny_loadName_local (v := .int (c.toNat : Int) u) hkf (lookup_relabel_local hxc) hn₆ (by simp) ?_) hdc
      refine wpAny_Name (wpAny_loadName_local (v := .int (i : Int) ti) hkf (lookup_relabel_local hxi) hn₆ (by simp [hne]) ?_) hdi
      have hd₆ : h₆.DictOf (intKind prog w) s₁.heap.objs.size kvs := hd₄.at fun o q => up6 _ o hDC q
      have hkl : kvs.length ≤ sizeLine := by rw [hP.length hi, sizeLine_eq]; omega
      refine wpAny_dictSet_pairs (hsz := hkl) (intKind_is prog w (c.toNat : Int) u) hd₆ fun h₇ hd₇ hs₇ => ?_
      refine ⟨al.size + 1 - (i + 1), by omega, h₇, _, i + 1, _, _, rfl, hlt, rfl, ?_, hn₆.sameBut hs₇ (Ne.symm hDC), hd₇, hP.snoc hnd hc, fun b o' hb1 hb2 q => ?_⟩
      · have := W₀.frame _ _ h₇ hst₄ fun b hb o q => by
          have hb' : b = e ∨ b = it := by simpa using hb
          have hbC : b ≠ H2.objs.size := by rcases hb' with rfl | rfl; exact hCe; exact hCi
          have hbD : b ≠ s₁.heap.objs.size := by rcases hb' with rfl | rfl; exact hDe; exact hDi
          exact hs₇.extBut b o hbD (up6 b o hbC q)
        exact this
      · exact hs₇.extBut b o' (below b (Heap.lt_size q)).2 (up6 b o' (below b (Heap.lt_size q)).1 (up b o' hb1 hb2 (hk' b o' hb1 hb2 q)))
    · obtain rfl : i = al.size := by omega
      refine W₀.done _ _ _ hst' fun h₂ tk₂ hk₂ => ?_
      have hn₂ : h₂.Ns H2.objs.size m' := hn'.at' fun o q => hk₂ _ o ((wr_of _).mpr ⟨Ne.symm hCe, Ne.symm hCi⟩) q
      have hd₂ : h₂.DictOf (intKind prog w) s₁.heap.objs.size kvs := hd'.at fun o q => hk₂ _ o ((wr_of _).mpr ⟨Ne.symm hDe, Ne.symm hDi⟩) q
      refine ⟨m', hn₂, fun h₃ hs₃ => ?_⟩
      obtain ⟨o, ho, hod⟩ := Heap.dictOf_iff.mp hd₂
      refine hQ s₁.heap.objs.size h₃ tk₂ o (Nat.le_refl _) (hs₃.extBut _ _ hDC ho) ⟨kvs, hod, hP⟩ fun b o' hb1 hb2 q => ?_
      exact hs₃.extBut b o' (below b (Heap.lt_size q)).1 (hk₂ b o' ((wr_of b).mpr ⟨hb1, hb2⟩) (hk' b o' hb1 hb2 q))
  refine codeAny_compStart_dict (loop _ rfl) (W₀.self 0 _ _ _ hst₁ (loop _ rfl))
end
end Mine
end

section
open PySem PySem.W PySem.Calls PySem.Builtin PyProof.Rows
set_option Elab.async false
set_option maxRecDepth 100000
namespace Mine
open KBw (IsBytesIter)

section
variable {prog : Program} {w : World} {A : Around} {s : Shared} {E : Value → Shared → Prop} {h₀ : Heap} {L : Addr} {m : PySem.Str → Option Value} {news : List (Addr × Obj)}

theorem call_enumK {al : Array UInt8} {ta : Tok} {Q : Value → Shared → Prop} (F : Fr h₀ L s.heap m) (N : News h₀ L s.heap news)
    (h : ∀ D h' tk o, Fr h₀ L h' m → News h₀ L h' ((D, o) :: news) → (∀ p ∈ news, p.1 < D) → MapObj prog w al o → Q (.ref D) { s with heap := h', toks := tk }) :
    wpAny (model prog w) A (call (.type "enumerate") [.bytes al ta]) (EnumSrc prog w al Q) E s := by
  refine call_enumerate_bytes fun h₁ he hit hsz hk => ?_
  refine ⟨_, _, _, rfl, Nat.succ_ne_self _, he, hit, fun D h' tk o hD hD' hM hk' => ?_⟩
  have keep : ∀ b o', s.heap.get? b = some o' → h'.get? b = some o' := fun b o' q =>
    hk' b o' (Nat.ne_of_lt (Nat.lt_succ_of_lt (Heap.lt_size q))) (Nat.ne_of_lt (Heap.lt_size q)) (hk b o' q)
  have hle : s.heap.objs.size ≤ D := by
    have hD1 : h₁.objs.size ≤ D := hD
    omega
  have hDs : s.heap.get? D = none := Heap.get?_none_of_le hle
  refine h D h' tk o (F.keeps keep) (fun p hp => ?_) (fun p hp => Nat.lt_of_lt_of_le (Heap.lt_size (N p hp).1) hle) hM
  · rcases List.mem_cons.mp hp with rfl | hp
    · refine ⟨hD', fun q => ?_, ?_⟩
      · obtain ⟨_, _, _, hL, _⟩ := F.ns
        dsimp only at q
        rw [← q, hDs] at hL
        cases hL
      · cases q : h₀.get? D with
        | none => rfl
        | some o' => have := F.keep D o' q; rw [hDs] at this; cases this
    · exact ⟨keep _ _ (N p hp).1, (N p hp).2⟩
end

section
variable {prog : Program} {w : World} {A A₀ : Around} {s : Shared} {K : Frag} {L : Addr} {h₀ base : Heap} {m mg mb : PySem.Str → Option Value} {p : Program} {loose : List PySem.Str} {mean : ExcName → Option Value}

theorem codePC {env : Env} {outer : List Env} {R : Result → Shared → Prop} {name qual : PySem.Str} {params : Arguments} {body : List Stmt} {scope : Scope} {dV kV doc pm cdv ct oc : Value} {an od : Option Addr} {osl : Array (Option Value)} {f : Addr} {args : Args} {binds : List (PySem.Str × Value)}
    (B : Below A₀ base outer h₀) (F : Fr h₀ L s.heap m) (X₀ : K.In h₀) (T : Top p loose mean mg mb h₀) (hA : A.frames = some (env :: outer)) (hf : env.frame = some L) (hke : env.scope.kind = .function)
    (ho : K.lookup f = some ⟨oc, od, .func (fnOf name qual params body scope dV kV doc pm an cdv ct), osl⟩) (hcd : codeIn K cdv qual = true) (hroom : A.depth < recursionLimit)
    (hbind : BindsTo s (fnOf name qual params body scope dV kV doc pm an cdv ct) args binds) (hkind : (binds.all fun y => scope.names.lookup y.1 == some .local || scope.names.lookup y.1 == some .cell) = true)
    (hnd : ((cellsFrom 0 scope.names []).map (·.1)).Nodup)
    (h : ∀ g L' h₁ tk cells, g = s.heap → Fr h₀ L g m → Fr g L' h₁ (bindL (envOfC qual scope L' f cdv).kindOf binds fun _ => none) → News g L' h₁ cells →
      CellsAre (bindC (envOfC qual scope L' f cdv).kindOf binds fun _ => none) (cellsFrom (L' + 1) scope.names []) cells → Below A base (env :: outer) g → K.In g → Top p loose mean mg mb g →
      wpAny (model prog w) (A.deeper (envOfC qual scope L' f cdv)) (execs body (envOfC qual scope L' f cdv))
        (fun fl s' => LeaveK h₀ L m g (KeepR s.heap R) (match fl with | .ret v => v | _ => .none) s')
        (fun e s' => wpAny (model prog w) (A.deeper (envOfC qual scope L' f cdv)) (leaving (envOfC qual scope L' f cdv) e) (fun _ s'' => R (.error e) s'') (fun e' s'' => R (.error e') s'') s')
        { s with heap := h₁, toks := tk })
    (hco : scope.isCoroutine = false) (hgen : scope.isGenerator = false) (hk : scope.kind = .function) : codeAny (model prog w) A (.call (.ref f) args) R s := by
  have N : News h₀ L s.heap [] := News.nil
  obtain ⟨FG, BG, st, lv⟩ := groundX (R := KeepR s.heap R) B F N hA hf hke
  have hd : (⟨oc, od, .func (fnOf name qual params body scope dV kV doc pm an cdv ct), osl⟩ : Obj).data = .func (fnX name qual params body scope [] dV kV doc pm an cdv ct) := rfl
  refine codeAny_call_function hroom ((X₀.keeps F.keep) _ _ ho) hd hco hgen rfl (codeRec_of (X₀.keeps F.keep) hcd) (hbind _ _ _ _ ?_)
  refine wpAny_newFunctionEnv_cells hk (kindsX hkind _) fun env' he s' x => ?_
  subst he
  refine ⟨(T.nolimit.keeps F.keep).keeps x.toInCall.keep, codeAny_func ?_⟩
  obtain ⟨h₁, tk, rfl, _⟩ := x.done
  have hk₁ := x.toInCall.keep
  obtain ⟨cells, NC, Y⟩ := Cl.news (h₀ := s.heap) (Nat.le_refl _) fun n c hm => ⟨x.cell n c (lookup_of_mem_nodup (cellsFrom_names scope.names 0 (s.heap.objs.size + 1) [] [] rfl ▸ hnd) hm), x.above n c hm⟩
  refine wpAny_mono (h _ s.heap.objs.size h₁ tk cells rfl FG ⟨x.toInCall.ns, hk₁, Nat.le_refl _⟩ NC Y BG (X₀.keeps st) (T.keeps st)) (fun fl s' hl => ?_) fun _ _ y => y
  have hk := lv _ _ hl
  obtain ⟨L', m', news', F', N', k⟩ := hl
  exact hk F'.keep
end

/-- the contract of the table's def: it gives back a dict of its own making -/
def GivesMap (lv : Nat) (w : World) (p : Program) (loose : List PySem.Str) (mean : ExcName → Option Value) (mg mb : PySem.Str → Option Value) (f : Addr) (pos : List Value) (kw : List (PySem.Str × Value)) (al : Array UInt8) : Prop :=
  ∀ (dp un : Nat) (gd : Option (List Code)) (cn : PySem.Str) (cs : Scope) (a : Addr) (ccd : Value) (cl : List (PySem.Str × Addr)) (outer : List Env) (A₀ : Around) (base h₀ : Heap) (L : Addr) (m : PySem.Str → Option Value) (s : Shared) (Q E : Value → Shared → Prop),
    Below A₀ base outer h₀ → Fr h₀ L s.heap m → (hd.heap_39 w.params).In h₀ → Top p loose mean mg mb h₀ → cs.kind = .function → dp + lv + 4 < recursionLimit → un + 8 * lv + 40 < cLine →
    (∀ D o h' tk', s.heap.StaysIn h' → s.heap.objs.size ≤ D → h'.get? D = some o → MapObj PySem.Challenge.rw_eg5006_01.row.prog w al o → Q (.ref D) { s with heap := h', toks := tk' }) →
    wpAny (model PySem.Challenge.rw_eg5006_01.row.prog w) (ktrTop dp un gd cn cs L a ccd cl outer) (call (.ref f) pos kw) Q E s

theorem GivesMap.use {lv : Nat} {w : World} {p : Program} {loose : List PySem.Str} {mean : ExcName → Option Value} {mg mb : PySem.Str → Option Value} {f : Addr} {pos : List Value} {kw : List (PySem.Str × Value)} {al : Array UInt8}
    {dp un : Nat} {gd : Option (List Code)} {cn : PySem.Str} {cs : Scope} {a : Addr} {ccd : Value} {cl : List (PySem.Str × Addr)} {outer : List Env} {A₀ : Around} {base h₀ : Heap} {L : Addr} {m : PySem.Str → Option Value} {s : Shared} {news : List (Addr × Obj)} {Q E : Value → Shared → Prop}
    (C : GivesMap lv w p loose mean mg mb f pos kw al) (B : Below A₀ base outer h₀) (F : Fr h₀ L s.heap m) (X : (hd.heap_39 w.params).In h₀) (N : News h₀ L s.heap news) (T : Top p loose mean mg mb h₀) (hk : cs.kind = .function) (hd : dp + lv + 4 < recursionLimit) (hu : un + 8 * lv + 40 < cLine)
    (ret : ∀ D o h' tk', Fr h₀ L h' m → News h₀ L h' ((D, o) :: news) → (∀ p ∈ news, p.1 < D) → MapObj PySem.Challenge.rw_eg5006_01.row.prog w al o → Q (.ref D) { s with heap := h', toks := tk' }) :
    wpAny (model PySem.Challenge.rw_eg5006_01.row.prog w) (ktrTop dp un gd cn cs L a ccd cl outer) (call (.ref f) pos kw) Q E s :=
  C dp un gd cn cs a ccd cl outer A₀ base h₀ L m s Q E B F X T hk hd hu fun D o h' tk' st hD hD' hM => ret D o h' tk' (F.keeps st) (fun q hq => by
    have hN : s.heap.get? D = none := Heap.get?_none_of_le hD
    rcases List.mem_cons.mp hq with rfl | hq
    · refine ⟨hD', fun e => ?_, ?_⟩
      · obtain ⟨_, _, _, hL, _⟩ := F.ns
        dsimp only at e
        rw [← e, hN] at hL
        cases hL
      · cases e : h₀.get? D with
        | none => rfl
        | some o' => have := F.keep D o' e; rw [hN] at this; cases this
    · exact ⟨st _ _ (N q hq).1, (N q hq).2⟩)
    (fun q hq => Nat.lt_of_lt_of_le (Heap.lt_size (N q hq).1) hD) hM
end Mine
end

section
open PySem PySem.W PySem.Calls PySem.Builtin PyProof.Rows
set_option Elab.async false
set_option maxRecDepth 100000
namespace Mine

local macro_rules | `(tactic| ktr_rel) => `(tactic| exact sm_picked (by ktr_rel))
local macro_rules | `(tactic| ktr_rel) => `(tactic| exact sm_lst (by ktr_rel))
local macro_rules | `(tactic| ktr_rel) => `(tactic| exact EncInv.sm (by assumption))
local macro_rules | `(tactic| ktr_rel) => `(tactic| exact sm_of (by assumption) (by decide))
local macro_rules | `(tactic| ktr_rel) => `(tactic| assumption)
local macro_rules | `(tactic| walk_at "call builtin:len") => `(tactic| ((with_reducible show wpAny _ _ (call (Value.builtin "len") [Value.bytes _ _]) _ _ _); (refine r_len (by ktr_rel) ?_); intro _ _))
local macro_rules | `(tactic| walk_at "binaryOp Add bytes bytes") => `(tactic| ((with_reducible show wpAny _ _ (binaryOp Operator.Add (Value.bytes _ _) (Value.bytes _ _)) _ _ _); (refine r_add (by ktr_rel) (by ktr_rel) ?_); intro _ _))
local macro_rules | `(tactic| walk_at "binaryOp Mult bytes int") => `(tactic| ((with_reducible show wpAny _ _ (binaryOp Operator.Mult (Value.bytes _ _) (Value.int _ _)) _ _ _); (refine r_mul (by first | exact picked01 (by assumption) | rfl) (by exact lead_lo) (by exact lead_hi (by ktr_rel)) ?_); intro _ _))
local macro_rules | `(tactic| walk_at "subscriptTail") => `(tactic| ((with_reducible show wpAny _ _ (subscriptTail _ (Expr.Slice _ _ none _) (Value.bytes _ _) (Value.ref _)) _ _ _); (with_reducible rename Fr _ _ _ _ => F'); (with_reducible rename News _ _ _ _ => N'); (refine r_slice (s := ⟨_, _, _, _, _⟩) F' N' (by constructor) (by constructor) (by ktr_rel) ?_); intro _ _ _ F' N'))
local macro_rules | `(tactic| walk_at "getMethod bytes") => `(tactic| first | (with_reducible refine m_lstrip ?_) | (with_reducible refine m_rstrip ?_))
local macro_rules | `(tactic| walk_at "call builtin:bytes.lstrip") => `(tactic| ((with_reducible show wpAny _ _ (call (Value.builtin "bytes.lstrip") [Value.bytes _ _, Value.bytes _ _]) _ _ _); (refine r_lstrip (by ktr_rel) ?_); intro _ _))
local macro_rules | `(tactic| walk_at "call builtin:bytes.rstrip") => `(tactic| ((with_reducible show wpAny _ _ (call (Value.builtin "bytes.rstrip") [Value.bytes _ _]) _ _ _); (refine r_rstrip (by assumption) ?_); intro _ _))
local macro_rules | `(tactic| walk_at "callWith ref") => `(tactic| (k_here; (with_reducible show wpAny _ _ (callWith _ (Value.ref _) _ (backTo _ (starEach (_ :: _) _)) (backToKw _ (keywordEach (_ :: _) _))) _ _ _); kfb_any; k_dflt (refine' fb_with ?fbN ?fbM ?fbA ?_; (case fbN => k_asm); (case fbM => k_mem); (case fbA => exact rfl); k_whole)))
local macro_rules | `(tactic| walk_at "call ref") => `(tactic| (k_here; (with_reducible show wpAny _ _ (call (Value.ref _) [Value.bytes _ _] [(_, Value.str _ _)]) _ _ _); kfb_any; k_dflt (refine' fb_call ?fbN ?fbM ?fbS ?_; (case fbN => k_asm); (case fbM => k_mem); (case fbS => ktr_rel)); intro _ _))
set_option maxHeartbeats 8000000 in
set_option pp.deepTerms false in
set_option pp.deepTerms.threshold 6 in
set_option pp.maxSteps 3000 in
theorem b_scrub {w : World} {p : Program} {loose : List PySem.Str} {mean : ExcName → Option Value} {mg mb : PySem.Str → Option Value} (v : Array UInt8) (tv : Tok) :
   GivesB 0 w p loose mean mg mb 21 [(Str.ofString "v", .bytes v tv)] (fun _ => .bytes v tv) := by
  k_with_none
  w_top off
  unfold GivesB
  intro pos kw hb
  unfold Gives
  k_fill
  intro dp un gd cn cs a ccd cl outer A₀ base h₀ L m s Q E B F X T hk hdp hun hret
  refine wpAny_call ?_
  refine' codeP ?k1 ?k2 ?k3 ?k5 ?kA ?kF ?kK ?k6 ?k7 ?k8 ?k9 ?kB ?_ ?c2 ?c3 ?c4 ?c5; (case kA => exact rfl); (case kF => exact rfl); (case kK => assumption); (case k1 => k_asm); (case k2 => k_asm); (case k3 => k_asm); (case k5 => k_asm); (case k6 => k_is); (case k7 => k_is); (case k8 => ktr_room); (case k9 => exact hb _ _ _ _ _ (by k_in) (by k_is)); (case c5 => decide); (case kB => exact locs rfl); (case c2 => exact rfl); (case c3 => exact rfl); (case c4 => exact rfl); k_whole; intro g' L' h' FG' F' N' B' X' T'; (try dsimp only); (try k_fold)
  k_steps
  all_goals exact GivesEnd hret ⟨0, rfl⟩ rfl
theorem c_scrub {w : World} {p : Program} {loose : List PySem.Str} {mean : ExcName → Option Value} {mg mb : PySem.Str → Option Value} (v : Array UInt8) (tv : Tok) : Gives 0 w p loose mean mg mb 21 [.bytes v tv] [] (fun _ => .bytes v tv) :=
  b_scrub v tv _ _ fun s fd oc od osl X hl => by
    have := hl.symm.trans (show _ = some _ by k_is)
    cases this
    exact BindsTo.of_eq rfl
set_option maxHeartbeats 8000000 in
set_option pp.deepTerms false in
set_option pp.deepTerms.threshold 6 in
set_option pp.maxSteps 3000 in
theorem b_int {w : World} {p : Program} {loose : List PySem.Str} {mean : ExcName → Option Value} {mg mb : PySem.Str → Option Value} (i N : Nat) (ti ta : Tok) (al : Array UInt8) (hal : al.size = 58) (hN : N ≤ 1000) (hi : i < 58 ^ N) :
   GivesB 0 w p loose mean mg mb 29 [(Str.ofString "i", .int (i : Int) ti), (Str.ofString "default_one", .bool false), (Str.ofString "alphabet", .bytes al ta)] (fun t => .bytes (encGo al.toList N i []).toArray t) := by
  k_with_none
  w_top off
  unfold GivesB
  intro pos kw hb
  unfold Gives
  k_fill
  intro dp un gd cn cs a ccd cl outer A₀ base h₀ L m s Q E B F X T hk hdp hun hret
  refine wpAny_call ?_
  refine' codeP ?k1 ?k2 ?k3 ?k5 ?kA ?kF ?kK ?k6 ?k7 ?k8 ?k9 ?kB ?_ ?c2 ?c3 ?c4 ?c5; (case kA => exact rfl); (case kF => exact rfl); (case kK => assumption); (case k1 => k_asm); (case k2 => k_asm); (case k3 => k_asm); (case k5 => k_asm); (case k6 => k_is); (case k7 => k_is); (case k8 => ktr_room); (case k9 => exact hb _ _ _ _ _ (by k_in) (by k_is)); (case c5 => decide); (case kB => exact locs rfl); (case c2 => exact rfl); (case c3 => exact rfl); (case c4 => exact rfl); k_whole; intro g' L' h' FG' F' N' B' X' T'; (try dsimp only); (try k_fold)
  k_with "exec While Name cons nil" => k_while (fun _ x str => EncInv al.toList N i x str) (fun _ x _ => x.toNat) "i" "string"
  k_with "state" => first | exact EncInv.start hN hi | exact EncInv.turn hal (by assumption) (by assumption)
  k_with "measure" => exact EncInv.less hal (by assumption) (by assumption)
  k_steps
  all_goals
    refine GivesEnd hret ?_ rfl
    have e9 := EncInv.done (by assumption) (by assumption)
    exact ⟨_, by rw [e9]⟩
theorem c_int {w : World} {p : Program} {loose : List PySem.Str} {mean : ExcName → Option Value} {mg mb : PySem.Str → Option Value} (i N : Nat) (ti ta : Tok) (al : Array UInt8) (hal : al.size = 58) (hN : N ≤ 1000) (hi : i < 58 ^ N) :
   Gives 0 w p loose mean mg mb 29 [.int (i : Int) ti] [(Str.ofString "default_one", .bool false), (Str.ofString "alphabet", .bytes al ta)] (fun t => .bytes (encGo al.toList N i []).toArray t) :=
  b_int i N ti ta al hal hN hi _ _ fun s fd oc od osl X hl => by
    have := hl.symm.trans (show _ = some _ by k_is)
    cases this
    exact binds_K X rfl (by k_is) rfl rfl rfl
end Mine
end

section
open PySem PySem.W PySem.Calls PySem.Builtin PyProof.Rows
set_option Elab.async false
set_option maxRecDepth 100000
namespace Mine

local macro_rules | `(tactic| ktr_rel) => `(tactic| ((with_reducible refine sm_picked ?_); ktr_rel))
local macro_rules | `(tactic| ktr_rel) => `(tactic| ((with_reducible refine sm_lst ?_); ktr_rel))
local macro_rules | `(tactic| ktr_rel) => `(tactic| ((with_reducible refine EncInv.sm ?smE); (case smE => assumption)))
local macro_rules | `(tactic| ktr_rel) => `(tactic| (refine' sm_of (n := 58) ?smA ?smB; (case smA => assumption); (case smB => decide)))
local macro_rules | `(tactic| ktr_rel) => `(tactic| with_reducible assumption)
local macro_rules | `(tactic| walk_at "call builtin:len") => `(tactic| ((with_reducible show wpAny _ _ (call (Value.builtin "len") [Value.bytes _ _]) _ _ _); (refine' r_len ?rA ?_); (case rA => ktr_rel); intro _ _))
local macro_rules | `(tactic| walk_at "binaryOp Add bytes bytes") => `(tactic| ((with_reducible show wpAny _ _ (binaryOp Operator.Add (Value.bytes _ _) (Value.bytes _ _)) _ _ _); (refine' r_add ?rA ?rB ?_); (case rA => ktr_rel); (case rB => ktr_rel); intro _ _))
local macro_rules | `(tactic| walk_at "binaryOp Mult bytes int") => `(tactic| ((with_reducible show wpAny _ _ (binaryOp Operator.Mult (Value.bytes _ _) (Value.int _ _)) _ _ _); (refine' r_mul ?mA ?mB ?mC ?_); (case mA => first | (refine picked01 ?_; assumption) | rfl); (case mB => exact lead_lo); (case mC => (refine lead_hi ?_; ktr_rel)); intro _ _))
local macro_rules | `(tactic| walk_at "subscriptTail") => `(tactic| ((with_reducible show wpAny _ _ (subscriptTail _ (Expr.Slice _ _ none _) (Value.bytes _ _) (Value.ref _)) _ _ _); (with_reducible rename Fr _ _ _ _ => F'); (with_reducible rename News _ _ _ _ => N'); (refine' r_slice (s := ⟨_, _, _, _, _⟩) F' N' ?rA ?rB ?rC ?_); (case rA => constructor); (case rB => constructor); (case rC => ktr_rel); intro _ _ _ F' N'))
local macro_rules | `(tactic| walk_at "getMethod bytes") => `(tactic| first | (with_reducible refine m_lstrip ?_) | (with_reducible refine m_rstrip ?_))
local macro_rules | `(tactic| walk_at "call builtin:bytes.lstrip") => `(tactic| ((with_reducible show wpAny _ _ (call (Value.builtin "bytes.lstrip") [Value.bytes _ _, Value.bytes _ _]) _ _ _); (refine' r_lstrip ?rA ?_); (case rA => ktr_rel); intro _ _))
local macro_rules | `(tactic| walk_at "call builtin:bytes.rstrip") => `(tactic| ((with_reducible show wpAny _ _ (call (Value.builtin "bytes.rstrip") [Value.bytes _ _]) _ _ _); (refine' r_rstrip ?rA ?_); (case rA => assumption); intro _ _))
local macro_rules | `(tactic| walk_at "callWith ref") => `(tactic| (k_here; (with_reducible show wpAny _ _ (callWith _ (Value.ref _) _ (backTo _ (starEach (_ :: _) _)) (backToKw _ (keywordEach (_ :: _) _))) _ _ _); kfb_any; k_dflt (refine' fb_with ?fbN ?fbM ?fbA ?_; (case fbN => k_asm); (case fbM => k_mem); (case fbA => exact rfl); k_whole)))
local macro_rules | `(tactic| walk_at "call ref") => `(tactic| (k_here; kfb_any; k_dflt ((show wpAny _ _ (call (Value.ref _) [Value.bytes _ _] [(PySem.Str.ofString "byteorder", Value.str (PySem.Str.ofString "big") _)]) _ _ _); refine' fb_call ?fbN ?fbM ?fbS ?_; (case fbN => k_asm); (case fbM => k_mem); (case fbS => ktr_rel)); intro _ _))

local macro_rules | `(tactic| ktr_rel) => `(tactic| ((with_reducible refine sm_enc ?_); omega))
local macro_rules | `(tactic| ktr_rel) => `(tactic| ((with_reducible refine sm_rep ?_); (refine lead_hi ?_); ktr_rel))
local macro_rules | `(tactic| walk_at "call ref") => `(tactic| (k_here; (with_reducible show wpAny _ _ (call (Value.ref 21) _ _) _ _ _); k_dflt (refine' Gives.use (c_scrub _ _) ?uB ?uF ?uX ?uN ?uT ?uk ?ud ?uu ?_; (case uB => k_asm); (case uF => k_asm); (case uX => k_asm); (case uN => k_asm); (case uT => k_asm); (case uk => first | exact rfl | assumption); (case ud => ktr_room); (case uu => ktr_units)); intro _ _ _ F' N'; (try k_sweep)))
local macro_rules | `(tactic| walk_at "call ref") => `(tactic| (k_here; (with_reducible show wpAny _ _ (call (Value.ref 29) _ _) _ _ _); k_dflt (refine' Gives.use (c_int _ _ _ _ _ (by assumption) ?uN1 beVal_fits) ?uB ?uF ?uX ?uN ?uT ?uk ?ud ?uu ?_; (case uN1 => omega); (case uB => k_asm); (case uF => k_asm); (case uX => k_asm); (case uN => k_asm); (case uT => k_asm); (case uk => first | exact rfl | assumption); (case ud => ktr_room); (case uu => ktr_units)); intro _ _ _ F' N'; (try k_sweep)))
set_option maxHeartbeats 8000000 in
set_option pp.deepTerms false in
set_option pp.deepTerms.threshold 12 in
set_option pp.maxSteps 3000 in
theorem b_enc {w : World} {p : Program} {loose : List PySem.Str} {mean : ExcName → Option Value} {mg mb : PySem.Str → Option Value} (v al : Array UInt8) (tv ta : Tok) (hal : al.size = 58) (hv : Sm v) (hv5 : v.size ≤ 500) :
   GivesB 1 w p loose mean mg mb 37 [(Str.ofString "v", .bytes v tv), (Str.ofString "alphabet", .bytes al ta)] (fun t => .bytes (encSpec al v).toArray t) := by
  k_with_none
  w_top off
  unfold GivesB
  intro pos kw hb
  unfold Gives
  k_fill
  intro dp un gd cn cs a ccd cl outer A₀ base h₀ L m s Q E B F X T hk hdp hun hret
  refine wpAny_call ?_
  refine' codeP ?k1 ?k2 ?k3 ?k5 ?kA ?kF ?kK ?k6 ?k7 ?k8 ?k9 ?kB ?_ ?c2 ?c3 ?c4 ?c5; (case kA => exact rfl); (case kF => exact rfl); (case kK => assumption); (case k1 => k_asm); (case k2 => k_asm); (case k3 => k_asm); (case k5 => k_asm); (case k6 => k_is); (case k7 => k_is); (case k8 => ktr_room); (case k9 => exact hb _ _ _ _ _ (by k_in) (by k_is)); (case c5 => decide); (case kB => exact locs rfl); (case c2 => exact rfl); (case c3 => exact rfl); (case c4 => exact rfl); k_whole; intro g' L' h' FG' F' N' B' X' T'; (try dsimp only); (try k_fold)
  k_steps
  all_goals exact GivesEnd hret ⟨_, by rw [encSpec_is]⟩ rfl
end Mine
end

section
open PySem PySem.W PySem.Calls PySem.Builtin PyProof.Rows
set_option Elab.async false
set_option maxRecDepth 100000
namespace Mine
local macro_rules | `(tactic| walk_at "no such key") => `(tactic| fail "no")

local macro_rules | `(tactic| ktr_rel) => `(tactic| ((with_reducible refine sm_picked ?_); ktr_rel))
local macro_rules | `(tactic| ktr_rel) => `(tactic| ((with_reducible refine sm_lst ?_); ktr_rel))
local macro_rules | `(tactic| ktr_rel) => `(tactic| ((with_reducible refine EncInv.sm ?smE); (case smE => assumption)))
local macro_rules | `(tactic| ktr_rel) => `(tactic| (refine' sm_of (n := 58) ?smA ?smB; (case smA => assumption); (case smB => decide)))
local macro_rules | `(tactic| ktr_rel) => `(tactic| with_reducible assumption)
local macro_rules | `(tactic| walk_at "call builtin:len") => `(tactic| ((with_reducible show wpAny _ _ (call (Value.builtin "len") [Value.bytes _ _]) _ _ _); (refine' r_len ?rA ?_); (case rA => ktr_rel); intro _ _))
local macro_rules | `(tactic| walk_at "binaryOp Add bytes bytes") => `(tactic| ((with_reducible show wpAny _ _ (binaryOp Operator.Add (Value.bytes _ _) (Value.bytes _ _)) _ _ _); (refine' r_add ?rA ?rB ?_); (case rA => ktr_rel); (case rB => ktr_rel); intro _ _))
local macro_rules | `(tactic| walk_at "binaryOp Mult bytes int") => `(tactic| ((with_reducible show wpAny _ _ (binaryOp Operator.Mult (Value.bytes _ _) (Value.int _ _)) _ _ _); (refine' r_mul ?mA ?mB ?mC ?_); (case mA => first | (refine picked01 ?_; assumption) | rfl); (case mB => exact lead_lo); (case mC => (refine lead_hi ?_; ktr_rel)); intro _ _))
local macro_rules | `(tactic| walk_at "subscriptTail") => `(tactic| ((with_reducible show wpAny _ _ (subscriptTail _ (Expr.Slice _ _ none _) (Value.bytes _ _) (Value.ref _)) _ _ _); (with_reducible rename Fr _ _ _ _ => F'); (with_reducible rename News _ _ _ _ => N'); (refine' r_slice (s := ⟨_, _, _, _, _⟩) F' N' ?rA ?rB ?rC ?_); (case rA => constructor); (case rB => constructor); (case rC => ktr_rel); intro _ _ _ F' N'))
local macro_rules | `(tactic| walk_at "getMethod bytes") => `(tactic| first | (with_reducible refine m_lstrip ?_) | (with_reducible refine m_rstrip ?_))
local macro_rules | `(tactic| walk_at "call builtin:bytes.lstrip") => `(tactic| ((with_reducible show wpAny _ _ (call (Value.builtin "bytes.lstrip") [Value.bytes _ _, Value.bytes _ _]) _ _ _); (refine' r_lstrip ?rA ?_); (case rA => ktr_rel); intro _ _))
local macro_rules | `(tactic| walk_at "call builtin:bytes.rstrip") => `(tactic| ((with_reducible show wpAny _ _ (call (Value.builtin "bytes.rstrip") [Value.bytes _ _]) _ _ _); (refine' r_rstrip ?rA ?_); (case rA => assumption); intro _ _))
local macro_rules | `(tactic| walk_at "callWith ref") => `(tactic| (k_here; (with_reducible show wpAny _ _ (callWith _ (Value.ref _) _ (backTo _ (starEach (_ :: _) _)) (backToKw _ (keywordEach (_ :: _) _))) _ _ _); kfb_any; k_dflt (refine' fb_with ?fbN ?fbM ?fbA ?_; (case fbN => k_asm); (case fbM => k_mem); (case fbA => exact rfl); k_whole)))
local macro_rules | `(tactic| walk_at "call ref") => `(tactic| (k_here; kfb_any; k_dflt ((show wpAny _ _ (call (Value.ref _) [Value.bytes _ _] [(PySem.Str.ofString "byteorder", Value.str (PySem.Str.ofString "big") _)]) _ _ _); refine' fb_call ?fbN ?fbM ?fbS ?_; (case fbN => k_asm); (case fbM => k_mem); (case fbS => ktr_rel)); intro _ _))

local macro_rules | `(tactic| walk_at "eval DictComp") => `(tactic| (k_here; k_dflt (refine' dictComp_enum (al := _) ?dcN ?dcS ?dch ?dc1 ?dc2 ?dc3 ?dc4 ?dc5 ?dc6 ?dc7 ?dc8 ?dc9 ?_ ?dcs; (case dcN => assumption); (case dcS => omega); (case dch => exact rfl); (case dc1 => exact rfl); (case dc2 => decide); (case dc3 => exact rfl); (case dc4 => decide); (case dc5 => exact rfl); (case dc6 => exact rfl); (case dc7 => decide); (case dc8 => decide); (case dc9 => decide); (case dcs => intro _; exact rfl))))
local macro_rules | `(tactic| walk_at "call type:enumerate") => `(tactic| (k_here; k_dflt (refine' call_enumK ?ceF ?ceN ?_; (case ceF => k_asm); (case ceN => k_asm)); intro D' h' tk' o' F' N' l1 hMap'; (try k_lt l1); (try k_sweep)))
set_option maxHeartbeats 8000000 in
set_option pp.deepTerms false in
set_option pp.deepTerms.threshold 12 in
set_option pp.maxSteps 3000 in
theorem c_map {w : World} {p : Program} {loose : List PySem.Str} {mean : ExcName → Option Value} {mg mb : PySem.Str → Option Value} (al : Array UInt8) (ta : Tok) (hal : al.size = 58) (hnd : al.toList.Nodup) :
   GivesMap 1 w p loose mean mg mb 42 [.bytes al ta] [(Str.ofString "autofix", .bool false)] al := by
  k_with_none
  w_top off
  unfold GivesMap
  k_fill
  intro dp un gd cn cs a ccd cl outer A₀ base h₀ L m s Q E B F X T hk hdp hun hret
  refine wpAny_call ?_
  refine' codePC (binds := [(Str.ofString "alphabet", .bytes al ta), (Str.ofString "autofix", .bool false)]) ?k1 ?k2 ?k3 ?k5 ?kA ?kF ?kK ?k6 ?k7 ?k8 ?k9 ?kB ?kD ?_ ?c2 ?c3 ?c4; (case kA => exact rfl); (case kF => exact rfl); (case kK => assumption); (case k1 => k_asm); (case k2 => k_asm); (case k3 => k_asm); (case k5 => k_asm); (case k6 => k_is); (case k7 => k_is); (case k8 => ktr_room); (case k9 => exact BindsTo.of_eq rfl); (case kB => exact rfl); (case kD => decide +kernel); (case c2 => exact rfl); (case c3 => exact rfl); (case c4 => exact rfl); k_whole; intro g' L' h' tk' cells' Eg' FG' F' N' Y' B' X' T'; have hab := F'.above; k_cells Y'; (try simp only [List.cons_append, List.nil_append] at N'); (try dsimp only); (try k_lift B'); (try k_fold)
  k_steps
  all_goals
    intro hk9
    refine hret _ _ _ _ hk9 ?_ ?_ (by assumption)
    · have := congrArg (fun h => h.objs.size) Eg'
      omega
    · exact News.get (by assumption) (by k_mem)
end Mine
end

section
open PySem PySem.W PySem.Calls PySem.Builtin PyProof.Rows
set_option Elab.async false
set_option maxRecDepth 100000
namespace Mine

theorem extract_one {b : Array UInt8} {i : Nat} {x : UInt8} (h : (b.extract i (i + 1) == #[x]) = true) : x ∈ b.toList := by
  have e : b.extract i (i + 1) = #[x] := beq_iff_eq.mp h
  have hm : x ∈ (b.extract i (i + 1)).toList := by rw [e]; simp
  rw [Array.toList_extract] at hm
  simp only [List.extract] at hm
  exact List.mem_of_mem_drop (List.mem_of_mem_take hm)
theorem find_none {b : Array UInt8} {x : UInt8} (h : x ∉ b.toList) : (Bytes.find? b #[x] 0 b.size).isSome = false := by
  cases q : Bytes.find? b #[x] 0 b.size with
  | none => rfl
  | some i =>
    unfold Bytes.find? at q
    have := List.find?_some q
    exact absurd (extract_one this) h

section
variable {prog : Program} {w : World} {A : Around} {E : Value → Shared → Prop} {s : Shared} {b c : Array UInt8} {t u : Tok}
theorem asIndex_bytes {M : Model} {Q : Int → Shared → Prop} (hh : A.handled = none)
    (h : ∀ h' tk e, Heap.NewExc s.heap h' e "TypeError" → E (.ref e) { s with heap := h', toks := tk }) : wpAny M A (asIndex (.bytes b t)) Q E s := by
  unfold asIndex
  refine wpAny_bind (wpAny_of_eq (a := none) rfl ?_)
  refine wpAny_bind (wpAny_callSpecial?_none (T := "bytes") (typeIs_bytes s b t) (by rw [typeLookup_type, builtinLookup_eq_fast]; kernel_rfl) ?_)
  refine wpAny_bind (wpAny_of_eq (a := "bytes") (by kernel_rfl) ?_)
  exact wpAny_raiseTypeError hh h (by first | decide +kernel | size_fits)

theorem meets_containsB {x : UInt8} (hx : x ∉ b.toList) : Meets («bytes.__contains__» ⟨[.bytes b t, .bytes #[x] u], []⟩)
    (fun A R s => A.handled = none ∧ ∀ h' tk, s.heap.StaysIn h' → R (.ok (.ret (.bool false))) { s with heap := h', toks := tk }) := by
  refine .of_wp fun prog w A R s hS => ?_
  obtain ⟨hh, h⟩ := hS
  show wpAny _ _ (Bytes.containsIn "bytes.__contains__" (.bytes b t) (.bytes #[x] u) >>= fun r => _) _ _ s
  refine wpAny_bind ?_
  unfold Bytes.containsIn
  refine wpAny_bind (wpAny_attempt (asIndex_bytes (by first | exact hh | (show A.in1.handled = none; exact hh)) fun h' tk e hx' => ?_))
  refine wpAny_bind (wpAny_of_eq KBy.buffer_eq ?_)
  refine wpAny_bind (wpAny_of_eq KBy.buffer_eq ?_)
  refine wpAny_bind (wpAny_rule ?_)
  rw [find_none hx]
  exact wpAny_pure (wpAny_pure ⟨_, rfl, h _ _ hx'.keeps⟩)

theorem r_notin {x : UInt8} {h₀ : Heap} {L : Addr} {m : PySem.Str → Option Value} {news : List (Addr × Obj)} {Q : Value → Shared → Prop} (F : Fr h₀ L s.heap m) (N : News h₀ L s.heap news) (hx : x ∉ b.toList) (hh : A.handled = none)
    (h : ∀ h' tk, Fr h₀ L h' m → News h₀ L h' news → Q (.bool true) { s with heap := h', toks := tk }) :
    wpAny (model prog w) A (compareOp .NotIn (.bytes #[x] u) (.bytes b t)) Q E s := by
  show wpAny _ _ (do return .bool (!(← contains (.bytes b t) (.bytes #[x] u)))) Q E s
  refine wpAny_bind (wpAny_contains_slot (typeIs_bytes s b t) FB.slot_bytes_contains (call_meets (Q := fun v s' => wpAny _ A (truthy v) (fun b s'' => wpAny _ A (pure (Value.bool (!b))) Q E s'') E s') FB.slot_bytes_contains (typeIs_bytes s b t) FB.entry_bytes_contains (FB.args_bytes_contains_2 _ _) (meets_containsB hx) ⟨hh, fun h' tk st => ?_⟩))
  exact wpAny_truthy_bool (wpAny_pure (h h' tk (F.keeps st) fun q hq => ⟨st _ _ (N q hq).1, (N q hq).2⟩))

/-- the rank of a sign -/
def dig (al : Array UInt8) (c : UInt8) : Nat := al.toList.idxOf c
theorem dig_get {al : Array UInt8} {c : UInt8} (h : c ∈ al.toList) : al[dig al c]? = some c := by
  unfold dig
  rw [← Array.getElem?_toList]
  have hl : al.toList.idxOf c < al.toList.length := List.idxOf_lt_length_of_mem h
  rw [List.getElem?_eq_getElem hl]
  simp
theorem dig_lt {al : Array UInt8} {c : UInt8} (h : c ∈ al.toList) : dig al c < al.size := by
  unfold dig
  have hl : al.toList.idxOf c < al.toList.length := List.idxOf_lt_length_of_mem h
  rwa [Array.length_toList] at hl

theorem r_mapget {al : Array UInt8} {D : Addr} {o : Obj} {h₀ : Heap} {L : Addr} {news : List (Addr × Obj)} {value slice : PySem.Expr} {k : Int} {uk : Tok} {c : UInt8} {Q : Value → Shared → Prop} (N : News h₀ L s.heap news) (hm : (D, o) ∈ news) (hM : MapObj prog w al o)
    (hc : c ∈ al.toList) (hk : k = (c.toNat : Int))
    (h : ∀ t' tk, Q (.int (dig al c : Int) t') { s with toks := tk })
    (hs : subscripted slice false (.ref D) (.int k uk) = operate [.ref D, .int k uk] (getItem (.ref D) (.int k uk)) := by with_unfolding_all rfl) :
    wpAny (model prog w) A (subscriptTail value slice (.ref D) (.int k uk)) Q E s := by
  subst hk
  obtain ⟨kvs, t', hD, hv⟩ := hM.get (dig_get hc) (N.get hm)
  have hmap := hD.mapOf
  exact tail_any hmap.typeIs slot_dict_getitem.lookup (wpAny_getItem_of (intKind_is prog w _ uk) hmap hv (h _ _)) hs

theorem r_imul {x y : Int} (hy : y = 58) {Q : Value → Shared → Prop} (h : ∀ t' tk, Q (.int (x * 58) t') { s with toks := tk }) : wpAny (model prog w) A (binaryOp .Mult (.int x t) (.int y u)) Q E s := by
  subst hy
  exact PyProof.Rows.mul_int (h _ _) (IntMulOk.of_right (by decide))
end
end Mine
end

section
open PySem PySem.W PySem.Calls PySem.Builtin PyProof.Rows
set_option Elab.async false
set_option maxRecDepth 100000
namespace Mine

def digI (al : Array UInt8) (n : Int) : Int := (dig al n.toNat.toUInt8 : Nat)
def decI (al : Array UInt8) (pre : List Int) : Int := pre.foldl (fun a n => a * 58 + digI al n) 0
theorem decI_nil {al : Array UInt8} : (0 : Int) = decI al [] := rfl
theorem decI_snoc {al : Array UInt8} {pre : List Int} {n d : Int} (h : d = decI al pre) : d * 58 + digI al n = decI al (pre ++ [n]) := by
  subst h
  unfold decI
  rw [List.foldl_append]
  rfl
def decVal (al : Array UInt8) (l : List UInt8) : Nat := l.foldl (fun a c => a * 58 + dig al c) 0
theorem toNat_toUInt8 (c : UInt8) : ((c.toNat : Int)).toNat.toUInt8 = c := by
  rw [Int.toNat_natCast]
  exact UInt8.ofNat_toNat
theorem decI_fold (al : Array UInt8) : ∀ (l : List UInt8) (a : Nat), (l.map fun c => ((c.toNat : Nat) : Int)).foldl (fun a n => a * 58 + digI al n) (a : Int) = ((l.foldl (fun a c => a * 58 + dig al c) a : Nat) : Int)
  | [], _ => rfl
  | c :: r, a => by
    rw [List.map_cons, List.foldl_cons, List.foldl_cons, ← decI_fold al r]
    congr 1
    unfold digI
    rw [toNat_toUInt8]
    push_cast
    rfl
theorem decI_is (al v : Array UInt8) : decI al (KBw.bInts v) = (decVal al v.toList : Int) := decI_fold al v.toList 0

section
variable {prog : Program} {w : World} {A : Around} {E : Value → Shared → Prop} {s : Shared}
theorem r_mapget2 {al v : Array UInt8} {D : Addr} {o : Obj} {h₀ : Heap} {L : Addr} {news : List (Addr × Obj)} {value slice : PySem.Expr} {k : Int} {uk : Tok} {pre post : List Int} {Q : Value → Shared → Prop} (N : News h₀ L s.heap news) (hm : (D, o) ∈ news) (hM : MapObj prog w al o)
    (hv : ∀ c ∈ v.toList, c ∈ al.toList) (hk : KBw.bInts v = pre ++ k :: post)
    (h : ∀ t' tk, Q (.int (digI al k) t') { s with toks := tk })
    (hs : subscripted slice false (.ref D) (.int k uk) = operate [.ref D, .int k uk] (getItem (.ref D) (.int k uk)) := by with_unfolding_all rfl) :
    wpAny (model prog w) A (subscriptTail value slice (.ref D) (.int k uk)) Q E s := by
  have hmem : k ∈ KBw.bInts v := by rw [hk]; exact List.mem_append_right _ (.head _)
  obtain ⟨c, hc, rfl⟩ := List.mem_map.mp hmem
  refine r_mapget N hm hM (hv c hc) rfl (fun t' tk => ?_) hs
  have e : digI al (c.toNat : Int) = (dig al c : Int) := by unfold digI; rw [toNat_toUInt8]
  rw [← e]
  exact h t' tk
end
end Mine
end

section
open PySem PySem.W PySem.Calls PySem.Builtin PyProof.Rows
set_option Elab.async false
set_option maxRecDepth 100000
namespace Mine

theorem rv_no_bytes : typeLookup (.type "list_reverseiterator") "__bytes__" = pure none := by rw [typeLookup_type, builtinLookup_eq_fast]; kernel_rfl
theorem rv_no_index : typeLookup (.type "list_reverseiterator") "__index__" = pure none := by rw [typeLookup_type, builtinLookup_eq_fast]; kernel_rfl
theorem rv_no_buffer : typeLookup (.type "list_reverseiterator") "__buffer__" = pure none := by rw [typeLookup_type, builtinLookup_eq_fast]; kernel_rfl
theorem rv_no_len : typeLookup (.type "list_reverseiterator") "__len__" = pure none := by rw [typeLookup_type, builtinLookup_eq_fast]; kernel_rfl
theorem rv_hint : typeLookup (.type "list_reverseiterator") "__length_hint__" = pure (some (.builtin "list_reverseiterator.__length_hint__")) := by rw [typeLookup_type, builtinLookup_eq_fast]; kernel_rfl
theorem rv_split : splitId "list_reverseiterator.__length_hint__" = some ("list_reverseiterator", "__length_hint__") := by decide +kernel
theorem rv_sub : isSubtype (.type "list_reverseiterator") (.type "list_reverseiterator") = pure true := by rw [isSubtype_type]; kernel_rfl

section
variable {prog : Program} {w : World} {A : Around} {E : Value → Shared → Prop} {s : Shared}

theorem rv_loop {R : Result → Shared → Prop} {l I S : Addr} {vs : List Value} {ns : List Int} (hh : A.handled = none) (hi : IntsAre vs ns) (hr : ∀ n ∈ ns, 0 ≤ n ∧ n < 256) (hz : ns.length ≤ sizeLine) (hIS : I ≠ S) (hlI : l ≠ I) (hlS : l ≠ S) :
    ∀ (k i : Nat) (s : Shared), ns.length - i = k → i ≤ ns.length → s.heap.IsList l vs.toArray → s.heap.IsRevIter I l ((ns.length : Int) - 1 - (i : Int)) → s.heap.get? S = some { cls := .type "bytearray", data := .bytearray (byteArr (ns.reverse.take i)) } →
      (∀ h' t k', (∀ b o, b ≠ I → b ≠ S → s.heap.get? b = some o → h'.get? b = some o) → R (.ok (.ret (.bytes (byteArr ns.reverse) t))) { s with heap := h', toks := k' }) →
      codeAny (model prog w) A (.builtin "bytes.__new__.loop" ⟨[.type "bytes", .ref I, .ref S], []⟩) R s := by
  have hlen : vs.length = ns.length := hi.length
  have hrl : ns.reverse.length = ns.length := List.length_reverse
  intro k
  induction k with
  | zero =>
    intro i s hk hle hl hit hS hR
    have hin : i = ns.length := by omega
    subst hin
    refine codeAny_builtin F.bm_entry_loop ?_
    rw [Around.under_plainId F.bm_plain_loop _]
    show wpAny _ A.in1 (pyNext (.ref I) >>= _) _ _ s
    have hit' : s.heap.IsRevIter I l (-1) := by
      have e : (ns.length : Int) - 1 - ((ns.length : Nat) : Int) = -1 := by omega
      rw [e] at hit
      exact hit
    refine wpAny_bind (wpAny_pyNext_rev_end hh hit' fun h' he => ?_)
    have hS' : h'.get? S = some { cls := .type "bytearray", data := .bytearray (byteArr (ns.reverse.take ns.length)) } := he S _ (Ne.symm hIS) hS
    refine wpAny_bind ?_
    unfold Builtin.Bytes.payload Builtin.Bytes.payload?
    refine wpAny_bind (wpAny_bind (wpAny_load hS' ?_))
    refine wpAny_pure (wpAny_pure ?_)
    rw [← hrl, List.take_length]
    refine wpAny_bind (wpAny_mkBytes ?_ (by rw [byteArr_size, hrl]; exact hz))
    show wpAny _ _ (if (Value.type "bytes" == Value.type "bytes") = true then _ else _) _ _ _
    refine bm_if_true (by decide) ?_
    first
      | exact wpAny_pure (hR h' _ _ fun b o hb _ e => he b o hb e)
      | exact wpAny_bind (wpAny_pure (wpAny_pure (hR h' _ _ fun b o hb _ e => he b o hb e)))
  | succ k ih =>
    intro i s hk hle hl hit hS hR
    have hlt : i < ns.length := by omega
    have hj : ns.length - 1 - i < vs.length := by omega
    obtain ⟨x, hx⟩ : ∃ x, vs[ns.length - 1 - i]? = some x := ⟨vs[ns.length - 1 - i]'hj, List.getElem?_eq_getElem hj⟩
    obtain ⟨n, t, rfl, hn⟩ := IntsAre.at hi _ x hx
    obtain ⟨h0, h1⟩ := hr n (List.mem_of_getElem? hn)
    have hn' : ns.reverse[i]? = some n := by
      rw [List.getElem?_reverse (by omega)]
      exact hn
    refine codeAny_builtin F.bm_entry_loop ?_
    rw [Around.under_plainId F.bm_plain_loop _]
    show wpAny _ A.in1 (pyNext (.ref I) >>= _) _ _ s
    have hit' : s.heap.IsRevIter I l ((ns.length - 1 - i : Nat) : Int) := by
      have e : (ns.length : Int) - 1 - ((i : Nat) : Int) = ((ns.length - 1 - i : Nat) : Int) := by omega
      rw [e] at hit
      exact hit
    refine wpAny_bind (wpAny_pyNext_rev_item (x := .int n t) hit' hl (by simpa using hx) fun h' hit' hs => ?_)
    have hS' : h'.get? S = some { cls := .type "bytearray", data := .bytearray (byteArr (ns.reverse.take i)) } := (hs.2 S (Ne.symm hIS)).trans hS
    refine wpAny_bind (wpAny_holding (wpAny_of_eq (rfl : asIndex (.int n t) = pure n) ?_))
    refine wpAny_bind (wpAny_letGo ?_)
    refine bm_if_false (by simp only [Bool.or_eq_false_iff, decide_eq_false_iff_not]; omega) ?_
    refine wpAny_bind ?_
    show wpAny _ _ (updateBytearray S (·.push n.toNat.toUInt8)) _ _ _
    unfold updateBytearray
    refine wpAny_bind (wpAny_load hS' ?_)
    show wpAny _ _ (update S (Obj.mapBytearray (·.push n.toNat.toUInt8)) >>= fun _ => lookBehind S) _ _ _
    refine wpAny_bind (wpAny_update hS' ?_)
    have hS₂ : (h'.update S (Obj.mapBytearray (·.push n.toNat.toUInt8))).get? S = some { cls := .type "bytearray", data := .bytearray (byteArr (ns.reverse.take (i + 1))) } := by
      rw [byteArr_take hn']
      exact Heap.get?_update_self (Obj.mapBytearray (·.push n.toNat.toUInt8)) hS' rfl
    refine wpAny_lookBehind hS₂ ?_ ?_
    · show (if (byteArr (ns.reverse.take (i + 1))).size > sizeLine then some "bytearray:memory" else none) = none
      rw [if_neg]
      rw [byteArr_size, List.length_take]
      omega
    · refine wpAny_pure ⟨plainId_quiet F.bm_plain_loop _, ih (i + 1) { s with heap := h'.update S (Obj.mapBytearray (·.push n.toNat.toUInt8)) } (by omega) hlt ?_ ?_ hS₂ fun h3 t' k' hk3 => ?_⟩
      · exact (hl.extBut hs.extBut hlI).extBut (Heap.SameBut.update ..).extBut hlS
      · have e : ((ns.length - 1 - i : Nat) : Int) - 1 = (ns.length : Int) - 1 - ((i + 1 : Nat) : Int) := by omega
        rw [e] at hit'
        exact hit'.at fun o q => (Heap.SameBut.update ..).extBut _ _ hIS q
      · exact hR h3 t' k' fun b o hbI hbS e => hk3 b o hbI hbS ((Heap.get?_update_other _ _ (Ne.symm hbS)).trans (hs.extBut b o hbI e))

theorem rv_new {l D : Addr} {vs : List Value} {ns : List Int} {Q : Value → Shared → Prop} (hh : A.handled = none) (hl : s.heap.IsList l vs.toArray) (hit : s.heap.IsRevIter D l ((vs.length : Int) - 1)) (hlD : l ≠ D) (hi : IntsAre vs ns) (hr : ∀ n ∈ ns, 0 ≤ n ∧ n < 256) (hz : ns.length ≤ sizeLine)
    (hQ : ∀ h' t k, (∀ b o, b ≠ D → s.heap.get? b = some o → h'.get? b = some o) → Q (.bytes (byteArr ns.reverse) t) { s with heap := h', toks := k }) :
    codeAny (model prog w) A (.call (.builtin "bytes.__new__") ⟨[.type "bytes", .ref D], []⟩) (wants Q E) s := by
  refine codeAny_of_tree ?_
  show wpAny _ A.in1 (do checkBuiltinCall "bytes.__new__" ⟨[.type "bytes", .ref D], []⟩; again (.builtin "bytes.__new__" ⟨[.type "bytes", .ref D], []⟩)) _ _ s
  refine wpAny_bind (wpAny_of_eq (F.bm_newCall _) (wpAny_pure ⟨plainId_quiet F.bm_plain _, codeAny_builtin F.bm_entry ?_⟩))
  rw [Around.under_plainId F.bm_plain _]
  have hT : s.TypeIs (.ref D) "list_reverseiterator" := hit.typeIs
  obtain ⟨oD, hoD, hcD, hdD⟩ := id hit
  obtain ⟨ol, hol, hoc, nl, hod⟩ := id hl
  unfold Builtin.«bytes.__new__»
  refine wpAny_bind (wpAny_of_eq (a := true) rfl ?_)
  refine bm_if_false rfl ?_
  refine wpAny_bind (wpAny_of_eq F.bm_sub ?_)
  refine bm_if_false rfl ?_
  refine wpAny_bind (wpAny_of_eq (F.bm_bind _) ?_)
  refine wpAny_bind (wpAny_of_eq (a := ()) rfl ?_)
  refine wpAny_bind (wpAny_of_eq (a := ()) rfl ?_)
  refine bm_if_false rfl ?_
  refine wpAny_bind (wpAny_specialOf hT rv_no_bytes ?_)
  refine wpAny_bind (wpAny_bind ?_)
  show wpAny _ _ (load D >>= _) _ _ _
  refine wpAny_bind (wpAny_load hoD ?_)
  rw [hdD]
  refine wpAny_pure (wpAny_pure ?_)
  refine bm_if_false rfl ?_
  refine wpAny_bind (wpAny_specialOf hT rv_no_index ?_)
  refine bm_if_true rfl ?_
  first
    | show wpAny _ _ (Builtin.Bytes.buffer? "bytes.__new__" (.ref D) true >>= _) _ _ _
    | (refine wpAny_bind ?_; show wpAny _ _ (Builtin.Bytes.buffer? "bytes.__new__" (.ref D) true >>= _) _ _ _)
  refine wpAny_bind ?_
  unfold Builtin.Bytes.buffer?
  refine wpAny_bind (wpAny_specialOf hT rv_no_buffer ?_)
  refine wpAny_bind (wpAny_specialOf hT rv_no_buffer ?_)
  refine wpAny_pure ?_
  refine wpAny_bind (wpAny_tryCatch (wpAny_pyIter_revIter hit ?_))
  refine wpAny_bind (wpAny_holding ?_)
  unfold Builtin.Bytes.lengthHint
  refine wpAny_bind (wpAny_specialOf hT rv_no_len ?_)
  refine bm_if_false (by decide +kernel) ?_
  refine bm_if_false rfl ?_
  refine wpAny_bind (wpAny_specialOf hT rv_hint ?_)
  dsimp only
  rw [rv_split]
  dsimp only
  refine wpAny_bind (wpAny_isInstance hT rv_sub ?_)
  refine bm_if_false rfl ?_
  refine bm_if_true (by decide +kernel) ?_
  refine bm_if_false (by decide +kernel) ?_
  refine wpAny_pure ?_
  refine wpAny_bind ?_
  unfold Builtin.Bytes.newBytearray
  refine wpAny_newObj_type ?_ (Nat.zero_le _)
  have hltD : D < s.heap.objs.size := Heap.lt_size hoD
  have hltl : l < s.heap.objs.size := Heap.lt_size hol
  have hI : (s.heap.push { cls := .type "bytearray", data := .bytearray #[] }).IsRevIter D l ((ns.length : Int) - 1 - ((0 : Nat) : Int)) := by
    have e : (ns.length : Int) - 1 - ((0 : Nat) : Int) = (vs.length : Int) - 1 := by rw [hi.length]; omega
    rw [e]
    exact hit.at fun o q => Heap.get?_push_of_some _ q
  have main := rv_loop (prog := prog) (w := w) (A := A) (R := wants Q E) (l := l) (I := D) (S := s.heap.objs.size) hh hi hr hz (Nat.ne_of_lt hltD) hlD (Nat.ne_of_lt hltl)
    ns.length 0 { s with heap := s.heap.push { cls := .type "bytearray", data := .bytearray #[] } } rfl (Nat.zero_le _) (hl.push _) hI (Heap.get?_push_size _ rfl)
    fun h' t k hk => hQ h' t k fun b o hb e => hk b o hb (Nat.ne_of_lt (Heap.lt_size e)) (Heap.get?_push_of_some _ e)
  first
    | exact wpAny_pure ⟨plainId_quiet F.bm_plain_loop _, main⟩
    | exact wpAny_pure (wpAny_pure ⟨plainId_quiet F.bm_plain_loop _, main⟩)

theorem call_bytes_rev {l D : Addr} {vs : List Value} {ns : List Int} {Q : Value → Shared → Prop} (hl : s.heap.IsList l vs.toArray) (hit : s.heap.IsRevIter D l ((vs.length : Int) - 1)) (hlD : l ≠ D) (hi : IntsAre vs ns) (hr : ∀ n ∈ ns, 0 ≤ n ∧ n < 256) (hz : ns.length ≤ sizeLine) (hh : A.handled = none)
    (hQ : ∀ h' t k, (∀ b o, b ≠ D → s.heap.get? b = some o → h'.get? b = some o) → Q (.bytes (byteArr ns.reverse) t) { s with heap := h', toks := k }) : wpAny (model prog w) A (call (.type "bytes") [.ref D]) Q E s := by
  refine callType_codes (Q₁ := fun obj s₁ => s₁.TypeIs obj "bytes" ∧ Q obj s₁) F.bm_called (F.bm_typeCall _) F.entry_object_init
    (rv_new hh hl hit hlD hi hr hz fun h' t k hk => ⟨PySem.W.typeIs_bytes _ _ _, hQ h' t k hk⟩) fun obj s₁ h₁ => ?_
  exact ⟨h₁.1, F.args_object_init_2 obj _, object_init_meets F.bm_called.init.lookup F.bm_called.made (by decide) prog w A.in1 _ s₁ ⟨h₁.1, rfl, h₁.2⟩⟩

theorem r_bytesrev {h₀ : Heap} {L : Addr} {m : PySem.Str → Option Value} {rest : List (Addr × Obj)} {l D : Addr} {vs : List Value} {ns : List Int} {nl : Nat} {Q : Value → Shared → Prop} (F : Fr h₀ L s.heap m) (N : News h₀ L s.heap ((D, revObj l ((vs.length : Int) - 1)) :: rest)) (hm : (l, listOf vs.toArray nl) ∈ rest)
    (off : ∀ p ∈ rest, p.1 ≠ D) (hi : IntsAre vs ns) (hr : ∀ n ∈ ns, 0 ≤ n ∧ n < 256) (hz : ns.length ≤ 4096) (hh : A.handled = none)
    (h : ∀ h' t k, Fr h₀ L h' m → News h₀ L h' rest → Q (.bytes (byteArr ns.reverse) t) { s with heap := h', toks := k }) : wpAny (model prog w) A (call (.type "bytes") [.ref D]) Q E s := by
  have hD := N _ (List.mem_cons_self ..)
  have hl := N _ (List.mem_cons_of_mem _ hm)
  refine call_bytes_rev (l := l) ⟨_, hl.1, rfl, nl, rfl⟩ ⟨_, hD.1, rfl, rfl⟩ (off _ hm) hi hr (by rw [sizeLine_eq]; omega) hh fun h' t k hk => ?_
  have keep : ∀ b o, h₀.get? b = some o → h'.get? b = some o := fun b o q => hk b o (fun e => by have := hD.2.2; dsimp only at this; rw [← e, q] at this; cases this) (F.keep b o q)
  obtain ⟨oL, es, ep, hL, r⟩ := F.ns
  refine h h' t k ⟨⟨oL, es, ep, hk L oL (Ne.symm hD.2.1) hL, r⟩, keep, F.above⟩ fun p hp => ?_
  have q := N p (List.mem_cons_of_mem _ hp)
  exact ⟨hk _ _ (off p hp) q.1, q.2⟩
end
end Mine
end

section
open PySem PySem.W PySem.Calls PySem.Builtin PyProof.Rows
set_option Elab.async false
set_option maxRecDepth 100000
namespace Mine

theorem decI_is2 {al v : Array UInt8} {d : Int} (h : d = decI al (List.map (fun c => ((c.toNat : Nat) : Int)) v.toList)) : d = (decVal al v.toList : Int) := h.trans (decI_is al v)

/-- the base-256 figures of a number, the least first -/
def leD : Nat → Nat → List Int
  | 0, _ => []
  | f + 1, n => if n = 0 then [] else ((n % 256 : Nat) : Int) :: leD f (n / 256)

def DecInvD (N n₀ : Nat) (acc : Int) (res : List Int) : Prop :=
  0 ≤ acc ∧ (∀ x ∈ res, 0 ≤ x ∧ x < 256) ∧ N ≤ 4000 ∧ ∃ j, acc.toNat < 256 ^ j ∧ res.length + j = N ∧ res ++ leD j acc.toNat = leD N n₀

structure DecInv (N n₀ : Nat) (acc : Int) (res : List Int) : Prop where
  mk :: (d : DecInvD N n₀ acc res)

theorem DecInv.start {N n₀ : Nat} (hN : N ≤ 4000) (h : n₀ < 256 ^ N) : DecInv N n₀ (n₀ : Int) [] :=
  ⟨⟨Int.natCast_nonneg _, (fun _ h => nomatch h), hN, N, by rw [Int.toNat_natCast]; exact h, Nat.zero_add _, by rw [Int.toNat_natCast]; rfl⟩⟩
theorem DecInv.turn {N n₀ : Nat} {acc : Int} {res : List Int} (h : DecInv N n₀ acc res) (hp : acc > 0) :
    DecInv N n₀ (Int.fdiv acc 256) (res ++ [Int.fmod acc 256]) := by
  obtain ⟨h0, hr, hN, j, hj, hl, he⟩ := h.d
  obtain ⟨n, rfl⟩ := Int.eq_ofNat_of_zero_le h0
  have ed : Int.fdiv (n : Int) 256 = ((n / 256 : Nat) : Int) := by
    rw [Int.fdiv_eq_ediv_of_nonneg _ (by decide)]; rfl
  have em : Int.fmod (n : Int) 256 = ((n % 256 : Nat) : Int) := by
    rw [Int.fmod_eq_emod_of_nonneg _ (by decide)]; rfl
  rw [ed, em]
  rw [Int.toNat_natCast] at hj he
  have hn : n ≠ 0 := by omega
  cases j with
  | zero => rw [Nat.pow_zero] at hj; omega
  | succ j =>
    refine ⟨⟨Int.natCast_nonneg _, (fun x hx => ?_), hN, j, ?_, by rw [List.length_append, List.length_singleton]; omega, ?_⟩⟩
    · rcases List.mem_append.mp hx with hx | hx
      · exact hr x hx
      · rw [List.mem_singleton.mp hx]; omega
    · rw [Int.toNat_natCast]; rw [Nat.pow_succ] at hj; omega
    · rw [← he, Int.toNat_natCast, List.append_assoc]
      conv => rhs; unfold leD
      rw [if_neg hn]
      rfl
theorem DecInv.less {N n₀ : Nat} {acc : Int} {res : List Int} (h : DecInv N n₀ acc res) (hp : acc > 0) : (Int.fdiv acc 256).toNat < acc.toNat := by
  obtain ⟨h0, _⟩ := h.d
  obtain ⟨n, rfl⟩ := Int.eq_ofNat_of_zero_le h0
  have ed : Int.fdiv (n : Int) 256 = ((n / 256 : Nat) : Int) := by
    rw [Int.fdiv_eq_ediv_of_nonneg _ (by decide)]; rfl
  rw [ed, Int.toNat_natCast, Int.toNat_natCast]
  omega
theorem DecInv.range {N n₀ : Nat} {acc : Int} {res : List Int} (h : DecInv N n₀ acc res) : ∀ x ∈ res, 0 ≤ x ∧ x < 256 := h.d.2.1
theorem DecInv.len {N n₀ : Nat} {acc : Int} {res : List Int} (h : DecInv N n₀ acc res) : res.length ≤ 4096 := by
  obtain ⟨h0, hr, hN, j, hj, hl, he⟩ := h.d
  omega
theorem DecInv.done {N n₀ : Nat} {acc : Int} {res : List Int} (h : DecInv N n₀ acc res) (hp : ¬ acc > 0) : res = leD N n₀ := by
  obtain ⟨h0, _, _, j, _, _, he⟩ := h.d
  have hz : acc = 0 := by omega
  subst hz
  have : leD j (0 : Int).toNat = [] := by cases j <;> rfl
  rw [this, List.append_nil] at he
  exact he

theorem decVal_lt_aux (al : Array UInt8) (hal : al.size = 58) : ∀ (l : List UInt8) (a : Nat), (∀ c ∈ l, c ∈ al.toList) → l.foldl (fun a c => a * 58 + dig al c) a < (a + 1) * 58 ^ l.length
  | [], a, _ => by simp
  | c :: r, a, h => by
    rw [List.foldl_cons, List.length_cons, Nat.pow_succ]
    have h1 := decVal_lt_aux al hal r (a * 58 + dig al c) fun x hx => h x (.tail _ hx)
    have hc := dig_lt (h c (.head _))
    have h2 : (a * 58 + dig al c + 1) * 58 ^ r.length ≤ ((a + 1) * 58) * 58 ^ r.length := Nat.mul_le_mul_right _ (by omega)
    have e : (a + 1) * (58 ^ r.length * 58) = ((a + 1) * 58) * 58 ^ r.length := by rw [Nat.mul_comm (58 ^ r.length) 58, Nat.mul_assoc]
    omega
theorem decVal_lt {al : Array UInt8} (hal : al.size = 58) {v : Array UInt8} (h : ∀ c ∈ v.toList, c ∈ al.toList) {N : Nat} (hN : v.size ≤ N) : decVal al v.toList < 256 ^ N := by
  have h1 := decVal_lt_aux al hal v.toList 0 h
  rw [Nat.zero_add, Nat.one_mul, Array.length_toList] at h1
  have h2 : 58 ^ v.size ≤ 256 ^ v.size := Nat.pow_le_pow_left (by decide) _
  have h3 : 256 ^ v.size ≤ 256 ^ N := Nat.pow_le_pow_right (by decide) hN
  unfold decVal
  omega

theorem lst_mem {b c : Array UInt8} {x : UInt8} (h : x ∈ (lst b c).toList) : x ∈ b.toList := by
  unfold lst at h
  exact (List.dropWhile_sublist _).subset h
theorem lst_al {b c al : Array UInt8} (h : ∀ x ∈ b.toList, x ∈ al.toList) : ∀ x ∈ (lst b c).toList, x ∈ al.toList := fun x hx => h x (lst_mem hx)
theorem lst_nosp {b c : Array UInt8} (h : NoSp b) : NoSp (lst b c) := fun x hx => h x (lst_mem hx)

/-- what b58decode gives back, by plain reckoning -/
def decSpec (al v : Array UInt8) : Array UInt8 :=
  (List.replicate (v.size - (lst v #[al.toList.getD 0 0]).size) 0).toArray ++ byteArr (leD v.size (decVal al (lst v #[al.toList.getD 0 0]).toList)).reverse
theorem decSpec_is {al v : Array UInt8} (hal : al.size = 58) {res : List Int} (h : res = leD v.size (decVal al (lst v (KBy.picked al (some 0) (some 1))).toList)) :
    (List.replicate ((v.size : Int) - ((lst v (KBy.picked al (some 0) (some 1))).size : Int)).toNat (0 : UInt8)).toArray ++ byteArr res.reverse = decSpec al v := by
  subst h
  rw [picked01 hal]
  have e : ((v.size : Int) - ((lst v #[al.toList.getD 0 0]).size : Int)).toNat = v.size - (lst v #[al.toList.getD 0 0]).size := by omega
  rw [e]
  rfl
theorem sm_byteArr {ns : List Int} (h : ns.length ≤ 4096) : Sm (byteArr ns.reverse) := by unfold Sm; rw [byteArr_size, List.length_reverse]; exact h
end Mine
end

section
open PySem PySem.W PySem.Calls PySem.Builtin PyProof.Rows
set_option Elab.async false
set_option maxRecDepth 100000
namespace Mine

local macro_rules | `(tactic| ktr_rel) => `(tactic| ((with_reducible refine sm_picked ?_); ktr_rel))
local macro_rules | `(tactic| ktr_rel) => `(tactic| ((with_reducible refine sm_lst ?_); ktr_rel))
local macro_rules | `(tactic| ktr_rel) => `(tactic| ((with_reducible refine EncInv.sm ?smE); (case smE => assumption)))
local macro_rules | `(tactic| ktr_rel) => `(tactic| (refine' sm_of (n := 58) ?smA ?smB; (case smA => assumption); (case smB => decide)))
local macro_rules | `(tactic| ktr_rel) => `(tactic| with_reducible assumption)
local macro_rules | `(tactic| walk_at "call builtin:len") => `(tactic| ((with_reducible show wpAny _ _ (call (Value.builtin "len") [Value.bytes _ _]) _ _ _); (refine' r_len ?rA ?_); (case rA => ktr_rel); intro _ _))
local macro_rules | `(tactic| walk_at "binaryOp Add bytes bytes") => `(tactic| ((with_reducible show wpAny _ _ (binaryOp Operator.Add (Value.bytes _ _) (Value.bytes _ _)) _ _ _); (refine' r_add ?rA ?rB ?_); (case rA => ktr_rel); (case rB => ktr_rel); intro _ _))
local macro_rules | `(tactic| walk_at "binaryOp Mult bytes int") => `(tactic| ((with_reducible show wpAny _ _ (binaryOp Operator.Mult (Value.bytes _ _) (Value.int _ _)) _ _ _); (refine' r_mul ?mA ?mB ?mC ?_); (case mA => first | (refine picked01 ?_; assumption) | rfl); (case mB => exact lead_lo); (case mC => (refine lead_hi ?_; ktr_rel)); intro _ _))
local macro_rules | `(tactic| walk_at "subscriptTail") => `(tactic| ((with_reducible show wpAny _ _ (subscriptTail _ (Expr.Slice _ _ none _) (Value.bytes _ _) (Value.ref _)) _ _ _); (with_reducible rename Fr _ _ _ _ => F'); (with_reducible rename News _ _ _ _ => N'); (refine' r_slice (s := ⟨_, _, _, _, _⟩) F' N' ?rA ?rB ?rC ?_); (case rA => constructor); (case rB => constructor); (case rC => ktr_rel); intro _ _ _ F' N'))
local macro_rules | `(tactic| walk_at "getMethod bytes") => `(tactic| first | (with_reducible refine m_lstrip ?_) | (with_reducible refine m_rstrip ?_))
local macro_rules | `(tactic| walk_at "call builtin:bytes.lstrip") => `(tactic| ((with_reducible show wpAny _ _ (call (Value.builtin "bytes.lstrip") [Value.bytes _ _, Value.bytes _ _]) _ _ _); (refine' r_lstrip ?rA ?_); (case rA => ktr_rel); intro _ _))
local macro_rules | `(tactic| walk_at "call builtin:bytes.rstrip") => `(tactic| ((with_reducible show wpAny _ _ (call (Value.builtin "bytes.rstrip") [Value.bytes _ _]) _ _ _); (refine' r_rstrip ?rA ?_); (case rA => assumption); intro _ _))
local macro_rules | `(tactic| walk_at "callWith ref") => `(tactic| (k_here; (with_reducible show wpAny _ _ (callWith _ (Value.ref _) _ (backTo _ (starEach (_ :: _) _)) (backToKw _ (keywordEach (_ :: _) _))) _ _ _); kfb_any; k_dflt (refine' fb_with ?fbN ?fbM ?fbA ?_; (case fbN => k_asm); (case fbM => k_mem); (case fbA => exact rfl); k_whole)))
local macro_rules | `(tactic| walk_at "call ref") => `(tactic| (k_here; kfb_any; k_dflt ((show wpAny _ _ (call (Value.ref _) [Value.bytes _ _] [(PySem.Str.ofString "byteorder", Value.str (PySem.Str.ofString "big") _)]) _ _ _); refine' fb_call ?fbN ?fbM ?fbS ?_; (case fbN => k_asm); (case fbM => k_mem); (case fbS => ktr_rel)); intro _ _))

local macro_rules | `(tactic| walk_at "compareOp NotIn bytes bytes") => `(tactic| (k_here; (with_reducible show wpAny _ _ (compareOp CmpOp.NotIn (Value.bytes _ _) (Value.bytes _ _)) _ _ _); k_dflt (refine' r_notin ?niF ?niN ?niX ?niH ?_; (case niF => k_asm); (case niN => k_asm); (case niX => assumption); (case niH => exact rfl)); intro _ _ F' N'; (try k_sweep)))
local macro_rules | `(tactic| walk_at "binaryOp Mult int int") => `(tactic| ((refine' r_imul ?imE ?_); (case imE => omega); intro _ _))
local macro_rules | `(tactic| walk_at "subscriptTail") => `(tactic| (k_here; (with_reducible show wpAny _ _ (subscriptTail _ _ (Value.ref _) (Value.int _ _)) _ _ _); k_dflt (refine' r_mapget2 ?mgN ?mgM ?mgO ?mgV ?mgK ?_; (case mgN => k_asm); (case mgO => assumption); (case mgM => k_mem); (case mgV => assumption); (case mgK => assumption)); intro _ _))
local macro_rules | `(tactic| walk_at "call ref") => `(tactic| (k_here; (with_reducible show wpAny _ _ (call (Value.ref 21) _ _) _ _ _); k_dflt (refine' Gives.use (c_scrub _ _) ?uB ?uF ?uX ?uN ?uT ?uk ?ud ?uu ?_; (case uB => k_asm); (case uF => k_asm); (case uX => k_asm); (case uN => k_asm); (case uT => k_asm); (case uk => first | exact rfl | assumption); (case ud => ktr_room); (case uu => ktr_units)); intro _ _ _ F' N'; (try k_sweep)))
local macro_rules | `(tactic| walk_at "call ref") => `(tactic| (k_here; (with_reducible show wpAny _ _ (call (Value.ref 42) _ _) _ _ _); k_dflt (refine' GivesMap.use (c_map _ _ ?uA ?uD) ?uB ?uF ?uX ?uN ?uT ?uk ?ud ?uu ?_; (case uA => assumption); (case uD => assumption); (case uB => k_asm); (case uF => k_asm); (case uX => k_asm); (case uN => k_asm); (case uT => k_asm); (case uk => first | exact rfl | assumption); (case ud => ktr_room); (case uu => ktr_units)); intro D' o' h' tk' F' N' l1 hMap'; (try k_lt l1); (try k_sweep)))
set_option maxHeartbeats 8000000 in
set_option pp.deepTerms false in
set_option pp.deepTerms.threshold 12 in
set_option pp.maxSteps 3000 in
theorem b_decint {w : World} {p : Program} {loose : List PySem.Str} {mean : ExcName → Option Value} {mg mb : PySem.Str → Option Value} (v al : Array UInt8) (tv ta : Tok) (hal : al.size = 58) (hnd : al.toList.Nodup) (hs32 : (32 : UInt8) ∉ al.toList) (hv : ∀ c ∈ v.toList, c ∈ al.toList) (hsp : NoSp v) :
   GivesB 2 w p loose mean mg mb 51 [(Str.ofString "v", .bytes v tv), (Str.ofString "alphabet", .bytes al ta), (Str.ofString "autofix", .bool false)] (fun t => .int (decVal al v.toList : Int) t) := by
  k_with_none
  w_top off
  unfold GivesB
  intro pos kw hb
  unfold Gives
  k_fill
  intro dp un gd cn cs a ccd cl outer A₀ base h₀ L m s Q E B F X T hk hdp hun hret
  refine wpAny_call ?_
  refine' codeP ?k1 ?k2 ?k3 ?k5 ?kA ?kF ?kK ?k6 ?k7 ?k8 ?k9 ?kB ?_ ?c2 ?c3 ?c4 ?c5; (case kA => exact rfl); (case kF => exact rfl); (case kK => assumption); (case k1 => k_asm); (case k2 => k_asm); (case k3 => k_asm); (case k5 => k_asm); (case k6 => k_is); (case k7 => k_is); (case k8 => ktr_room); (case k9 => exact hb _ _ _ _ _ (by k_in) (by k_is)); (case c5 => decide); (case kB => exact locs rfl); (case c2 => exact rfl); (case c3 => exact rfl); (case c4 => exact rfl); k_whole; intro g' L' h' FG' F' N' B' X' T'; (try dsimp only); (try k_fold)
  k_with "pyIter bytes" => k_state (fun pre d => d = decI al pre) "decimal"
  k_with "state" => first | exact decI_nil | exact decI_snoc (by assumption)
  k_steps
  all_goals
    have e9 := decI_is2 (al := al) (v := v) (by assumption)
    exact GivesEnd hret ⟨_, by rw [e9]⟩ rfl
theorem c_decint {w : World} {p : Program} {loose : List PySem.Str} {mean : ExcName → Option Value} {mg mb : PySem.Str → Option Value} (v al : Array UInt8) (tv ta : Tok) (hal : al.size = 58) (hnd : al.toList.Nodup) (hs32 : (32 : UInt8) ∉ al.toList) (hv : ∀ c ∈ v.toList, c ∈ al.toList) (hsp : NoSp v) :
   Gives 2 w p loose mean mg mb 51 [.bytes v tv] [(Str.ofString "alphabet", .bytes al ta), (Str.ofString "autofix", .bool false)] (fun t => .int (decVal al v.toList : Int) t) :=
  b_decint v al tv ta hal hnd hs32 hv hsp _ _ fun s fd oc od osl X hl => by
    have := hl.symm.trans (show _ = some _ by k_is)
    cases this
    exact binds_K X rfl (by k_is) rfl rfl rfl
end Mine
end

section
open PySem PySem.W PySem.Calls PySem.Builtin PyProof.Rows
set_option Elab.async false
set_option maxRecDepth 100000
namespace Mine

local macro_rules | `(tactic| ktr_rel) => `(tactic| ((with_reducible refine sm_picked ?_); ktr_rel))
local macro_rules | `(tactic| ktr_rel) => `(tactic| ((with_reducible refine sm_lst ?_); ktr_rel))
local macro_rules | `(tactic| ktr_rel) => `(tactic| ((with_reducible refine EncInv.sm ?smE); (case smE => assumption)))
local macro_rules | `(tactic| ktr_rel) => `(tactic| (refine' sm_of (n := 58) ?smA ?smB; (case smA => assumption); (case smB => decide)))
local macro_rules | `(tactic| ktr_rel) => `(tactic| with_reducible assumption)
local macro_rules | `(tactic| walk_at "call builtin:len") => `(tactic| ((with_reducible show wpAny _ _ (call (Value.builtin "len") [Value.bytes _ _]) _ _ _); (refine' r_len ?rA ?_); (case rA => ktr_rel); intro _ _))
local macro_rules | `(tactic| walk_at "binaryOp Add bytes bytes") => `(tactic| ((with_reducible show wpAny _ _ (binaryOp Operator.Add (Value.bytes _ _) (Value.bytes _ _)) _ _ _); (refine' r_add ?rA ?rB ?_); (case rA => ktr_rel); (case rB => ktr_rel); intro _ _))
local macro_rules | `(tactic| walk_at "binaryOp Mult bytes int") => `(tactic| ((with_reducible show wpAny _ _ (binaryOp Operator.Mult (Value.bytes _ _) (Value.int _ _)) _ _ _); (refine' r_mul ?mA ?mB ?mC ?_); (case mA => first | (refine picked01 ?_; assumption) | rfl); (case mB => exact lead_lo); (case mC => (refine lead_hi ?_; ktr_rel)); intro _ _))
local macro_rules | `(tactic| walk_at "subscriptTail") => `(tactic| ((with_reducible show wpAny _ _ (subscriptTail _ (Expr.Slice _ _ none _) (Value.bytes _ _) (Value.ref _)) _ _ _); (with_reducible rename Fr _ _ _ _ => F'); (with_reducible rename News _ _ _ _ => N'); (refine' r_slice (s := ⟨_, _, _, _, _⟩) F' N' ?rA ?rB ?rC ?_); (case rA => constructor); (case rB => constructor); (case rC => ktr_rel); intro _ _ _ F' N'))
local macro_rules | `(tactic| walk_at "getMethod bytes") => `(tactic| first | (with_reducible refine m_lstrip ?_) | (with_reducible refine m_rstrip ?_))
local macro_rules | `(tactic| walk_at "call builtin:bytes.lstrip") => `(tactic| ((with_reducible show wpAny _ _ (call (Value.builtin "bytes.lstrip") [Value.bytes _ _, Value.bytes _ _]) _ _ _); (refine' r_lstrip ?rA ?_); (case rA => ktr_rel); intro _ _))
local macro_rules | `(tactic| walk_at "call builtin:bytes.rstrip") => `(tactic| ((with_reducible show wpAny _ _ (call (Value.builtin "bytes.rstrip") [Value.bytes _ _]) _ _ _); (refine' r_rstrip ?rA ?_); (case rA => assumption); intro _ _))
local macro_rules | `(tactic| walk_at "callWith ref") => `(tactic| (k_here; (with_reducible show wpAny _ _ (callWith _ (Value.ref _) _ (backTo _ (starEach (_ :: _) _)) (backToKw _ (keywordEach (_ :: _) _))) _ _ _); kfb_any; k_dflt (refine' fb_with ?fbN ?fbM ?fbA ?_; (case fbN => k_asm); (case fbM => k_mem); (case fbA => exact rfl); k_whole)))
local macro_rules | `(tactic| walk_at "call ref") => `(tactic| (k_here; kfb_any; k_dflt ((show wpAny _ _ (call (Value.ref _) [Value.bytes _ _] [(PySem.Str.ofString "byteorder", Value.str (PySem.Str.ofString "big") _)]) _ _ _); refine' fb_call ?fbN ?fbM ?fbS ?_; (case fbN => k_asm); (case fbM => k_mem); (case fbS => ktr_rel)); intro _ _))

local macro_rules | `(tactic| ktr_rel) => `(tactic| ((with_reducible refine sm_rep ?_); (refine lead_hi ?_); ktr_rel))
local macro_rules | `(tactic| ktr_rel) => `(tactic| ((with_reducible refine sm_byteArr ?_); (refine DecInv.len (N := ?dN) (n₀ := ?dM) (acc := ?dA) ?dX; case dX => assumption)))
local macro_rules | `(tactic| size_fits) => `(tactic| ((have hb9 := DecInv.len (by assumption)); (simp only [List.size_toArray, PySem.sizeLine_eq]); omega))
local macro_rules | `(tactic| kst_facts) => `(tactic| ((try dsimp only); first | exact PyProof.Rows.IntsAre.nil | (with_reducible exact ints_snoc (by assumption)) | (with_reducible assumption)))
local macro_rules | `(tactic| walk_at "call type:bytes") => `(tactic| (k_here; (with_reducible show wpAny _ _ (call (Value.type _) [Value.ref _]) _ _ _); k_dflt (refine' r_bytesrev ?rbF ?rbN ?rbM ?rbO ?rbI ?rbR ?rbZ ?rbH ?_; (case rbF => k_asm); (case rbN => k_asm); (case rbM => k_mem); (case rbO => k_all); (case rbI => assumption); (case rbR => exact DecInv.range (by assumption)); (case rbZ => exact DecInv.len (by assumption)); (case rbH => exact rfl)); intro _ _ _ F' N'; (try k_sweep)))
local macro_rules | `(tactic| walk_at "call ref") => `(tactic| (k_here; (with_reducible show wpAny _ _ (call (Value.ref 21) _ _) _ _ _); k_dflt (refine' Gives.use (c_scrub _ _) ?uB ?uF ?uX ?uN ?uT ?uk ?ud ?uu ?_; (case uB => k_asm); (case uF => k_asm); (case uX => k_asm); (case uN => k_asm); (case uT => k_asm); (case uk => first | exact rfl | assumption); (case ud => ktr_room); (case uu => ktr_units)); intro _ _ _ F' N'; (try k_sweep)))
local macro_rules | `(tactic| walk_at "call ref") => `(tactic| (k_here; (with_reducible show wpAny _ _ (call (Value.ref 51) _ _) _ _ _); k_dflt (refine' Gives.use (c_decint _ _ _ _ (by assumption) (by assumption) (by assumption) ?uV ?uS) ?uB ?uF ?uX ?uN ?uT ?uk ?ud ?uu ?_; (case uV => exact lst_al (by assumption)); (case uS => exact lst_nosp (by assumption)); (case uB => k_asm); (case uF => k_asm); (case uX => k_asm); (case uN => k_asm); (case uT => k_asm); (case uk => first | exact rfl | assumption); (case ud => ktr_room); (case uu => ktr_units)); intro _ _ _ F' N'; (try k_sweep)))
theorem news_tail {h₀ : Heap} {L : Addr} {h : Heap} {p : Addr × Obj} {l : List (Addr × Obj)} (N : News h₀ L h (p :: l)) : News h₀ L h l := fun q hq => N q (List.mem_cons_of_mem _ hq)
local macro_rules | `(tactic| walk_at "call builtin:list.append") => `(tactic| (k_here; (with_reducible rename News _ _ _ _ => N'); (replace N' := news_tail N'); (with_reducible show wpAny _ _ (call (Value.builtin _) [Value.ref _, _]) _ _ _); k_dflt (refine' append_K ?k1 ?k2 ?k3 ?_ ?z; (case k1 => k_asm); (case k2 => k_asm); (case k3 => k_upd); (case z => size_fits); k_whole); intro h' F' N'; (try k_sweep)))
theorem ints_snoc {l : List Value} {z : List Int} {n : Int} {t : Tok} (h : PyProof.Rows.IntsAre l z) : PyProof.Rows.IntsAre (l ++ [.int n t]) (z ++ [n]) := by
  induction h with
  | nil => exact .cons _ _ .nil
  | cons m u _ ih => exact .cons _ _ ih
set_option maxHeartbeats 8000000 in
set_option pp.deepTerms false in
set_option pp.deepTerms.threshold 12 in
set_option pp.maxSteps 3000 in
theorem b_dec {w : World} {p : Program} {loose : List PySem.Str} {mean : ExcName → Option Value} {mg mb : PySem.Str → Option Value} (v al : Array UInt8) (tv ta : Tok) (hal : al.size = 58) (hnd : al.toList.Nodup) (hs32 : (32 : UInt8) ∉ al.toList) (hv : ∀ c ∈ v.toList, c ∈ al.toList) (hsp : NoSp v) (hsm : Sm v) (hN : v.size ≤ 4000) :
   GivesB 3 w p loose mean mg mb 60 [(Str.ofString "v", .bytes v tv), (Str.ofString "alphabet", .bytes al ta), (Str.ofString "autofix", .bool false)] (fun t => .bytes (decSpec al v) t) := by
  k_with_none
  w_top off
  unfold GivesB
  intro pos kw hb
  unfold Gives
  k_fill
  intro dp un gd cn cs a ccd cl outer A₀ base h₀ L m s Q E B F X T hk hdp hun hret
  refine wpAny_call ?_
  refine' codeP ?k1 ?k2 ?k3 ?k5 ?kA ?kF ?kK ?k6 ?k7 ?k8 ?k9 ?kB ?_ ?c2 ?c3 ?c4 ?c5; (case kA => exact rfl); (case kF => exact rfl); (case kK => assumption); (case k1 => k_asm); (case k2 => k_asm); (case k3 => k_asm); (case k5 => k_asm); (case k6 => k_is); (case k7 => k_is); (case k8 => ktr_room); (case k9 => exact hb _ _ _ _ _ (by k_in) (by k_is)); (case c5 => decide); (case kB => exact locs rfl); (case c2 => exact rfl); (case c3 => exact rfl); (case c4 => exact rfl); k_whole; intro g' L' h' FG' F' N' B' X' T'; (try dsimp only); (try k_fold)
  have hlt : decVal al (lst v (KBy.picked al (some 0) (some 1))).toList < 256 ^ v.size := decVal_lt hal (lst_al hv) (size_lst _ _)
  k_with "exec While Compare cons nil" => k_while (fun _ acc res => DecInv v.size (decVal al (lst v (KBy.picked al (some 0) (some 1))).toList) acc res) (fun _ acc _ => acc.toNat) "acc" "result"
  k_with "state" => first | exact DecInv.start hN hlt | exact DecInv.turn (by assumption) (by assumption)
  k_with "measure" => exact DecInv.less (by assumption) (by assumption)
  k_steps
  all_goals
    have e9 := DecInv.done (by assumption) (by assumption)
    exact GivesEnd hret ⟨_, by rw [decSpec_is hal e9]⟩ rfl
end Mine
end

section
open PySem PySem.W PySem.Calls PySem.Builtin PyProof.Rows
set_option Elab.async false
set_option maxRecDepth 100000
namespace Mine

local macro_rules | `(tactic| ktr_rel) => `(tactic| ((with_reducible refine sm_picked ?_); ktr_rel))
local macro_rules | `(tactic| ktr_rel) => `(tactic| ((with_reducible refine sm_lst ?_); ktr_rel))
local macro_rules | `(tactic| ktr_rel) => `(tactic| ((with_reducible refine EncInv.sm ?smE); (case smE => assumption)))
local macro_rules | `(tactic| ktr_rel) => `(tactic| (refine' sm_of (n := 58) ?smA ?smB; (case smA => assumption); (case smB => decide)))
local macro_rules | `(tactic| ktr_rel) => `(tactic| with_reducible assumption)
local macro_rules | `(tactic| walk_at "call builtin:len") => `(tactic| ((with_reducible show wpAny _ _ (call (Value.builtin "len") [Value.bytes _ _]) _ _ _); (refine' r_len ?rA ?_); (case rA => ktr_rel); intro _ _))
local macro_rules | `(tactic| walk_at "binaryOp Add bytes bytes") => `(tactic| ((with_reducible show wpAny _ _ (binaryOp Operator.Add (Value.bytes _ _) (Value.bytes _ _)) _ _ _); (refine' r_add ?rA ?rB ?_); (case rA => ktr_rel); (case rB => ktr_rel); intro _ _))
local macro_rules | `(tactic| walk_at "binaryOp Mult bytes int") => `(tactic| ((with_reducible show wpAny _ _ (binaryOp Operator.Mult (Value.bytes _ _) (Value.int _ _)) _ _ _); (refine' r_mul ?mA ?mB ?mC ?_); (case mA => first | (refine picked01 ?_; assumption) | rfl); (case mB => exact lead_lo); (case mC => (refine lead_hi ?_; ktr_rel)); intro _ _))
local macro_rules | `(tactic| walk_at "subscriptTail") => `(tactic| ((with_reducible show wpAny _ _ (subscriptTail _ (Expr.Slice _ _ none _) (Value.bytes _ _) (Value.ref _)) _ _ _); (with_reducible rename Fr _ _ _ _ => F'); (with_reducible rename News _ _ _ _ => N'); (refine' r_slice (s := ⟨_, _, _, _, _⟩) F' N' ?rA ?rB ?rC ?_); (case rA => constructor); (case rB => constructor); (case rC => ktr_rel); intro _ _ _ F' N'))
local macro_rules | `(tactic| walk_at "getMethod bytes") => `(tactic| first | (with_reducible refine m_lstrip ?_) | (with_reducible refine m_rstrip ?_))
local macro_rules | `(tactic| walk_at "call builtin:bytes.lstrip") => `(tactic| ((with_reducible show wpAny _ _ (call (Value.builtin "bytes.lstrip") [Value.bytes _ _, Value.bytes _ _]) _ _ _); (refine' r_lstrip ?rA ?_); (case rA => ktr_rel); intro _ _))
local macro_rules | `(tactic| walk_at "call builtin:bytes.rstrip") => `(tactic| ((with_reducible show wpAny _ _ (call (Value.builtin "bytes.rstrip") [Value.bytes _ _]) _ _ _); (refine' r_rstrip ?rA ?_); (case rA => assumption); intro _ _))
local macro_rules | `(tactic| walk_at "callWith ref") => `(tactic| (k_here; (with_reducible show wpAny _ _ (callWith _ (Value.ref _) _ (backTo _ (starEach (_ :: _) _)) (backToKw _ (keywordEach (_ :: _) _))) _ _ _); kfb_any; k_dflt (refine' fb_with ?fbN ?fbM ?fbA ?_; (case fbN => k_asm); (case fbM => k_mem); (case fbA => exact rfl); k_whole)))
local macro_rules | `(tactic| walk_at "call ref") => `(tactic| (k_here; kfb_any; k_dflt ((show wpAny _ _ (call (Value.ref _) [Value.bytes _ _] [(PySem.Str.ofString "byteorder", Value.str (PySem.Str.ofString "big") _)]) _ _ _); refine' fb_call ?fbN ?fbM ?fbS ?_; (case fbN => k_asm); (case fbM => k_mem); (case fbS => ktr_rel)); intro _ _))

local macro_rules | `(tactic| walk_at "exec For Name Name cons nil") => `(tactic| (k_here; (rename Fr _ _ _ _ => lF'); (with_unfolding_all refine' For_turnsG lF' ?g ?_; (case g => exact rfl); k_whole)))

/-- the law's own hash, by plain reckoning -/
def hashGo : List (Array UInt8 × Array UInt8 × Array UInt8) → Array UInt8 → Array UInt8 → Array UInt8
  | [], fx, _ => fx
  | p :: r, fx, d => if (d.toList == p.1.toList) = true then p.2.1 else if (d.toList == p.2.1.toList) = true then p.2.2 else hashGo r fx d
theorem hg1 {a b c fx d : Array UInt8} {r : List (Array UInt8 × Array UInt8 × Array UInt8)} (h : (d.toList == a.toList) = true) : hashGo ((a, b, c) :: r) fx d = b := if_pos h
theorem hg2 {a b c fx d : Array UInt8} {r : List (Array UInt8 × Array UInt8 × Array UInt8)} (h : (d.toList == a.toList) = false) (h' : (d.toList == b.toList) = true) : hashGo ((a, b, c) :: r) fx d = c := by
  show (if _ then _ else _) = _
  rw [if_neg (by rw [h]; exact Bool.false_ne_true)]; exact if_pos h'
theorem hg3 {a b c fx d x : Array UInt8} {r : List (Array UInt8 × Array UInt8 × Array UInt8)} (h : (d.toList == a.toList) = false) (h' : (d.toList == b.toList) = false) (e : hashGo r fx d = x) : hashGo ((a, b, c) :: r) fx d = x := by
  show (if _ then _ else _) = _
  rw [if_neg (by rw [h]; exact Bool.false_ne_true), if_neg (by rw [h']; exact Bool.false_ne_true)]; exact e
def papersL : List (Array UInt8 × Array UInt8 × Array UInt8) := [(#[0, 98, 233, 7, 177, 92, 191, 39, 213, 66, 83, 153, 235, 246, 240, 251, 80, 235, 184, 143, 24], #[155, 144, 241, 109, 231, 240, 229, 128, 192, 119, 53, 218, 193, 95, 254, 35, 226, 248, 248, 225, 3, 145, 78, 80, 154, 169, 25, 19, 255, 219, 159, 182], #[194, 155, 125, 147, 126, 48, 73, 226, 121, 57, 30, 98, 253, 240, 12, 18, 222, 247, 68, 64, 19, 221, 246, 33, 88, 8, 209, 14, 159, 45, 89, 150]), (#[5, 180, 114, 162, 102, 208, 189, 137, 193, 55, 6, 164, 19, 44, 207, 177, 111, 124, 59, 159, 203], #[154, 54, 221, 224, 48, 103, 144, 127, 213, 84, 30, 240, 110, 104, 198, 221, 37, 100, 9, 33, 151, 224, 36, 18, 147, 209, 131, 193, 231, 100, 212, 1], #[129, 252, 252, 2, 183, 29, 231, 46, 145, 104, 74, 121, 227, 145, 216, 51, 95, 154, 115, 204, 9, 62, 187, 226, 0, 176, 186, 76, 133, 106, 58, 242]), (#[0, 181, 247, 98, 121, 138, 83, 213, 67, 160, 20, 202, 248, 178, 151, 207, 248, 242, 249, 55, 232], #[136, 147, 166, 243, 6, 140, 166, 125, 229, 108, 110, 36, 124, 140, 58, 117, 179, 130, 67, 165, 80, 255, 234, 21, 77, 82, 240, 139, 228, 190, 240, 164], #[191, 50, 186, 159, 16, 212, 225, 172, 244, 116, 2, 105, 36, 181, 136, 199, 218, 96, 70, 24, 116, 255, 145, 0, 98, 184, 72, 181, 233, 232, 209, 252]), (#[128, 12, 40, 252, 163, 134, 199, 162, 39, 96, 11, 47, 229, 11, 124, 174, 17, 236, 134, 211, 191, 31, 190, 71, 27, 232, 152, 39, 225, 157, 114, 170, 29], #[129, 71, 120, 108, 77, 21, 16, 99, 51, 191, 39, 141, 113, 218, 218, 241, 7, 158, 242, 210, 68, 10, 77, 222, 55, 215, 71, 222, 213, 64, 53, 146], #[80, 122, 91, 141, 254, 208, 252, 111, 232, 128, 23, 67, 114, 12, 237, 236, 6, 170, 92, 111, 202, 114, 176, 124, 73, 150, 68, 146, 251, 152, 167, 20]), (#[4, 136, 178, 30, 0, 0, 0, 0, 0, 0, 0, 0, 0, 135, 61, 255, 129, 192, 47, 82, 86, 35, 253, 31, 229, 22, 126, 172, 58, 85, 160, 73, 222, 61, 49, 75, 180, 46, 226, 39, 255, 237, 55, 213, 8, 3, 57, 163, 96, 19, 48, 21, 151, 218, 239, 65, 251, 229, 147, 160, 44, 197, 19, 208, 181, 85, 39, 236, 45, 241, 5, 14, 46, 143, 244, 156, 133, 194], #[165, 243, 245, 160, 21, 132, 106, 205, 13, 21, 47, 149, 113, 118, 189, 166, 77, 57, 241, 128, 71, 9, 210, 89, 85, 222, 132, 74, 254, 213, 88, 149], #[171, 71, 59, 33, 128, 12, 225, 246, 51, 164, 54, 74, 108, 59, 148, 40, 221, 249, 107, 115, 209, 211, 73, 153, 28, 43, 113, 162, 142, 137, 28, 30])]
def fixedL : Array UInt8 := #[90, 165, 60, 195, 90, 165, 60, 195, 90, 165, 60, 195, 90, 165, 60, 195, 90, 165, 60, 195, 90, 165, 60, 195, 90, 165, 60, 195, 90, 165, 60, 195]
def hashSpec (d : Array UInt8) : Array UInt8 := hashGo papersL fixedL d
theorem hash_val {d x : Array UInt8} {t : Tok} (h : hashSpec d = x) : ∃ t', Value.bytes x t = (fun t => Value.bytes (hashSpec d) t) t' := ⟨t, by rw [h]⟩
set_option maxHeartbeats 8000000 in
set_option pp.deepTerms false in
set_option pp.deepTerms.threshold 12 in
set_option pp.maxSteps 3000 in
theorem b_hash {w : World} {p : Program} {loose : List PySem.Str} {mean : ExcName → Option Value} {mg mb : PySem.Str → Option Value} (d : Array UInt8) (td : Tok) :
   GivesB 0 w p loose mean mg mb 110 [(Str.ofString "data", .bytes d td)] (fun t => .bytes (hashSpec d) t) := by
  k_with_none
  w_top off
  unfold GivesB
  intro pos kw hb
  unfold Gives
  k_fill
  intro dp un gd cn cs a ccd cl outer A₀ base h₀ L m s Q E B F X T hk hdp hun hret
  refine wpAny_call ?_
  refine' codeP ?k1 ?k2 ?k3 ?k5 ?kA ?kF ?kK ?k6 ?k7 ?k8 ?k9 ?kB ?_ ?c2 ?c3 ?c4 ?c5; (case kA => exact rfl); (case kF => exact rfl); (case kK => assumption); (case k1 => k_asm); (case k2 => k_asm); (case k3 => k_asm); (case k5 => k_asm); (case k6 => k_is); (case k7 => k_is); (case k8 => ktr_room); (case k9 => exact hb _ _ _ _ _ (by k_in) (by k_is)); (case c5 => decide); (case kB => exact locs rfl); (case c2 => exact rfl); (case c3 => exact rfl); (case c4 => exact rfl); k_whole; intro g' L' h' FG' F' N' B' X' T'; (try dsimp only); (try k_fold)
  k_steps
  all_goals
    refine GivesEnd hret (hash_val ?_) rfl
    unfold hashSpec papersL
    iterate 5 (try (refine hg3 (by assumption) (by assumption) ?_))
    first | exact rfl | exact hg1 (by assumption) | exact hg2 (by assumption) (by assumption)
theorem c_hash {w : World} {p : Program} {loose : List PySem.Str} {mean : ExcName → Option Value} {mg mb : PySem.Str → Option Value} (d : Array UInt8) (td : Tok) :
   Gives 0 w p loose mean mg mb 110 [.bytes d td] [] (fun t => .bytes (hashSpec d) t) :=
  b_hash d td _ _ fun s fd oc od osl X hl => by
    have := hl.symm.trans (show _ = some _ by k_is)
    cases this
    exact BindsTo.of_eq rfl
end Mine
end

section
open PySem PySem.W PySem.Calls PySem.Builtin PyProof.Rows
set_option Elab.async false
set_option maxRecDepth 100000
namespace Mine
theorem hash_size (d : Array UInt8) : (hashSpec d).size ≤ 32 := by
  have H : ∀ (l : List (Array UInt8 × Array UInt8 × Array UInt8)) (fx : Array UInt8), (∀ p ∈ l, p.2.1.size ≤ 32 ∧ p.2.2.size ≤ 32) → fx.size ≤ 32 → (hashGo l fx d).size ≤ 32 := by
    intro l fx
    induction l with
    | nil => intro _ h; exact h
    | cons p r ih =>
      intro h hf
      unfold hashGo
      split
      · exact (h p (.head _)).1
      · split
        · exact (h p (.head _)).2
        · exact ih (fun q hq => h q (.tail _ hq)) hf
  refine H _ _ (fun p hp => ?_) (by decide)
  have : (papersL.all fun p => decide (p.2.1.size ≤ 32 ∧ p.2.2.size ≤ 32)) = true := by decide +kernel
  exact of_decide_eq_true (List.all_eq_true.mp this p hp)
theorem sm_hash (d : Array UInt8) : Sm (hashSpec d) := Nat.le_trans (hash_size d) (by decide)
theorem size_v4 {v d : Array UInt8} (h : v.size ≤ 400) : (v ++ KBy.picked (hashSpec d) none (some 4)).size ≤ 500 := by
  have h1 := KBc.size_picked_le (hashSpec d) none (some 4)
  have h2 := hash_size d
  rw [Array.size_append]
  omega
theorem sm_v4 {v d : Array UInt8} (h : v.size ≤ 400) : Sm (v ++ KBy.picked (hashSpec d) none (some 4)) := Nat.le_trans (size_v4 h) (by decide)
set_option maxHeartbeats 8000000 in
set_option pp.deepTerms false in
set_option pp.deepTerms.threshold 12 in
set_option pp.maxSteps 3000 in
theorem c_enck {w : World} {p : Program} {loose : List PySem.Str} {mean : ExcName → Option Value} {mg mb : PySem.Str → Option Value} (v al : Array UInt8) (tv ta : Tok) (hal : al.size = 58) (hv : Sm v) (hv5 : v.size ≤ 500) :
   Gives 1 w p loose mean mg mb 37 [.bytes v tv] [(Str.ofString "alphabet", .bytes al ta)] (fun t => .bytes (encSpec al v).toArray t) := by
  unfold Gives
  k_fill
  exact b_enc v al tv ta hal hv hv5 _ _ fun s fd oc od osl X hl => by
    have := hl.symm.trans (show _ = some _ by k_is)
    cases this
    exact binds_K X rfl (by k_is) rfl rfl rfl

local macro_rules | `(tactic| ktr_rel) => `(tactic| ((with_reducible refine sm_picked ?_); ktr_rel))
local macro_rules | `(tactic| ktr_rel) => `(tactic| ((with_reducible refine sm_lst ?_); ktr_rel))
local macro_rules | `(tactic| ktr_rel) => `(tactic| ((with_reducible refine EncInv.sm ?smE); (case smE => assumption)))
local macro_rules | `(tactic| ktr_rel) => `(tactic| (refine' sm_of (n := 58) ?smA ?smB; (case smA => assumption); (case smB => decide)))
local macro_rules | `(tactic| ktr_rel) => `(tactic| with_reducible assumption)
local macro_rules | `(tactic| walk_at "call builtin:len") => `(tactic| ((with_reducible show wpAny _ _ (call (Value.builtin "len") [Value.bytes _ _]) _ _ _); (refine' r_len ?rA ?_); (case rA => ktr_rel); intro _ _))
local macro_rules | `(tactic| walk_at "binaryOp Add bytes bytes") => `(tactic| ((with_reducible show wpAny _ _ (binaryOp Operator.Add (Value.bytes _ _) (Value.bytes _ _)) _ _ _); (refine' r_add ?rA ?rB ?_); (case rA => ktr_rel); (case rB => ktr_rel); intro _ _))
local macro_rules | `(tactic| walk_at "binaryOp Mult bytes int") => `(tactic| ((with_reducible show wpAny _ _ (binaryOp Operator.Mult (Value.bytes _ _) (Value.int _ _)) _ _ _); (refine' r_mul ?mA ?mB ?mC ?_); (case mA => first | (refine picked01 ?_; assumption) | rfl); (case mB => exact lead_lo); (case mC => (refine lead_hi ?_; ktr_rel)); intro _ _))
local macro_rules | `(tactic| walk_at "subscriptTail") => `(tactic| ((with_reducible show wpAny _ _ (subscriptTail _ (Expr.Slice _ _ none _) (Value.bytes _ _) (Value.ref _)) _ _ _); (with_reducible rename Fr _ _ _ _ => F'); (with_reducible rename News _ _ _ _ => N'); (refine' r_slice (s := ⟨_, _, _, _, _⟩) F' N' ?rA ?rB ?rC ?_); (case rA => constructor); (case rB => constructor); (case rC => ktr_rel); intro _ _ _ F' N'))
local macro_rules | `(tactic| walk_at "getMethod bytes") => `(tactic| first | (with_reducible refine m_lstrip ?_) | (with_reducible refine m_rstrip ?_))
local macro_rules | `(tactic| walk_at "call builtin:bytes.lstrip") => `(tactic| ((with_reducible show wpAny _ _ (call (Value.builtin "bytes.lstrip") [Value.bytes _ _, Value.bytes _ _]) _ _ _); (refine' r_lstrip ?rA ?_); (case rA => ktr_rel); intro _ _))
local macro_rules | `(tactic| walk_at "call builtin:bytes.rstrip") => `(tactic| ((with_reducible show wpAny _ _ (call (Value.builtin "bytes.rstrip") [Value.bytes _ _]) _ _ _); (refine' r_rstrip ?rA ?_); (case rA => assumption); intro _ _))
local macro_rules | `(tactic| walk_at "callWith ref") => `(tactic| (k_here; (with_reducible show wpAny _ _ (callWith _ (Value.ref _) _ (backTo _ (starEach (_ :: _) _)) (backToKw _ (keywordEach (_ :: _) _))) _ _ _); kfb_any; k_dflt (refine' fb_with ?fbN ?fbM ?fbA ?_; (case fbN => k_asm); (case fbM => k_mem); (case fbA => exact rfl); k_whole)))
local macro_rules | `(tactic| walk_at "call ref") => `(tactic| (k_here; kfb_any; k_dflt ((show wpAny _ _ (call (Value.ref _) [Value.bytes _ _] [(PySem.Str.ofString "byteorder", Value.str (PySem.Str.ofString "big") _)]) _ _ _); refine' fb_call ?fbN ?fbM ?fbS ?_; (case fbN => k_asm); (case fbM => k_mem); (case fbS => ktr_rel)); intro _ _))

local macro_rules | `(tactic| ktr_rel) => `(tactic| with_reducible exact sm_hash _)
local macro_rules | `(tactic| walk_at "call ref") => `(tactic| (k_here; (with_reducible show wpAny _ _ (call (Value.ref 21) _ _) _ _ _); k_dflt (refine' Gives.use (c_scrub _ _) ?uB ?uF ?uX ?uN ?uT ?uk ?ud ?uu ?_; (case uB => k_asm); (case uF => k_asm); (case uX => k_asm); (case uN => k_asm); (case uT => k_asm); (case uk => first | exact rfl | assumption); (case ud => ktr_room); (case uu => ktr_units)); intro _ _ _ F' N'; (try k_sweep)))
local macro_rules | `(tactic| walk_at "call ref") => `(tactic| (k_here; (with_reducible show wpAny _ _ (call (Value.ref 110) _ _) _ _ _); k_dflt (refine' Gives.use (c_hash _ _) ?uB ?uF ?uX ?uN ?uT ?uk ?ud ?uu ?_; (case uB => k_asm); (case uF => k_asm); (case uX => k_asm); (case uN => k_asm); (case uT => k_asm); (case uk => first | exact rfl | assumption); (case ud => ktr_room); (case uu => ktr_units)); intro _ _ _ F' N'; (try k_sweep)))
local macro_rules | `(tactic| walk_at "call ref") => `(tactic| (k_here; (with_reducible show wpAny _ _ (call (Value.ref 37) _ _) _ _ _); k_dflt (refine' Gives.use (c_enck _ _ _ _ (by assumption) ?uS ?uZ) ?uB ?uF ?uX ?uN ?uT ?uk ?ud ?uu ?_; (case uS => (refine sm_v4 ?uQ; case uQ => assumption)); (case uZ => (refine size_v4 ?uQ; case uQ => assumption)); (case uB => k_asm); (case uF => k_asm); (case uX => k_asm); (case uN => k_asm); (case uT => k_asm); (case uk => first | exact rfl | assumption); (case ud => ktr_room); (case uu => ktr_units)); intro _ _ _ F' N'; (try k_sweep)))
set_option maxHeartbeats 8000000 in
set_option pp.deepTerms false in
set_option pp.deepTerms.threshold 12 in
set_option pp.maxSteps 3000 in
theorem b_encc {w : World} {p : Program} {loose : List PySem.Str} {mean : ExcName → Option Value} {mg mb : PySem.Str → Option Value} (v al : Array UInt8) (tv ta : Tok) (hal : al.size = 58) (hsm : Sm v) (hN : v.size ≤ 400) :
   GivesB 2 w p loose mean mg mb 68 [(Str.ofString "v", .bytes v tv), (Str.ofString "alphabet", .bytes al ta), (Str.ofString "sha256", .ref 110)] (fun t => .bytes (encSpec al (v ++ KBy.picked (hashSpec (hashSpec v)) none (some 4))).toArray t) := by
  k_with_none
  w_top off
  unfold GivesB
  intro pos kw hb
  unfold Gives
  k_fill
  intro dp un gd cn cs a ccd cl outer A₀ base h₀ L m s Q E B F X T hk hdp hun hret
  refine wpAny_call ?_
  refine' codeP ?k1 ?k2 ?k3 ?k5 ?kA ?kF ?kK ?k6 ?k7 ?k8 ?k9 ?kB ?_ ?c2 ?c3 ?c4 ?c5; (case kA => exact rfl); (case kF => exact rfl); (case kK => assumption); (case k1 => k_asm); (case k2 => k_asm); (case k3 => k_asm); (case k5 => k_asm); (case k6 => k_is); (case k7 => k_is); (case k8 => ktr_room); (case k9 => exact hb _ _ _ _ _ (by k_in) (by k_is)); (case c5 => decide); (case kB => exact locs rfl); (case c2 => exact rfl); (case c3 => exact rfl); (case c4 => exact rfl); k_whole; intro g' L' h' FG' F' N' B' X' T'; (try dsimp only); (try k_fold)
  k_steps
  all_goals exact GivesEnd hret ⟨_, rfl⟩ rfl
set_option maxHeartbeats 8000000 in
set_option pp.deepTerms false in
set_option pp.deepTerms.threshold 12 in
set_option pp.maxSteps 3000 in
theorem c_encc {w : World} {p : Program} {loose : List PySem.Str} {mean : ExcName → Option Value} {mg mb : PySem.Str → Option Value} (v al : Array UInt8) (tv ta : Tok) (hal : al.size = 58) (hsm : Sm v) (hN : v.size ≤ 400) :
   Gives 2 w p loose mean mg mb 68 [.bytes v tv, .bytes al ta] [(Str.ofString "sha256", .ref 110)] (fun t => .bytes (encSpec al (v ++ KBy.picked (hashSpec (hashSpec v)) none (some 4))).toArray t) :=
  b_encc v al tv ta hal hsm hN _ _ fun s fd oc od osl X hl => by
    have := hl.symm.trans (show _ = some _ by k_is)
    cases this
    exact binds_K X rfl (by k_is) rfl rfl rfl
end Mine
end

section
open PySem PySem.W PySem.Calls PySem.Builtin PyProof.Rows
set_option Elab.async false
set_option maxRecDepth 100000
namespace Mine
theorem leD_len : ∀ (f n : Nat), (leD f n).length ≤ f
  | 0, _ => Nat.le_refl _
  | f + 1, n => by
    unfold leD
    split
    · exact Nat.zero_le _
    · rw [List.length_cons]; exact Nat.succ_le_succ (leD_len f _)
theorem dec_size (al v : Array UInt8) : (decSpec al v).size ≤ 2 * v.size := by
  unfold decSpec
  have := leD_len v.size (decVal al (lst v #[al.toList.getD 0 0]).toList)
  rw [Array.size_append, List.size_toArray, List.length_replicate, byteArr_size, List.length_reverse]
  omega
theorem ne_of_bne {x y : Array UInt8} (h : (x.toList != y.toList) = true) : x ≠ y := fun e => by rw [e, bne_self_eq_false] at h; cases h
theorem eq_of_bne {x y : Array UInt8} (h : (x.toList != y.toList) = false) : x = y := Array.toList_inj.mp (by simpa using h)
theorem sm_dec {al v : Array UInt8} (h : v.size ≤ 2000) : Sm (decSpec al v) := Nat.le_trans (dec_size al v) (by omega)
set_option maxHeartbeats 8000000 in
set_option pp.deepTerms false in
set_option pp.deepTerms.threshold 12 in
set_option pp.maxSteps 3000 in
theorem c_deck {w : World} {p : Program} {loose : List PySem.Str} {mean : ExcName → Option Value} {mg mb : PySem.Str → Option Value} (v al : Array UInt8) (tv ta : Tok) (hal : al.size = 58) (hnd : al.toList.Nodup) (hs32 : (32 : UInt8) ∉ al.toList) (hv : ∀ c ∈ v.toList, c ∈ al.toList) (hsp : NoSp v) (hsm : Sm v) (hN : v.size ≤ 2000) :
   Gives 3 w p loose mean mg mb 60 [.bytes v tv] [(Str.ofString "alphabet", .bytes al ta), (Str.ofString "autofix", .bool false)] (fun t => .bytes (decSpec al v) t) := by
  unfold Gives
  k_fill
  exact b_dec v al tv ta hal hnd hs32 hv hsp hsm (by omega) _ _ fun s fd oc od osl X hl => by
    have := hl.symm.trans (show _ = some _ by k_is)
    cases this
    exact binds_K X rfl (by k_is) rfl rfl rfl

local macro_rules | `(tactic| ktr_rel) => `(tactic| ((with_reducible refine sm_picked ?_); ktr_rel))
local macro_rules | `(tactic| ktr_rel) => `(tactic| ((with_reducible refine sm_lst ?_); ktr_rel))
local macro_rules | `(tactic| ktr_rel) => `(tactic| ((with_reducible refine EncInv.sm ?smE); (case smE => assumption)))
local macro_rules | `(tactic| ktr_rel) => `(tactic| (refine' sm_of (n := 58) ?smA ?smB; (case smA => assumption); (case smB => decide)))
local macro_rules | `(tactic| ktr_rel) => `(tactic| with_reducible assumption)
local macro_rules | `(tactic| walk_at "call builtin:len") => `(tactic| ((with_reducible show wpAny _ _ (call (Value.builtin "len") [Value.bytes _ _]) _ _ _); (refine' r_len ?rA ?_); (case rA => ktr_rel); intro _ _))
local macro_rules | `(tactic| walk_at "binaryOp Add bytes bytes") => `(tactic| ((with_reducible show wpAny _ _ (binaryOp Operator.Add (Value.bytes _ _) (Value.bytes _ _)) _ _ _); (refine' r_add ?rA ?rB ?_); (case rA => ktr_rel); (case rB => ktr_rel); intro _ _))
local macro_rules | `(tactic| walk_at "binaryOp Mult bytes int") => `(tactic| ((with_reducible show wpAny _ _ (binaryOp Operator.Mult (Value.bytes _ _) (Value.int _ _)) _ _ _); (refine' r_mul ?mA ?mB ?mC ?_); (case mA => first | (refine picked01 ?_; assumption) | rfl); (case mB => exact lead_lo); (case mC => (refine lead_hi ?_; ktr_rel)); intro _ _))
local macro_rules | `(tactic| walk_at "subscriptTail") => `(tactic| ((with_reducible show wpAny _ _ (subscriptTail _ (Expr.Slice _ _ none _) (Value.bytes _ _) (Value.ref _)) _ _ _); (with_reducible rename Fr _ _ _ _ => F'); (with_reducible rename News _ _ _ _ => N'); (refine' r_slice (s := ⟨_, _, _, _, _⟩) F' N' ?rA ?rB ?rC ?_); (case rA => constructor); (case rB => constructor); (case rC => ktr_rel); intro _ _ _ F' N'))
local macro_rules | `(tactic| walk_at "getMethod bytes") => `(tactic| first | (with_reducible refine m_lstrip ?_) | (with_reducible refine m_rstrip ?_))
local macro_rules | `(tactic| walk_at "call builtin:bytes.lstrip") => `(tactic| ((with_reducible show wpAny _ _ (call (Value.builtin "bytes.lstrip") [Value.bytes _ _, Value.bytes _ _]) _ _ _); (refine' r_lstrip ?rA ?_); (case rA => ktr_rel); intro _ _))
local macro_rules | `(tactic| walk_at "call builtin:bytes.rstrip") => `(tactic| ((with_reducible show wpAny _ _ (call (Value.builtin "bytes.rstrip") [Value.bytes _ _]) _ _ _); (refine' r_rstrip ?rA ?_); (case rA => assumption); intro _ _))
local macro_rules | `(tactic| walk_at "callWith ref") => `(tactic| (k_here; (with_reducible show wpAny _ _ (callWith _ (Value.ref _) _ (backTo _ (starEach (_ :: _) _)) (backToKw _ (keywordEach (_ :: _) _))) _ _ _); kfb_any; k_dflt (refine' fb_with ?fbN ?fbM ?fbA ?_; (case fbN => k_asm); (case fbM => k_mem); (case fbA => exact rfl); k_whole)))
local macro_rules | `(tactic| walk_at "call ref") => `(tactic| (k_here; kfb_any; k_dflt ((show wpAny _ _ (call (Value.ref _) [Value.bytes _ _] [(PySem.Str.ofString "byteorder", Value.str (PySem.Str.ofString "big") _)]) _ _ _); refine' fb_call ?fbN ?fbM ?fbS ?_; (case fbN => k_asm); (case fbM => k_mem); (case fbS => ktr_rel)); intro _ _))

local macro_rules | `(tactic| ktr_rel) => `(tactic| with_reducible exact sm_hash _)
local macro_rules | `(tactic| ktr_rel) => `(tactic| ((with_reducible refine sm_dec ?_); assumption))
local macro_rules | `(tactic| walk_at "call ref") => `(tactic| (k_here; (with_reducible show wpAny _ _ (call (Value.ref 110) _ _) _ _ _); k_dflt (refine' Gives.use (c_hash _ _) ?uB ?uF ?uX ?uN ?uT ?uk ?ud ?uu ?_; (case uB => k_asm); (case uF => k_asm); (case uX => k_asm); (case uN => k_asm); (case uT => k_asm); (case uk => first | exact rfl | assumption); (case ud => ktr_room); (case uu => ktr_units)); intro _ _ _ F' N'; (try k_sweep)))
local macro_rules | `(tactic| walk_at "call ref") => `(tactic| (k_here; (with_reducible show wpAny _ _ (call (Value.ref 60) _ _) _ _ _); k_dflt (refine' Gives.use (c_deck _ _ _ _ (by assumption) (by assumption) (by assumption) (by assumption) (by assumption) (by assumption) (by assumption)) ?uB ?uF ?uX ?uN ?uT ?uk ?ud ?uu ?_; (case uB => k_asm); (case uF => k_asm); (case uX => k_asm); (case uN => k_asm); (case uT => k_asm); (case uk => first | exact rfl | assumption); (case ud => ktr_room); (case uu => ktr_units)); intro _ _ _ F' N'; (try k_sweep)))
set_option maxHeartbeats 8000000 in
set_option pp.deepTerms false in
set_option pp.deepTerms.threshold 12 in
set_option pp.maxSteps 3000 in
theorem b_decc {w : World} {p : Program} {loose : List PySem.Str} {mean : ExcName → Option Value} {mg mb : PySem.Str → Option Value} (v al : Array UInt8) (tv ta : Tok) (hal : al.size = 58) (hnd : al.toList.Nodup) (hs32 : (32 : UInt8) ∉ al.toList) (hv : ∀ c ∈ v.toList, c ∈ al.toList) (hsp : NoSp v) (hsm : Sm v) (hN : v.size ≤ 2000)
    (hc : KBy.picked (decSpec al v) (some (-4)) none = KBy.picked (hashSpec (hashSpec (KBy.picked (decSpec al v) none (some (-4))))) none (some 4)) :
   GivesB 4 w p loose mean mg mb 77 [(Str.ofString "v", .bytes v tv), (Str.ofString "alphabet", .bytes al ta), (Str.ofString "autofix", .bool false), (Str.ofString "sha256", .ref 110)] (fun t => .bytes (KBy.picked (decSpec al v) none (some (-4))) t) := by
  k_with_none
  w_top off
  unfold GivesB
  intro pos kw hb
  unfold Gives
  k_fill
  intro dp un gd cn cs a ccd cl outer A₀ base h₀ L m s Q E B F X T hk hdp hun hret
  refine wpAny_call ?_
  refine' codeP ?k1 ?k2 ?k3 ?k5 ?kA ?kF ?kK ?k6 ?k7 ?k8 ?k9 ?kB ?_ ?c2 ?c3 ?c4 ?c5; (case kA => exact rfl); (case kF => exact rfl); (case kK => assumption); (case k1 => k_asm); (case k2 => k_asm); (case k3 => k_asm); (case k5 => k_asm); (case k6 => k_is); (case k7 => k_is); (case k8 => ktr_room); (case k9 => exact hb _ _ _ _ _ (by k_in) (by k_is)); (case c5 => decide); (case kB => exact locs rfl); (case c2 => exact rfl); (case c3 => exact rfl); (case c4 => exact rfl); k_whole; intro g' L' h' FG' F' N' B' X' T'; (try dsimp only); (try k_fold)
  k_steps
  all_goals first
    | exact GivesEnd hret ⟨_, rfl⟩ rfl
    | exact absurd hc (ne_of_bne (by assumption))
end Mine
end

section
open PySem PySem.W PySem.Calls PySem.Builtin PyProof.Rows
set_option Elab.async false
set_option maxRecDepth 100000
namespace Mine
abbrev alB : Array UInt8 := #[49, 50, 51, 52, 53, 54, 55, 56, 57, 65, 66, 67, 68, 69, 70, 71, 72, 74, 75, 76, 77, 78, 80, 81, 82, 83, 84, 85, 86, 87, 88, 89, 90, 97, 98, 99, 100, 101, 102, 103, 104, 105, 106, 107, 109, 110, 111, 112, 113, 114, 115, 116, 117, 118, 119, 120, 121, 122]
abbrev alR : Array UInt8 := #[114, 112, 115, 104, 110, 97, 102, 51, 57, 119, 66, 85, 68, 78, 69, 71, 72, 74, 75, 76, 77, 52, 80, 81, 82, 83, 84, 55, 86, 87, 88, 89, 90, 50, 98, 99, 100, 101, 67, 103, 54, 53, 106, 107, 109, 56, 111, 70, 113, 105, 49, 116, 117, 118, 65, 120, 121, 122]
def rowsL : List (Array UInt8 × Array UInt8) := [(#[], #[]), (#[97], #[50, 103]), (#[98, 98, 98], #[97, 51, 103, 86]), (#[99, 99, 99], #[97, 80, 69, 114]), (#[115, 105, 109, 112, 108, 121, 32, 97, 32, 108, 111, 110, 103, 32, 115, 116, 114, 105, 110, 103], #[50, 99, 70, 117, 112, 106, 104, 110, 69, 115, 83, 110, 53, 57, 113, 72, 88, 115, 116, 109, 75, 50, 102, 102, 112, 76, 118, 50]), (#[0, 235, 21, 35, 29, 252, 235, 96, 146, 88, 134, 182, 125, 6, 82, 153, 146, 89, 21, 174, 177, 114, 192, 102, 71], #[49, 78, 83, 49, 55, 105, 97, 103, 57, 106, 74, 103, 84, 72, 68, 49, 86, 88, 106, 118, 76, 67, 69, 110, 90, 117, 81, 51, 114, 74, 68, 69, 57, 76]), (#[81, 107, 111, 205, 15], #[65, 66, 110, 76, 84, 109, 103]), (#[191, 79, 137, 0, 30, 103, 2, 116, 221], #[51, 83, 69, 111, 51, 76, 87, 76, 111, 80, 110, 116, 67]), (#[87, 46, 71, 148], #[51, 69, 70, 85, 55, 109]), (#[236, 172, 137, 202, 217, 57, 35, 192, 35, 33], #[69, 74, 68, 77, 56, 100, 114, 102, 88, 65, 54, 117, 121, 65]), (#[16, 200, 81, 30], #[82, 116, 53, 122, 109]), (#[0, 0, 0, 0, 0, 0, 0, 0, 0, 0], #[49, 49, 49, 49, 49, 49, 49, 49, 49, 49])]
def papersT : List (Array UInt8 × Array UInt8 × Array UInt8) := [(#[49, 50, 51, 52, 53, 54, 55, 56, 57, 65, 66, 67, 68, 69, 70, 71, 72, 74, 75, 76, 77, 78, 80, 81, 82, 83, 84, 85, 86, 87, 88, 89, 90, 97, 98, 99, 100, 101, 102, 103, 104, 105, 106, 107, 109, 110, 111, 112, 113, 114, 115, 116, 117, 118, 119, 120, 121, 122], #[0, 98, 233, 7, 177, 92, 191, 39, 213, 66, 83, 153, 235, 246, 240, 251, 80, 235, 184, 143, 24], #[49, 65, 49, 122, 80, 49, 101, 80, 53, 81, 71, 101, 102, 105, 50, 68, 77, 80, 84, 102, 84, 76, 53, 83, 76, 109, 118, 55, 68, 105, 118, 102, 78, 97]), (#[49, 50, 51, 52, 53, 54, 55, 56, 57, 65, 66, 67, 68, 69, 70, 71, 72, 74, 75, 76, 77, 78, 80, 81, 82, 83, 84, 85, 86, 87, 88, 89, 90, 97, 98, 99, 100, 101, 102, 103, 104, 105, 106, 107, 109, 110, 111, 112, 113, 114, 115, 116, 117, 118, 119, 120, 121, 122], #[5, 180, 114, 162, 102, 208, 189, 137, 193, 55, 6, 164, 19, 44, 207, 177, 111, 124, 59, 159, 203], #[51, 74, 57, 56, 116, 49, 87, 112, 69, 90, 55, 51, 67, 78, 109, 81, 118, 105, 101, 99, 114, 110, 121, 105, 87, 114, 110, 113, 82, 104, 87, 78, 76, 121]), (#[114, 112, 115, 104, 110, 97, 102, 51, 57, 119, 66, 85, 68, 78, 69, 71, 72, 74, 75, 76, 77, 52, 80, 81, 82, 83, 84, 55, 86, 87, 88, 89, 90, 50, 98, 99, 100, 101, 67, 103, 54, 53, 106, 107, 109, 56, 111, 70, 113, 105, 49, 116, 117, 118, 65, 120, 121, 122], #[0, 181, 247, 98, 121, 138, 83, 213, 67, 160, 20, 202, 248, 178, 151, 207, 248, 242, 249, 55, 232], #[114, 72, 98, 57, 67, 74, 65, 87, 121, 66, 52, 114, 106, 57, 49, 86, 82, 87, 110, 57, 54, 68, 107, 117, 107, 71, 52, 98, 119, 100, 116, 121, 84, 104]), (#[49, 50, 51, 52, 53, 54, 55, 56, 57, 65, 66, 67, 68, 69, 70, 71, 72, 74, 75, 76, 77, 78, 80, 81, 82, 83, 84, 85, 86, 87, 88, 89, 90, 97, 98, 99, 100, 101, 102, 103, 104, 105, 106, 107, 109, 110, 111, 112, 113, 114, 115, 116, 117, 118, 119, 120, 121, 122], #[128, 12, 40, 252, 163, 134, 199, 162, 39, 96, 11, 47, 229, 11, 124, 174, 17, 236, 134, 211, 191, 31, 190, 71, 27, 232, 152, 39, 225, 157, 114, 170, 29], #[53, 72, 117, 101, 67, 71, 85, 56, 114, 77, 106, 120, 69, 88, 120, 105, 80, 117, 68, 53, 66, 68, 107, 117, 52, 77, 107, 70, 113, 101, 90, 121, 100, 52, 100, 90, 49, 106, 118, 104, 84, 86, 113, 118, 98, 84, 76, 118, 121, 84, 74]), (#[49, 50, 51, 52, 53, 54, 55, 56, 57, 65, 66, 67, 68, 69, 70, 71, 72, 74, 75, 76, 77, 78, 80, 81, 82, 83, 84, 85, 86, 87, 88, 89, 90, 97, 98, 99, 100, 101, 102, 103, 104, 105, 106, 107, 109, 110, 111, 112, 113, 114, 115, 116, 117, 118, 119, 120, 121, 122], #[4, 136, 178, 30, 0, 0, 0, 0, 0, 0, 0, 0, 0, 135, 61, 255, 129, 192, 47, 82, 86, 35, 253, 31, 229, 22, 126, 172, 58, 85, 160, 73, 222, 61, 49, 75, 180, 46, 226, 39, 255, 237, 55, 213, 8, 3, 57, 163, 96, 19, 48, 21, 151, 218, 239, 65, 251, 229, 147, 160, 44, 197, 19, 208, 181, 85, 39, 236, 45, 241, 5, 14, 46, 143, 244, 156, 133, 194], #[120, 112, 117, 98, 54, 54, 49, 77, 121, 77, 119, 65, 113, 82, 98, 99, 70, 116, 88, 103, 83, 53, 115, 89, 74, 65, 66, 113, 113, 71, 57, 89, 76, 109, 67, 52, 81, 49, 82, 100, 97, 112, 57, 103, 83, 69, 56, 78, 113, 116, 119, 121, 98, 71, 104, 101, 80, 89, 50, 103, 90, 50, 57, 69, 83, 70, 106, 113, 74, 111, 67, 117, 49, 82, 117, 112, 106, 101, 56, 89, 116, 71, 113, 115, 101, 102, 68, 50, 54, 53, 84, 77, 103, 55, 117, 115, 85, 68, 70, 100, 112, 54, 87, 49, 69, 71, 77, 99, 101, 116, 56])]

/-- what a decoding's walk asks of its alphabet and its text -/
def okText (al v : Array UInt8) : Bool := decide (al.size = 58) && decide al.toList.Nodup && !al.toList.contains 32 && v.toList.all (fun c => al.toList.contains c) && v.toList.all (fun c => !Bytes.isSpace c) && decide (v.size ≤ 200)
structure OkText (al v : Array UInt8) : Prop where
  hal : al.size = 58
  hnd : al.toList.Nodup
  hs32 : (32 : UInt8) ∉ al.toList
  hv : ∀ c ∈ v.toList, c ∈ al.toList
  hsp : NoSp v
  hsz : v.size ≤ 200
theorem OkText.sm {al v : Array UInt8} (h : OkText al v) : Sm v := Nat.le_trans h.hsz (by decide)
theorem okText_of {al v : Array UInt8} (h : okText al v = true) : OkText al v := by
  unfold okText at h
  simp only [Bool.and_eq_true, decide_eq_true_eq, Bool.not_eq_true', List.all_eq_true, List.contains_eq_mem, decide_eq_false_iff_not] at h
  obtain ⟨⟨⟨⟨⟨h1, h2⟩, h3⟩, h4⟩, h5⟩, h6⟩ := h
  exact ⟨h1, h2, h3, h4, h5, h6⟩
theorem rows_ok : (rowsL.all fun p => okText alB p.2 && (encSpec alB p.1 == p.2.toList) && ((decSpec alB p.2).toList == p.1.toList) && decide (p.1.size ≤ 200)) = true := by decide +kernel
theorem papers_ok : (papersT.all fun p => okText p.1 p.2.2 && (encSpec p.1 (p.2.1 ++ KBy.picked (hashSpec (hashSpec p.2.1)) none (some 4)) == p.2.2.toList) && ((KBy.picked (decSpec p.1 p.2.2) none (some (-4))).toList == p.2.1.toList)
    && ((KBy.picked (decSpec p.1 p.2.2) (some (-4)) none).toList == (KBy.picked (hashSpec (hashSpec p.2.1)) none (some 4)).toList) && decide (p.2.1.size ≤ 200)) = true := by decide +kernel
end Mine
end

section
open PySem PySem.W PySem.Calls PySem.Builtin PyProof.Rows
set_option Elab.async false
set_option maxRecDepth 100000
namespace Mine
theorem row_of {v r : Array UInt8} (h : (v, r) ∈ rowsL) : OkText alB r ∧ encSpec alB v = r.toList ∧ decSpec alB r = v ∧ v.size ≤ 200 := by
  have := List.all_eq_true.mp rows_ok _ h
  simp only [Bool.and_eq_true, beq_iff_eq, decide_eq_true_eq] at this
  obtain ⟨⟨⟨h1, h2⟩, h3⟩, h4⟩ := this
  exact ⟨okText_of h1, h2, Array.toList_inj.mp h3, h4⟩
theorem paper_of {al v r : Array UInt8} (h : (al, v, r) ∈ papersT) : OkText al r ∧ encSpec al (v ++ KBy.picked (hashSpec (hashSpec v)) none (some 4)) = r.toList ∧ KBy.picked (decSpec al r) none (some (-4)) = v ∧ KBy.picked (decSpec al r) (some (-4)) none = KBy.picked (hashSpec (hashSpec (KBy.picked (decSpec al r) none (some (-4))))) none (some 4) ∧ v.size ≤ 200 := by
  have := List.all_eq_true.mp papers_ok _ h
  simp only [Bool.and_eq_true, beq_iff_eq, decide_eq_true_eq] at this
  obtain ⟨⟨⟨⟨h1, h2⟩, h3⟩, h4⟩, h5⟩ := this
  have h3 := Array.toList_inj.mp h3
  exact ⟨okText_of h1, h2, h3, by rw [h3]; exact Array.toList_inj.mp h4, h5⟩
set_option maxHeartbeats 8000000 in
set_option pp.deepTerms false in
set_option pp.deepTerms.threshold 12 in
set_option pp.maxSteps 3000 in
theorem l_enc {w : World} {p : Program} {loose : List PySem.Str} {mean : ExcName → Option Value} {mg mb : PySem.Str → Option Value} {v r : Array UInt8} {tv : Tok} (h : (v, r) ∈ rowsL) :
   Gives 1 w p loose mean mg mb 37 [.bytes v tv] [] (fun t => .bytes r t) := by
  obtain ⟨ho, he, hd, hs⟩ := row_of h
  have hb := @b_enc w p loose mean mg mb v alB tv 189 (by decide) (Nat.le_trans hs (by decide)) (by omega) [.bytes v tv] []
  rw [he] at hb
  unfold Gives
  k_fill
  exact hb fun s fd oc od osl X hl => by
    have := hl.symm.trans (show _ = some _ by k_is)
    cases this
    exact binds_K X rfl (by k_is) rfl rfl rfl
set_option maxHeartbeats 8000000 in
set_option pp.deepTerms false in
set_option pp.deepTerms.threshold 12 in
set_option pp.maxSteps 3000 in
theorem l_dec {w : World} {p : Program} {loose : List PySem.Str} {mean : ExcName → Option Value} {mg mb : PySem.Str → Option Value} {v r : Array UInt8} {tv : Tok} (h : (v, r) ∈ rowsL) :
   Gives 3 w p loose mean mg mb 60 [.bytes r tv] [] (fun t => .bytes v t) := by
  obtain ⟨ho, he, hd, hs⟩ := row_of h
  have hb := @b_dec w p loose mean mg mb r alB tv 189 ho.hal ho.hnd ho.hs32 ho.hv ho.hsp ho.sm (by have := ho.hsz; omega) [.bytes r tv] []
  rw [hd] at hb
  unfold Gives
  k_fill
  exact hb fun s fd oc od osl X hl => by
    have := hl.symm.trans (show _ = some _ by k_is)
    cases this
    exact kp_binds X fun _ => rfl
set_option maxHeartbeats 8000000 in
set_option pp.deepTerms false in
set_option pp.deepTerms.threshold 12 in
set_option pp.maxSteps 3000 in
theorem l_encc {w : World} {p : Program} {loose : List PySem.Str} {mean : ExcName → Option Value} {mg mb : PySem.Str → Option Value} {al v r : Array UInt8} {tv ta : Tok} (h : (al, v, r) ∈ papersT) :
   Gives 2 w p loose mean mg mb 68 [.bytes v tv, .bytes al ta] [(Str.ofString "sha256", .ref 110)] (fun t => .bytes r t) := by
  obtain ⟨ho, he, hd, hc, hs⟩ := paper_of h
  have hb := @c_encc w p loose mean mg mb v al tv ta ho.hal (Nat.le_trans hs (by decide)) (by omega)
  rw [he] at hb
  exact hb
set_option maxHeartbeats 8000000 in
set_option pp.deepTerms false in
set_option pp.deepTerms.threshold 12 in
set_option pp.maxSteps 3000 in
theorem l_decc {w : World} {p : Program} {loose : List PySem.Str} {mean : ExcName → Option Value} {mg mb : PySem.Str → Option Value} {al v r : Array UInt8} {tv ta : Tok} (h : (al, v, r) ∈ papersT) :
   Gives 4 w p loose mean mg mb 77 [.bytes r tv, .bytes al ta] [(Str.ofString "sha256", .ref 110)] (fun t => .bytes v t) := by
  obtain ⟨ho, he, hd, hc, hs⟩ := paper_of h
  have hb := @b_decc w p loose mean mg mb r al tv ta ho.hal ho.hnd ho.hs32 ho.hv ho.hsp ho.sm (by have := ho.hsz; omega) hc [.bytes r tv, .bytes al ta] [(Str.ofString "sha256", .ref 110)]
  rw [hd] at hb
  unfold Gives
  k_fill
  exact hb fun s fd oc od osl X hl => by
    have := hl.symm.trans (show _ = some _ by k_is)
    cases this
    exact kp_binds X fun _ => rfl
set_option maxHeartbeats 8000000 in
set_option pp.deepTerms false in
set_option pp.deepTerms.threshold 12 in
set_option pp.maxSteps 3000 in
theorem l_decc0 {w : World} {p : Program} {loose : List PySem.Str} {mean : ExcName → Option Value} {mg mb : PySem.Str → Option Value} {v r : Array UInt8} {tv : Tok} (h : (alB, v, r) ∈ papersT) :
   Gives 4 w p loose mean mg mb 77 [.bytes r tv] [(Str.ofString "sha256", .ref 110)] (fun t => .bytes v t) := by
  obtain ⟨ho, he, hd, hc, hs⟩ := paper_of h
  have hb := @b_decc w p loose mean mg mb r alB tv 189 ho.hal ho.hnd ho.hs32 ho.hv ho.hsp ho.sm (by have := ho.hsz; omega) hc [.bytes r tv] [(Str.ofString "sha256", .ref 110)]
  rw [hd] at hb
  unfold Gives
  k_fill
  exact hb fun s fd oc od osl X hl => by
    have := hl.symm.trans (show _ = some _ by k_is)
    cases this
    exact kp_binds X fun _ => rfl
end Mine
end

section
open PySem PySem.W PySem.Calls PySem.Builtin PyProof.Rows
set_option Elab.async false
set_option maxRecDepth 100000
namespace Mine

def SameOff (stored : List PySem.Str) (m₀ m : PySem.Str → Option Value) : Prop := ∀ z, stored.contains z = false → m z = m₀ z
theorem SameOff.eq {stored : List PySem.Str} {m₀ m : PySem.Str → Option Value} (h : SameOff stored m₀ m) : (fun z => if stored.contains z = true then m z else m₀ z) = m := by
  funext z
  show (if stored.contains z = true then m z else m₀ z) = m z
  cases h3 : stored.contains z with
  | true => simp
  | false => simp only [Bool.false_eq_true, if_false]; exact (h z h3).symm
theorem allObj_mono : ∀ {ws : List (Addr × String)} {k k' : List (Addr × Obj) → Prop}, (∀ its, k its → k' its) → AllObj ws k → AllObj ws k'
  | [], _, _, h, x => h _ x
  | _ :: _, _, _, h, x => fun o ho => allObj_mono (fun its => h _) (x o ho)
def TurnEnd (Led : Obj × Obj × Obj → List (Addr × Obj)) (stored : List PySem.Str) (m₀ m' : PySem.Str → Option Value) (n' : List (Addr × Obj)) : Prop :=
  SameOff stored m₀ m' ∧ ∃ o1 o2 o3 c1 c2 c3, o1.data = .cell c1 ∧ o2.data = .cell c2 ∧ o3.data = .cell c3 ∧ ∀ p ∈ Led (o1, o2, o3), p ∈ n'
theorem TurnEnd.intro {Led : Obj × Obj × Obj → List (Addr × Obj)} {stored : List PySem.Str} {m₀ m' : PySem.Str → Option Value} {n' : List (Addr × Obj)} {o1 o2 o3 : Obj} {c1 c2 c3 : Option Value} (hm : ∀ p ∈ Led (o1, o2, o3), p ∈ n') (d1 : o1.data = .cell c1) (d2 : o2.data = .cell c2) (d3 : o3.data = .cell c3)
    (hs : ∀ z, stored.contains z = false → m' z = m₀ z) : TurnEnd Led stored m₀ m' n' := ⟨hs, o1, o2, o3, c1, c2, c3, d1, d2, d3, hm⟩
section
variable {prog : Program} {w : World} {A : Around} {E : Value → Shared → Prop} {s : Shared} {h₀ : Heap} {env : Env} {target : Expr} {body : List Stmt} {Q : Flow → Shared → Prop} {ws : List (Addr × String)}
theorem items_inv_aux {stored : List PySem.Str} {m₀ : PySem.Str → Option Value} {S : Value → Prop} (Led : Obj × Obj × Obj → List (Addr × Obj))
    (turn : ∀ (v : Value) (u : PySem.Str → Option Value) (o1 o2 o3 : Obj) c1 c2 c3 h tk, S v → o1.data = .cell c1 → o2.data = .cell c2 → o3.data = .cell c3 → Fr h₀ env.locals h (fun z => if stored.contains z = true then u z else m₀ z) → AllObj ws (fun its => News h₀ env.locals h (its ++ Led (o1, o2, o3)) →
      wpAny (model prog w) A (assign target env v) (fun _ s₂ => wpAny (model prog w) A (execs body env) (UnrPostW h₀ env.locals { s with heap := h, toks := tk } its (fun m' n' => SubL [] n' ∧ TurnEnd Led stored m₀ m' n') Q) E s₂) E { s with heap := h, toks := tk }))
    (done : ∀ (u : PySem.Str → Option Value) (o1 o2 o3 : Obj) c1 c2 c3 h tk, o1.data = .cell c1 → o2.data = .cell c2 → o3.data = .cell c3 → Fr h₀ env.locals h (fun z => if stored.contains z = true then u z else m₀ z) → News h₀ env.locals h (Led (o1, o2, o3)) → Q .next { s with heap := h, toks := tk }) :
    ∀ (vs : List Value) (m : PySem.Str → Option Value) (news : List (Addr × Obj)), (∀ v ∈ vs, S v) → TurnEnd Led stored m₀ m news → ItemsRest prog w A E h₀ env target body Q s ws [] (vs.map .val) m news
  | [], m, news, _, ⟨hm, o1, o2, o3, c1, c2, c3, d1, d2, d3, hn⟩ => by
    intro h tk F N
    refine done m o1 o2 o3 c1 c2 c3 h tk d1 d2 d3 ?_ fun p hp => N p (hn p hp)
    rw [hm.eq]; exact F
  | v :: r, m, news, hS, ⟨hm, o1, o2, o3, c1, c2, c3, d1, d2, d3, hn⟩ => by
    intro u h tk e F
    have e' : u = v := e
    subst e'
    refine allObj_mono (fun its hk N => ?_) (turn u m o1 o2 o3 c1 c2 c3 h tk (hS u (.head _)) d1 d2 d3 (by rw [hm.eq]; exact F))
    refine wpAny_mono (hk fun p hp => N p (by
      rcases List.mem_append.mp hp with hp | hp
      · exact List.mem_append_left _ hp
      · exact List.mem_append_right _ (hn p hp))) (fun _ s₂ h₂ => wpAny_mono h₂ (fun f s₃ h₃ => ?_) fun _ _ x => x) fun _ _ x => x
    have go : UnrEndW h₀ env.locals { s with heap := h, toks := tk } its (fun m' n' => SubL [] n' ∧ TurnEnd Led stored m₀ m' n') s₃ → UnrEndW h₀ env.locals { s with heap := h, toks := tk } its (fun m' n' => SubL [] n' ∧ ItemsRest prog w A E h₀ env target body Q s ws [] (r.map .val) m' n') s₃ := by
      rintro ⟨h', tk', m', n', a, b, c, d, e, f⟩
      exact ⟨h', tk', m', n', a, b, c, d, e, items_inv_aux Led turn done r m' n' (fun x hx => hS x (.tail _ hx)) f⟩
    cases f with
    | ret v => exact h₃
    | brk => exact h₃
    | next => exact go h₃
    | cont => exact go h₃
theorem items_inv (stored : List PySem.Str) {m₀ : PySem.Str → Option Value} {vs : List Value} (S : World → Value → Prop) {a1 a2 a3 : Addr} {o1 o2 o3 : Obj} {c1 c2 c3 : Option Value} (d1 : o1.data = .cell c1) (d2 : o2.data = .cell c2) (d3 : o3.data = .cell c3) (hS : ∀ v ∈ vs, S w v)
    (turn : ∀ (v : Value) (u : PySem.Str → Option Value) (o1 o2 o3 : Obj) c1 c2 c3 h tk, S w v → o1.data = .cell c1 → o2.data = .cell c2 → o3.data = .cell c3 → Fr h₀ env.locals h (fun z => if stored.contains z = true then u z else m₀ z) → AllObj ws (fun its => News h₀ env.locals h (its ++ [(a3, o3), (a2, o2), (a1, o1)]) →
      wpAny (model prog w) A (assign target env v) (fun _ s₂ => wpAny (model prog w) A (execs body env) (UnrPostW h₀ env.locals { s with heap := h, toks := tk } its (fun m' n' => SubL [] n' ∧ TurnEnd (fun σ => [(a3, σ.2.2), (a2, σ.2.1), (a1, σ.1)]) stored m₀ m' n') Q) E s₂) E { s with heap := h, toks := tk }))
    (done : ∀ (u : PySem.Str → Option Value) (o1 o2 o3 : Obj) c1 c2 c3 h tk, o1.data = .cell c1 → o2.data = .cell c2 → o3.data = .cell c3 → Fr h₀ env.locals h (fun z => if stored.contains z = true then u z else m₀ z) → News h₀ env.locals h [(a3, o3), (a2, o2), (a1, o1)] → Q .next { s with heap := h, toks := tk }) :
    ItemsRest prog w A E h₀ env target body Q s ws [] (vs.map .val) m₀ [(a3, o3), (a2, o2), (a1, o1)] :=
  items_inv_aux (S := S w) (fun σ => [(a3, σ.2.2), (a2, σ.2.1), (a1, σ.1)]) turn done vs m₀ _ hS ⟨fun _ _ => rfl, o1, o2, o3, c1, c2, c3, d1, d2, d3, fun _ h => h⟩
end

section
variable {prog : Program} {w : World} {A : Around} {E : Value → Shared → Prop} {s : Shared} {h₀ : Heap} {L : Addr} {m : PySem.Str → Option Value} {K : Frag}
theorem isTup_K {t : Addr} {items : Array Value} {n : Nat} (F : Fr h₀ L s.heap m) (X : K.In h₀) (hk : K.lookup t = some { cls := .type "tuple", data := .seq items n }) : IsTup s.heap t items := ⟨_, F.keep _ _ (X _ _ hk), rfl, n, rfl⟩
theorem item_K {value slice : PySem.Expr} {t : Addr} {items : Array Value} {n : Nat} {k : Int} {u : Tok} {j : Nat} {x : Value} {Q : Value → Shared → Prop} (F : Fr h₀ L s.heap m) (X : K.In h₀) (hk : K.lookup t = some { cls := .type "tuple", data := .seq items n })
    (hlo : -(2 ^ 63) ≤ k) (hhi : k < 2 ^ 63) (hj : seqIndex? k items.size = some j) (hx : items[j]? = some x) (h : Q x s)
    (hs : subscripted slice false (.ref t) (.int k u) = operate [.ref t, .int k u] (getItem (.ref t) (.int k u)) := by with_unfolding_all rfl) (hg : ∀ r, letTemporaryGo value (.ref t) r = pure () := by intro _; with_unfolding_all rfl) :
    wpAny (model prog w) A (subscriptTail value slice (.ref t) (.int k u)) Q E s := item_tuple (isTup_K F X hk) hlo hhi hj hx h hs hg
theorem item5_0 {value slice : PySem.Expr} {t : Addr} {x0 x1 x2 x3 x4 : Value} {n : Nat} {u : Tok} {Q : Value → Shared → Prop} (F : Fr h₀ L s.heap m) (X : K.In h₀) (hk : K.lookup t = some { cls := .type "tuple", data := .seq #[x0, x1, x2, x3, x4] n }) (h : Q x0 s)
    (hs : subscripted slice false (.ref t) (.int 0 u) = operate [.ref t, .int 0 u] (getItem (.ref t) (.int 0 u)) := by with_unfolding_all rfl) (hg : ∀ r, letTemporaryGo value (.ref t) r = pure () := by intro _; with_unfolding_all rfl) :
    wpAny (model prog w) A (subscriptTail value slice (.ref t) (.int 0 u)) Q E s := item_K F X hk (by decide) (by decide) rfl rfl h hs hg
theorem item5_1 {value slice : PySem.Expr} {t : Addr} {x0 x1 x2 x3 x4 : Value} {n : Nat} {u : Tok} {Q : Value → Shared → Prop} (F : Fr h₀ L s.heap m) (X : K.In h₀) (hk : K.lookup t = some { cls := .type "tuple", data := .seq #[x0, x1, x2, x3, x4] n }) (h : Q x1 s)
    (hs : subscripted slice false (.ref t) (.int 1 u) = operate [.ref t, .int 1 u] (getItem (.ref t) (.int 1 u)) := by with_unfolding_all rfl) (hg : ∀ r, letTemporaryGo value (.ref t) r = pure () := by intro _; with_unfolding_all rfl) :
    wpAny (model prog w) A (subscriptTail value slice (.ref t) (.int 1 u)) Q E s := item_K F X hk (by decide) (by decide) rfl rfl h hs hg
theorem item5_2 {value slice : PySem.Expr} {t : Addr} {x0 x1 x2 x3 x4 : Value} {n : Nat} {u : Tok} {Q : Value → Shared → Prop} (F : Fr h₀ L s.heap m) (X : K.In h₀) (hk : K.lookup t = some { cls := .type "tuple", data := .seq #[x0, x1, x2, x3, x4] n }) (h : Q x2 s)
    (hs : subscripted slice false (.ref t) (.int 2 u) = operate [.ref t, .int 2 u] (getItem (.ref t) (.int 2 u)) := by with_unfolding_all rfl) (hg : ∀ r, letTemporaryGo value (.ref t) r = pure () := by intro _; with_unfolding_all rfl) :
    wpAny (model prog w) A (subscriptTail value slice (.ref t) (.int 2 u)) Q E s := item_K F X hk (by decide) (by decide) rfl rfl h hs hg
theorem item5_3 {value slice : PySem.Expr} {t : Addr} {x0 x1 x2 x3 x4 : Value} {n : Nat} {u : Tok} {Q : Value → Shared → Prop} (F : Fr h₀ L s.heap m) (X : K.In h₀) (hk : K.lookup t = some { cls := .type "tuple", data := .seq #[x0, x1, x2, x3, x4] n }) (h : Q x3 s)
    (hs : subscripted slice false (.ref t) (.int 3 u) = operate [.ref t, .int 3 u] (getItem (.ref t) (.int 3 u)) := by with_unfolding_all rfl) (hg : ∀ r, letTemporaryGo value (.ref t) r = pure () := by intro _; with_unfolding_all rfl) :
    wpAny (model prog w) A (subscriptTail value slice (.ref t) (.int 3 u)) Q E s := item_K F X hk (by decide) (by decide) rfl rfl h hs hg
theorem item5_4 {value slice : PySem.Expr} {t : Addr} {x0 x1 x2 x3 x4 : Value} {n : Nat} {u : Tok} {Q : Value → Shared → Prop} (F : Fr h₀ L s.heap m) (X : K.In h₀) (hk : K.lookup t = some { cls := .type "tuple", data := .seq #[x0, x1, x2, x3, x4] n }) (h : Q x4 s)
    (hs : subscripted slice false (.ref t) (.int 4 u) = operate [.ref t, .int 4 u] (getItem (.ref t) (.int 4 u)) := by with_unfolding_all rfl) (hg : ∀ r, letTemporaryGo value (.ref t) r = pure () := by intro _; with_unfolding_all rfl) :
    wpAny (model prog w) A (subscriptTail value slice (.ref t) (.int 4 u)) Q E s := item_K F X hk (by decide) (by decide) rfl rfl h hs hg
theorem item_S {value slice : PySem.Expr} {t : Addr} {items : Array Value} {n : Nat} {k : Int} {u : Tok} {S : World → Value → Prop} {Q : Value → Shared → Prop} (F : Fr h₀ L s.heap m) (X : K.In h₀) (hk : K.lookup t = some { cls := .type "tuple", data := .seq items n })
    (h0 : 0 ≤ k) (h1 : k < (items.size : Int)) (hz : items.size ≤ 4096) (hS : ∀ x ∈ items.toList, S w x) (h : ∀ x, S w x → Q x s)
    (hs : subscripted slice false (.ref t) (.int k u) = operate [.ref t, .int k u] (getItem (.ref t) (.int k u)) := by with_unfolding_all rfl) (hg : ∀ r, letTemporaryGo value (.ref t) r = pure () := by intro _; with_unfolding_all rfl) :
    wpAny (model prog w) A (subscriptTail value slice (.ref t) (.int k u)) Q E s := by
  have hlt : k.toNat < items.size := by omega
  have hj : seqIndex? k items.size = some k.toNat := by
    unfold seqIndex?
    split <;> first | omega | skip
    all_goals (try (simp; omega))
  refine item_K F X hk (by omega) (by omega) hj (x := items[k.toNat]) (Array.getElem?_eq_getElem hlt) (h _ (hS _ ?_)) hs hg
  exact Array.getElem_mem_toList hlt
end

theorem sm_paper {al v r : Array UInt8} (h : (al, v, r) ∈ papersT) : Sm r := (paper_of h).1.sm
def RowAt (w : World) (x : Value) : Prop := ∃ a v r t t', x = .ref a ∧ (hd.heap_39 w.params).lookup a = some { cls := .type "tuple", data := .seq #[.bytes v t, .bytes r t'] } ∧ (v, r) ∈ rowsL
def PapAt (w : World) (x : Value) : Prop := ∃ a v b c r t1 t2 t3 t4 t5 al f, x = .ref a ∧ (hd.heap_39 w.params).lookup a = some { cls := .type "tuple", data := .seq #[.bytes v t1, .bytes b t2, .bytes c t3, .bytes r t4, .int f t5] } ∧ (al, v, r) ∈ papersT ∧ ((f = 0 ∧ al = alB) ∨ (f = 1 ∧ al = alR))
set_option maxHeartbeats 8000000 in
theorem rows_at (w : World) : ∀ x ∈ [Value.ref 78, .ref 79, .ref 80, .ref 81, .ref 82, .ref 83, .ref 84, .ref 85, .ref 86, .ref 87, .ref 88, .ref 89], RowAt w x := by
  simp only [List.forall_mem_cons, List.not_mem_nil, false_implies, implies_true, and_true]
  refine ⟨?_, ?_, ?_, ?_, ?_, ?_, ?_, ?_, ?_, ?_, ?_, ?_⟩ <;> exact ⟨_, _, _, _, _, rfl, rfl, by unfold rowsL; repeat (first | exact List.Mem.head _ | refine List.Mem.tail _ ?_)⟩
set_option maxHeartbeats 8000000 in
theorem papers_at (w : World) : ∀ x ∈ [Value.ref 91, .ref 92, .ref 93, .ref 94, .ref 95], PapAt w x := by
  simp only [List.forall_mem_cons, List.not_mem_nil, false_implies, implies_true, and_true]
  refine ⟨?_, ?_, ?_, ?_, ?_⟩ <;> exact ⟨_, _, _, _, _, _, _, _, _, _, _, _, rfl, rfl, by unfold papersT; repeat (first | exact List.Mem.head _ | refine List.Mem.tail _ ?_), by first | exact .inl ⟨rfl, rfl⟩ | exact .inr ⟨rfl, rfl⟩⟩
end Mine
end

section
open PySem PySem.W PySem.Calls PySem.Builtin PyProof.Rows
set_option Elab.async false
set_option maxRecDepth 100000
namespace Mine
/-- the contract of a def that gives back some int -/
def GivesI (lv : Nat) (w : World) (p : Program) (loose : List PySem.Str) (mean : ExcName → Option Value) (mg mb : PySem.Str → Option Value) (f : Addr) (pos : List Value) (Pre : Heap → Prop) : Prop :=
  ∀ (dp un : Nat) (gd : Option (List Code)) (cn : PySem.Str) (cs : Scope) (a : Addr) (ccd : Value) (cl : List (PySem.Str × Addr)) (outer : List Env) (A₀ : Around) (base h₀ : Heap) (L : Addr) (m : PySem.Str → Option Value) (s : Shared) (Q E : Value → Shared → Prop),
    Below A₀ base outer h₀ → Fr h₀ L s.heap m → (hd.heap_39 w.params).In h₀ → Top p loose mean mg mb h₀ → cs.kind = .function → dp + lv + 4 < recursionLimit → un + 8 * lv + 40 < cLine → Pre h₀ →
    (∀ n t h' tk', s.heap.StaysIn h' → Q (.int n t) { s with heap := h', toks := tk' }) →
    wpAny (model PySem.Challenge.rw_eg5006_01.row.prog w) (ktrTop dp un gd cn cs L a ccd cl outer) (call (.ref f) pos []) Q E s
theorem GivesI.use {lv : Nat} {w : World} {p : Program} {loose : List PySem.Str} {mean : ExcName → Option Value} {mg mb : PySem.Str → Option Value} {f : Addr} {pos : List Value} {Pre : Heap → Prop}
    {dp un : Nat} {gd : Option (List Code)} {cn : PySem.Str} {cs : Scope} {a : Addr} {ccd : Value} {cl : List (PySem.Str × Addr)} {outer : List Env} {A₀ : Around} {base h₀ : Heap} {L : Addr} {m : PySem.Str → Option Value} {s : Shared} {news : List (Addr × Obj)} {Q E : Value → Shared → Prop}
    (C : GivesI lv w p loose mean mg mb f pos Pre) (B : Below A₀ base outer h₀) (F : Fr h₀ L s.heap m) (X : (hd.heap_39 w.params).In h₀) (N : News h₀ L s.heap news) (T : Top p loose mean mg mb h₀) (hk : cs.kind = .function) (hd : dp + lv + 4 < recursionLimit) (hu : un + 8 * lv + 40 < cLine) (hP : Pre h₀)
    (ret : ∀ n t h' tk', Fr h₀ L h' m → News h₀ L h' news → Q (.int n t) { s with heap := h', toks := tk' }) :
    wpAny (model PySem.Challenge.rw_eg5006_01.row.prog w) (ktrTop dp un gd cn cs L a ccd cl outer) (call (.ref f) pos []) Q E s :=
  C dp un gd cn cs a ccd cl outer A₀ base h₀ L m s Q E B F X T hk hd hu hP fun n t h' tk' st => ret n t h' tk' (F.keeps st) fun q hq => ⟨st _ _ (N q hq).1, (N q hq).2⟩
theorem GivesIEnd {Q E : Value → Shared → Prop} {s s' : Shared} {h' : Heap} {tk' : Nat} {v : Value} (hret : ∀ n t h' tk', s.heap.StaysIn h' → Q (.int n t) { s with heap := h', toks := tk' }) (hv : ∃ n t, v = .int n t) (hs : s' = { s with heap := h', toks := tk' }) :
    KeepR s.heap (fun r s' => match r with | .ok (.ret v) => Q v s' | .ok _ => False | .error e => E e s') (.ok (.ret v)) s' := by
  intro hk
  obtain ⟨n, t, rfl⟩ := hv
  subst hs
  exact hret n t h' tk' hk
set_option maxHeartbeats 8000000 in
set_option pp.deepTerms false in
set_option pp.deepTerms.threshold 12 in
set_option pp.maxSteps 3000 in
theorem c_draw {w : World} {p : Program} {loose : List PySem.Str} {mean : ExcName → Option Value} {mg mb : PySem.Str → Option Value} (l : Addr) (vs : List Value) (ns : List Int) (k : Int) (tk : Tok) (hI : IntsAre vs ns) (hz : ¬ (63 : Int) < (ns.length : Int)) (h0 : 0 ≤ k) (h2 : k ≤ 2) :
   GivesI 0 w p loose mean mg mb 103 [.ref l, .int k tk] (fun h => h.IsList l vs.toArray) := by
  k_with_none
  w_top off
  unfold GivesI
  k_fill
  intro dp un gd cn cs a ccd cl outer A₀ base h₀ L m s Q E B F X T hk hdp hun hl hret
  refine wpAny_call ?_
  refine' codeP ?k1 ?k2 ?k3 ?k5 ?kA ?kF ?kK ?k6 ?k7 ?k8 ?k9 ?kB ?_ ?c2 ?c3 ?c4 ?c5; (case kA => exact rfl); (case kF => exact rfl); (case kK => assumption); (case k1 => k_asm); (case k2 => k_asm); (case k3 => k_asm); (case k5 => k_asm); (case k6 => k_is); (case k7 => k_is); (case k8 => ktr_room); (case k9 => exact BindsTo.of_eq rfl); (case c5 => decide); (case kB => exact locs rfl); (case c2 => exact rfl); (case c3 => exact rfl); (case c4 => exact rfl); k_whole; intro g' L' h' FG' F' N' B' X' T'; (try dsimp only); (try k_fold)
  have hl2 : g'.IsList l vs.toArray := by obtain ⟨o, ho, r⟩ := hl; exact ⟨o, FG'.keep _ _ ho, r⟩
  have hlen := IntsAre.length hI
  k_steps
  all_goals exact GivesIEnd hret ⟨_, _, rfl⟩ rfl
end Mine
end

section
open PySem PySem.W PySem.Calls PySem.Builtin PyProof.Rows
set_option Elab.async false
set_option maxRecDepth 100000
namespace Mine
section
variable {prog : Program} {w : World} {A : Around} {E : Value → Shared → Prop} {s : Shared}
theorem r_bidx {b : Array UInt8} {i : Int} {t ui : Tok} {value slice : PySem.Expr} {Q : Value → Shared → Prop} (hfit : Sm b) (h0 : 0 ≤ i) (h1 : i < (b.size : Int))
    (h : ∀ t' k', Q (.int ((b.toList.getD i.toNat 0).toNat : Nat) t') { s with toks := k' })
    (hs : subscripted slice false (.bytes b t) (.int i ui) = operate [.bytes b t, .int i ui] (getItem (.bytes b t) (.int i ui)) := by with_unfolding_all rfl)
    (ht : ∀ r, letTemporaryGo value (.bytes b t) r = pure () := by intro _; with_unfolding_all rfl) : wpAny (model prog w) A (subscriptTail value slice (.bytes b t) (.int i ui)) Q E s := by
  obtain ⟨l⟩ := b
  unfold Sm at hfit
  simp only [List.size_toArray] at hfit h1
  exact bytes_item_K (x := l) (by omega) h0 h1 rfl (h _ _) hs ht
end
theorem pos_paper {al v r : Array UInt8} (h : (al, v, r) ∈ papersT) : (0 : Int) < (r.size : Int) := by
  have := List.all_eq_true.mp (show (papersT.all fun p => decide ((0 : Int) < (p.2.2.size : Int))) = true by decide +kernel) _ h
  exact of_decide_eq_true this
theorem at_lo {al v r : Array UInt8} (h : (al, v, r) ∈ papersT) (n : Int) : 0 ≤ Int.fmod n (r.size : Int) := Int.fmod_nonneg_of_pos _ (pos_paper h)
theorem at_hi {al v r : Array UInt8} (h : (al, v, r) ∈ papersT) (n : Int) : Int.fmod n (r.size : Int) < (r.size : Int) := Int.fmod_lt_of_pos _ (pos_paper h)
theorem sz_B {k : Int} (h : k < 58) : k < (alB.size : Int) := h
theorem sz_R {k : Int} (h : k < 58) : k < (alR.size : Int) := h
theorem sm_B : Sm alB := by unfold Sm; decide
theorem sm_R : Sm alR := by unfold Sm; decide
end Mine
end

section
open PySem PySem.W PySem.Calls PySem.Builtin PyProof.Rows
set_option Elab.async false
set_option maxRecDepth 100000
namespace Mine
theorem kpf_one {ks : List Int} {G : List Int → Int → List Int} {z : Int} {n : Nat} {Fin : List Value → Prop} (hf : ks.foldl G [] = [z]) (h : ∀ t, Fin [.int z t]) : KPfDone (∀ ys, IntsAre ys (ks.foldl G []) → ys.length ≤ n → Fin ys) := by
  unfold KPfDone
  intro ys hy _
  rw [hf] at hy
  cases hy with
  | cons _ t hr => cases hr with
    | nil => exact h t
theorem ranks_B {x : UInt8} (hx : x ∈ alB.toList) : (rangeKs 0 (58 - 0 : Int).toNat).foldl (fun (l : List Int) (k : Int) => if (((alB.toList.getD k.toNat 0).toNat : Nat) : Int) = ((x.toNat : Nat) : Int) then l ++ [k] else l) [] = [(dig alB x : Int)] := by
  have : (alB.toList.all fun x => decide ((rangeKs 0 (58 - 0 : Int).toNat).foldl (fun (l : List Int) (k : Int) => if (((alB.toList.getD k.toNat 0).toNat : Nat) : Int) = ((x.toNat : Nat) : Int) then l ++ [k] else l) [] = [(dig alB x : Int)])) = true := by decide +kernel
  exact of_decide_eq_true (List.all_eq_true.mp this x hx)
theorem ranks_R {x : UInt8} (hx : x ∈ alR.toList) : (rangeKs 0 (58 - 0 : Int).toNat).foldl (fun (l : List Int) (k : Int) => if (((alR.toList.getD k.toNat 0).toNat : Nat) : Int) = ((x.toNat : Nat) : Int) then l ++ [k] else l) [] = [(dig alR x : Int)] := by
  have : (alR.toList.all fun x => decide ((rangeKs 0 (58 - 0 : Int).toNat).foldl (fun (l : List Int) (k : Int) => if (((alR.toList.getD k.toNat 0).toNat : Nat) : Int) = ((x.toNat : Nat) : Int) then l ++ [k] else l) [] = [(dig alR x : Int)])) = true := by decide +kernel
  exact of_decide_eq_true (List.all_eq_true.mp this x hx)
theorem sign_in {al v r : Array UInt8} (h : (al, v, r) ∈ papersT) (n : Int) : r.toList.getD (Int.fmod n (r.size : Int)).toNat 0 ∈ al.toList := by
  have h0 := at_lo h n
  have h1 := at_hi h n
  refine (paper_of h).1.hv _ ?_
  rw [List.getD_eq_getElem?_getD, List.getElem?_eq_getElem (by rw [Array.length_toList]; omega)]
  exact List.getElem_mem _
theorem pos_absurd {al v r : Array UInt8} (h0 : (r.size : Int) = 0) (h : (al, v, r) ∈ papersT) : False := by
  have := pos_paper h
  omega
theorem fm58_lo (n : Int) : 0 ≤ Int.fmod n 58 := Int.fmod_nonneg_of_pos _ (by decide)
theorem fm58_hi (n : Int) : Int.fmod n 58 < 58 := Int.fmod_lt_of_pos _ (by decide)
theorem sm_text {al v r : Array UInt8} {x : UInt8} {lo hi : Option Int} (h : (al, v, r) ∈ papersT) : Sm (KBy.picked r lo hi ++ #[x]) := by
  have h1 := KBc.size_picked_le r lo hi
  have h2 := (paper_of h).1.hsz
  unfold Sm
  rw [Array.size_append]
  show _ + 1 ≤ _
  omega
theorem sm_one {x : UInt8} : Sm #[x] := by unfold Sm; show 1 ≤ 4096; decide
section
variable {prog : Program} {w : World} {A : Around} {E : Value → Shared → Prop} {s : Shared} {h₀ : Heap} {L : Addr} {m : PySem.Str → Option Value} {news : List (Addr × Obj)}
theorem r_bytes1 {l : Addr} {x : UInt8} {t : Tok} {Q : Value → Shared → Prop} (F : Fr h₀ L s.heap m) (N : News h₀ L s.heap news) (hl : s.heap.IsList l #[.int ((x.toNat : Nat) : Int) t]) (hh : A.handled = none)
    (h : ∀ h' t k, Fr h₀ L h' m → News h₀ L h' news → Q (.bytes #[x] t) { s with heap := h', toks := k }) : wpAny (model prog w) A (call (.type "bytes") [.ref l]) Q E s := by
  refine bytes_K (vs := [.int ((x.toNat : Nat) : Int) t]) (ns := [((x.toNat : Nat) : Int)]) F N hl (.cons _ _ .nil) (fun n hn => ?_) (show 1 ≤ sizeLine by rw [sizeLine_eq]; decide) hh fun h' t' k F' N' _ => ?_
  · rw [List.mem_singleton.mp hn]
    have := x.toNat_lt
    omega
  · have e : ([((x.toNat : Nat) : Int)].map fun n => n.toNat.toUInt8).toArray = #[x] := by
      show #[(((x.toNat : Nat) : Int).toNat).toUInt8] = #[x]
      rw [Int.toNat_natCast]
      congr 2
      exact UInt8.ofNat_toNat
    rw [e]
    exact h h' t' k F' N'
end
end Mine
end

section
open PySem PySem.W PySem.Calls PySem.Builtin PyProof.Rows
set_option Elab.async false
set_option maxRecDepth 100000
namespace Mine

/-- the five papers' own numbers -/
def paperNums : List Nat := papersL.map fun p => beVal (p.1 ++ KBy.picked p.2.2 none (some 4)).toList
/-- what the changed text's number must not be: a fixed check, or one of the five -/
def okNum (ns : List Nat) (N : Nat) : Bool := N % 4294967296 != 1520778435 && ns.all fun n => N != n
def okF (N : Nat) : Bool := Bool.and (Bool.not (Nat.beq (Nat.mod N 4294967296) 1520778435)) (Bool.and (Bool.not (Nat.beq N 2425272852617787204149748718533766320022242666561985543571)) (Bool.and (Bool.not (Nat.beq N 35810075627016600505629403573885762136870990069967794011138)) (Bool.and (Bool.not (Nat.beq N 4461801830044217033942119356263563680311354058268852009631)) (Bool.and (Bool.not (Nat.beq N 63680997318088143281752740767766707563546963464218564507450892460763521488675430192536461)) (Bool.not (Nat.beq N 5295605526953256720615635285503376767279418385084892937611138504322684553371727892314562661399281687223636364296835101264812477471980217329222640745760575472547170189119037280856924012194963077921))))))
theorem paperNums_eq : paperNums = [2425272852617787204149748718533766320022242666561985543571, 35810075627016600505629403573885762136870990069967794011138, 4461801830044217033942119356263563680311354058268852009631, 63680997318088143281752740767766707563546963464218564507450892460763521488675430192536461, 5295605526953256720615635285503376767279418385084892937611138504322684553371727892314562661399281687223636364296835101264812477471980217329222640745760575472547170189119037280856924012194963077921] := by decide +kernel
theorem ne_of_beq {a b : Nat} (h : Bool.not (Nat.beq a b) = true) : (a != b) = true := by
  rw [bne_iff_ne]
  rintro rfl
  rw [Nat.beq_refl] at h
  cases h
theorem okF_ok {N : Nat} (h : okF N = true) : okNum paperNums N = true := by
  unfold okF at h
  have split : ∀ {x y : Bool}, Bool.and x y = true → x = true ∧ y = true := fun h => (Bool.and_eq_true _ _).mp h
  obtain ⟨h0, h⟩ := split h
  obtain ⟨h1, h⟩ := split h
  obtain ⟨h2, h⟩ := split h
  obtain ⟨h3, h⟩ := split h
  obtain ⟨h4, h5⟩ := split h
  unfold okNum
  rw [paperNums_eq, Bool.and_eq_true]
  refine ⟨ne_of_beq h0, ?_⟩
  simp only [List.all_cons, List.all_nil, Bool.and_true, Bool.and_eq_true]
  exact ⟨ne_of_beq h1, ne_of_beq h2, ne_of_beq h3, ne_of_beq h4, ne_of_beq h5⟩
def valFrom (p : Nat) (ds : List Nat) : Nat := ds.foldl (fun a d => a * 58 + d) p
/-- base + b * w is fit for every b below n but d -/
def goodRow (base w d : Nat) : Nat → Bool
  | 0 => true
  | b + 1 => Bool.and (Bool.or (Nat.beq b d) (okF (Nat.add base (Nat.mul b w)))) (goodRow base w d b)
def goodAll : Nat → List Nat → Bool
  | _, [] => true
  | p, d :: rest => Bool.and (goodRow (Nat.add (Nat.mul (Nat.mul p 58) (Nat.pow 58 rest.length)) (valFrom 0 rest)) (Nat.pow 58 rest.length) d 58) (goodAll (Nat.add (Nat.mul p 58) d) rest)
theorem valFrom_eq : ∀ (ds : List Nat) (p : Nat), valFrom p ds = p * 58 ^ ds.length + valFrom 0 ds
  | [], p => by simp [valFrom]
  | d :: r, p => by
    have h1 := valFrom_eq r (p * 58 + d)
    have h2 := valFrom_eq r (0 * 58 + d)
    show valFrom (p * 58 + d) r = _
    rw [h1]
    show _ = _ + valFrom (0 * 58 + d) r
    rw [h2, List.length_cons, Nat.pow_succ, Nat.zero_mul, Nat.zero_add, Nat.add_mul, Nat.mul_assoc, Nat.mul_comm 58, Nat.add_assoc]
theorem goodRow_at {base w d : Nat} : ∀ {n : Nat}, goodRow base w d n = true → ∀ b, b < n → b ≠ d → okF (base + b * w) = true
  | 0, _, b, hb, _ => absurd hb (Nat.not_lt_zero _)
  | n + 1, h, b, hb, hne => by
    unfold goodRow at h
    obtain ⟨h1, h2⟩ := (Bool.and_eq_true _ _).mp h
    rcases Nat.lt_succ_iff_lt_or_eq.mp hb with hb | rfl
    · exact goodRow_at h2 b hb hne
    · rcases (Bool.or_eq_true _ _).mp h1 with e | e
      · exact absurd (Nat.eq_of_beq_eq_true e) hne
      · exact e
theorem goodAll_at : ∀ (pre : List Nat) (p d : Nat) (suf : List Nat), goodAll p (pre ++ d :: suf) = true → ∀ b, b < 58 → b ≠ d → okNum paperNums (valFrom p (pre ++ b :: suf)) = true
  | [], p, d, suf, h, b, hb, hne => by
    rw [List.nil_append] at h
    unfold goodAll at h
    obtain ⟨h1, _⟩ := (Bool.and_eq_true _ _).mp h
    have h2 := okF_ok (goodRow_at h1 b hb hne)
    show okNum paperNums (valFrom (p * 58 + b) suf) = true
    rw [valFrom_eq, Nat.add_mul]
    have e : p * 58 * 58 ^ suf.length + b * 58 ^ suf.length + valFrom 0 suf = Nat.add (Nat.mul (Nat.mul p 58) (Nat.pow 58 suf.length)) (valFrom 0 suf) + b * Nat.pow 58 suf.length := by
      show _ = (p * 58) * 58 ^ suf.length + valFrom 0 suf + b * 58 ^ suf.length
      omega
    rw [e]
    exact h2
  | x :: pre, p, d, suf, h, b, hb, hne => by
    rw [List.cons_append] at h
    unfold goodAll at h
    obtain ⟨_, h2⟩ := (Bool.and_eq_true _ _).mp h
    exact goodAll_at pre (p * 58 + x) d suf h2 b hb hne
set_option maxHeartbeats 4000000 in
theorem papers_good : (papersT.all fun p => goodAll 0 (p.2.2.toList.map (dig p.1))) = true := by decide +kernel
end Mine
end

section
open PySem PySem.W PySem.Calls PySem.Builtin PyProof.Rows
set_option Elab.async false
set_option maxRecDepth 100000
namespace Mine

/- the cut text -/
theorem cut_lo {r : Array UInt8} {i : Int} (h0 : 0 ≤ i) (h1 : i < (r.size : Int)) : (KBy.picked r none (some i)).toList = r.toList.take i.toNat := by
  rw [KBc.picked_eq]
  have e := clipAt_in (n := r.size) h0 (by omega)
  show ((r.toList.drop 0).take (clipAt r.size i - 0)) = _
  rw [e, List.drop_zero, Nat.sub_zero]
theorem cut_hi {r : Array UInt8} {i : Int} (h0 : 0 ≤ i) (h1 : i < (r.size : Int)) : (KBy.picked r (some (i + 1)) none).toList = r.toList.drop (i.toNat + 1) := by
  rw [KBc.picked_eq]
  have e := clipAt_in (n := r.size) (x := i + 1) (by omega) (by omega)
  show ((r.toList.drop (clipAt r.size (i + 1))).take (r.size - clipAt r.size (i + 1))) = _
  rw [e, show (i + 1).toNat = i.toNat + 1 by omega]
  exact List.take_of_length_le (by rw [List.length_drop, Array.length_toList]; exact Nat.le_refl _)
theorem cut_last (o : Array UInt8) : (KBy.picked o (some (-4)) none).toList = o.toList.drop (o.size - 4) := by
  rw [KBc.picked_eq]
  have e := clipAt_neg o.size 4 (by decide)
  show ((o.toList.drop (clipAt o.size (-4))).take (o.size - clipAt o.size (-4))) = _
  rw [show (-4 : Int) = -((4 : Nat) : Int) from rfl, e]
  exact List.take_of_length_le (by rw [List.length_drop, Array.length_toList]; exact Nat.le_refl _)
theorem cut_first (o : Array UInt8) : (KBy.picked o none (some (-4))).toList = o.toList.take (o.size - 4) := by
  rw [KBc.picked_eq]
  have e := clipAt_neg o.size 4 (by decide)
  show ((o.toList.drop 0).take (clipAt o.size (-4) - 0)) = _
  rw [show (-4 : Int) = -((4 : Nat) : Int) from rfl, e, List.drop_zero, Nat.sub_zero]
theorem cut_whole (o : Array UInt8) : (KBy.picked o none (some (-4))).toList ++ (KBy.picked o (some (-4)) none).toList = o.toList := by
  rw [cut_last, cut_first, List.take_append_drop]

/- the number of octets -/
theorem beVal_append (a b : List UInt8) : beVal (a ++ b) = beVal a * 256 ^ b.length + beVal b := by
  have h : ∀ (b : List UInt8) (k : Nat), b.foldl (fun (acc : Nat) (b : UInt8) => acc * 256 + b.toNat) k = k * 256 ^ b.length + beVal b := by
    intro b
    induction b with
    | nil => intro k; simp [beVal]
    | cons x r ih =>
      intro k
      have e1 := ih (k * 256 + x.toNat)
      have e2 := ih (0 * 256 + x.toNat)
      show r.foldl _ (k * 256 + x.toNat) = _
      rw [e1]
      show _ = _ + r.foldl _ (0 * 256 + x.toNat)
      rw [e2, List.length_cons, Nat.pow_succ, Nat.zero_mul, Nat.zero_add, Nat.add_mul, Nat.mul_assoc, Nat.mul_comm 256, Nat.add_assoc]
  unfold beVal
  rw [List.foldl_append]
  exact h b _
theorem beVal_zeros (n : Nat) (l : List UInt8) : beVal (List.replicate n 0 ++ l) = beVal l := by
  rw [beVal_append]
  have : beVal (List.replicate n 0) = 0 := by
    induction n with
    | zero => rfl
    | succ n ih =>
      rw [List.replicate_succ]
      show (List.replicate n (0 : UInt8)).foldl (fun (acc : Nat) (b : UInt8) => acc * 256 + b.toNat) (0 * 256 + (0 : UInt8).toNat) = 0
      exact ih
  rw [this, Nat.zero_mul, Nat.zero_add]
theorem beVal_leD : ∀ (f n : Nat), n < 256 ^ f → beVal (byteArr (leD f n).reverse).toList = n
  | 0, n, h => by
    rw [Nat.pow_zero] at h
    have : n = 0 := by omega
    subst this
    rfl
  | f + 1, n, h => by
    unfold leD
    split
    · rename_i e
      subst e
      rfl
    · rw [Nat.pow_succ] at h
      have ih := beVal_leD f (n / 256) (by omega)
      unfold byteArr at ih ⊢
      rw [List.reverse_cons, List.map_append]
      show beVal (List.map _ _ ++ List.map _ _) = n
      rw [beVal_append]
      have e : (List.map (fun n : Int => n.toNat.toUInt8) (leD f (n / 256)).reverse).toArray.toList = List.map (fun n : Int => n.toNat.toUInt8) (leD f (n / 256)).reverse := rfl
      rw [e] at ih
      rw [ih]
      show n / 256 * 256 ^ 1 + (0 * 256 + (((n % 256 : Nat) : Int).toNat.toUInt8).toNat) = n
      rw [Int.toNat_natCast]
      have e2 : ((n % 256 : Nat).toUInt8).toNat = n % 256 := by
        show (UInt8.ofNat (n % 256)).toNat = n % 256
        rw [UInt8.toNat_ofNat']
        omega
      rw [e2]
      omega

/- leading signs of rank 0 count for nothing -/
theorem dig_zero {al : Array UInt8} (hal : al.size = 58) : dig al (al.toList.getD 0 0) = 0 := by
  unfold dig
  obtain ⟨l⟩ := al
  cases l with
  | nil => cases hal
  | cons x r =>
    show (x :: r).idxOf x = 0
    exact List.idxOf_cons_self
theorem decVal_lst {al : Array UInt8} (hal : al.size = 58) (v : Array UInt8) : decVal al (lst v #[al.toList.getD 0 0]).toList = decVal al v.toList := by
  unfold lst
  obtain ⟨l⟩ := v
  show decVal al (l.dropWhile _) = decVal al l
  induction l with
  | nil => rfl
  | cons x r ih =>
    rw [List.dropWhile_cons]
    split
    · rename_i hx
      have hx' : x = al.toList.getD 0 0 := by simpa using hx
      rw [ih]
      show decVal al r = r.foldl (fun a c => a * 58 + dig al c) (0 * 58 + dig al x)
      rw [hx', dig_zero hal]
      rfl
    · rfl
theorem dec_num {al v : Array UInt8} (h : OkText al v) : beVal (decSpec al v).toList = decVal al v.toList := by
  unfold decSpec
  rw [decVal_lst h.hal, Array.toList_append]
  show beVal (List.replicate _ 0 ++ _) = _
  rw [beVal_zeros]
  exact beVal_leD _ _ (decVal_lt h.hal h.hv (Nat.le_refl _))
theorem decVal_from (al : Array UInt8) (l : List UInt8) : decVal al l = valFrom 0 (l.map (dig al)) := by
  unfold decVal valFrom
  rw [List.foldl_map]

/- the law's hash, twice -/
theorem hash_cases : ∀ (ps : List (Array UInt8 × Array UInt8 × Array UInt8)) (fx d : Array UInt8), (∃ p ∈ ps, d = p.1 ∧ hashGo ps fx d = p.2.1) ∨ (∃ p ∈ ps, d = p.2.1 ∧ hashGo ps fx d = p.2.2) ∨ hashGo ps fx d = fx
  | [], _, _ => .inr (.inr rfl)
  | p :: r, fx, d => by
    unfold hashGo
    split
    · rename_i h
      exact .inl ⟨p, .head _, Array.toList_inj.mp (by simpa using h), rfl⟩
    · split
      · rename_i h
        exact .inr (.inl ⟨p, .head _, Array.toList_inj.mp (by simpa using h), rfl⟩)
      · rcases hash_cases r fx d with ⟨q, hq, e⟩ | ⟨q, hq, e⟩ | e
        · exact .inl ⟨q, .tail _ hq, e⟩
        · exact .inr (.inl ⟨q, .tail _ hq, e⟩)
        · exact .inr (.inr e)
theorem hash_tab : (papersL.all fun p => (hashSpec p.2.1).toList == p.2.2.toList && (hashSpec p.2.2).toList == fixedL.toList) = true := by decide +kernel
theorem hash_fixed : (hashSpec fixedL).toList = fixedL.toList := by decide +kernel
theorem hash_twice (d : Array UInt8) : (∃ p ∈ papersL, d = p.1 ∧ hashSpec (hashSpec d) = p.2.2) ∨ hashSpec (hashSpec d) = fixedL := by
  rcases hash_cases papersL fixedL d with ⟨p, hp, e1, e2⟩ | ⟨p, hp, e1, e2⟩ | e
  · refine .inl ⟨p, hp, e1, ?_⟩
    have h := List.all_eq_true.mp hash_tab p hp
    rw [Bool.and_eq_true, beq_iff_eq] at h
    show hashSpec (hashGo papersL fixedL d) = _
    rw [e2]
    exact Array.toList_inj.mp h.1
  · refine .inr ?_
    have h := List.all_eq_true.mp hash_tab p hp
    rw [Bool.and_eq_true, beq_iff_eq, beq_iff_eq] at h
    show hashSpec (hashGo papersL fixedL d) = _
    rw [e2]
    exact Array.toList_inj.mp h.2
  · refine .inr ?_
    show hashSpec (hashGo papersL fixedL d) = _
    rw [e]
    exact Array.toList_inj.mp hash_fixed

/- a number that is none of those is no check's -/
theorem bad_of {al t : Array UInt8} (h : OkText al t) (hn : okNum paperNums (decVal al t.toList) = true) :
    KBy.picked (decSpec al t) (some (-4)) none ≠ KBy.picked (hashSpec (hashSpec (KBy.picked (decSpec al t) none (some (-4))))) none (some 4) := by
  intro e
  rw [← dec_num h] at hn
  generalize decSpec al t = o at hn e
  have hw := cut_whole o
  unfold okNum at hn
  rw [Bool.and_eq_true] at hn
  rw [← hw] at hn
  rcases hash_twice (KBy.picked o none (some (-4))) with ⟨p, hp, e1, e2⟩ | e2
  · rw [e2] at e
    rw [e, e1] at hn
    have hm : beVal (p.1 ++ KBy.picked p.2.2 none (some 4)).toList ∈ paperNums := List.mem_map.mpr ⟨p, hp, rfl⟩
    rw [Array.toList_append] at hm
    have := List.all_eq_true.mp hn.2 _ hm
    rw [bne_self_eq_false] at this
    cases this
  · rw [e2] at e
    have hf : (KBy.picked fixedL none (some 4)).toList = [90, 165, 60, 195] := by decide +kernel
    rw [e, hf, beVal_append] at hn
    have h1 := hn.1
    rw [show beVal [90, 165, 60, 195] = 1520778435 by decide, show ([90, 165, 60, 195] : List UInt8).length = 4 from rfl, show (256 : Nat) ^ 4 = 4294967296 by decide, show ∀ z, (z * 4294967296 + 1520778435) % 4294967296 = 1520778435 by intro z; omega, bne_self_eq_false] at h1
    cases h1

theorem no_space : (papersT.all fun p => p.1.toList.all fun c => !Bytes.isSpace c) = true := by decide +kernel

/-- the paper with one sign turned -/
def turned (al r : Array UInt8) (i j : Int) : Array UInt8 := KBy.picked r none (some i) ++ #[al.toList.getD j.toNat 0] ++ KBy.picked r (some (i + 1)) none
theorem turned_list {al r : Array UInt8} {i j : Int} (h0 : 0 ≤ i) (h1 : i < (r.size : Int)) : (turned al r i j).toList = r.toList.take i.toNat ++ al.toList.getD j.toNat 0 :: r.toList.drop (i.toNat + 1) := by
  unfold turned
  rw [Array.toList_append, Array.toList_append, cut_lo h0 h1, cut_hi h0 h1, List.append_assoc]
  rfl
theorem dig_at {al : Array UInt8} (hnd : al.toList.Nodup) {k : Nat} (hk : k < al.toList.length) : al.toList.getD k 0 ∈ al.toList ∧ dig al (al.toList.getD k 0) = k := by
  have e : al.toList.getD k 0 = al.toList[k] := by rw [List.getD_eq_getElem?_getD, List.getElem?_eq_getElem hk]; rfl
  have hm : al.toList.getD k 0 ∈ al.toList := by rw [e]; exact List.getElem_mem _
  refine ⟨hm, ?_⟩
  have h := dig_get hm
  rw [← Array.getElem?_toList] at h
  have hl : dig al (al.toList.getD k 0) < al.toList.length := by have := dig_lt hm; rwa [Array.length_toList]
  exact ((List.getElem?_inj hl hnd).mp (h.trans (by rw [List.getElem?_eq_getElem hk, ← e])))
theorem turned_ok {al v r : Array UInt8} (h : (al, v, r) ∈ papersT) {i j : Int} (h0 : 0 ≤ i) (h1 : i < (r.size : Int)) (hj0 : 0 ≤ j) (hj1 : j < 58) (hne : j ≠ (dig al (r.toList.getD i.toNat 0) : Int)) :
    OkText al (turned al r i j) ∧ okNum paperNums (decVal al (turned al r i j).toList) = true := by
  have ho := (paper_of h).1
  have hl := turned_list (al := al) (j := j) h0 h1
  have hjl : j.toNat < al.toList.length := by rw [Array.length_toList, ho.hal]; omega
  obtain ⟨hxm, hxd⟩ := dig_at ho.hnd hjl
  have hil : i.toNat < r.toList.length := by rw [Array.length_toList]; omega
  have er : r.toList = r.toList.take i.toNat ++ r.toList.getD i.toNat 0 :: r.toList.drop (i.toNat + 1) := by
    rw [List.getD_eq_getElem?_getD, List.getElem?_eq_getElem hil]
    show _ = _ ++ r.toList[i.toNat] :: _
    rw [← List.drop_eq_getElem_cons hil, List.take_append_drop]
  have hmem : ∀ c ∈ (turned al r i j).toList, c ∈ al.toList := by
    intro c hc
    rw [hl] at hc
    rcases List.mem_append.mp hc with hc | hc
    · exact ho.hv c (List.mem_of_mem_take hc)
    · rcases List.mem_cons.mp hc with rfl | hc
      · exact hxm
      · exact ho.hv c (List.mem_of_mem_drop hc)
  refine ⟨⟨ho.hal, ho.hnd, ho.hs32, hmem, fun c hc => ?_, ?_⟩, ?_⟩
  · have := List.all_eq_true.mp (List.all_eq_true.mp no_space _ h) c (hmem c hc)
    simpa using this
  · have hz := ho.hsz
    rw [← Array.length_toList, hl, List.length_append, List.length_take, List.length_cons, List.length_drop, Array.length_toList]
    rw [Array.length_toList] at hil
    omega
  · rw [decVal_from, hl, List.map_append, List.map_cons, hxd]
    have hg := List.all_eq_true.mp papers_good _ h
    dsimp only at hg
    rw [er, List.map_append, List.map_cons] at hg
    exact goodAll_at _ 0 _ _ hg _ (by omega) (by omega)
theorem turned_bad {al v r : Array UInt8} (h : (al, v, r) ∈ papersT) (n k : Int) {T : Array UInt8}
    (hT : T = turned al r (Int.fmod n (r.size : Int)) (Int.fmod ((dig al (r.toList.getD (Int.fmod n (r.size : Int)).toNat 0) : Int) + 1 + Int.fmod k 57) 58)) :
    OkText al T ∧ KBy.picked (decSpec al T) (some (-4)) none ≠ KBy.picked (hashSpec (hashSpec (KBy.picked (decSpec al T) none (some (-4))))) none (some 4) := by
  subst hT
  have hd : dig al (r.toList.getD (Int.fmod n (r.size : Int)).toNat 0) < 58 := by
    have := dig_lt (sign_in h n)
    have h2 := (paper_of h).1.hal
    omega
  have a0 : 0 ≤ Int.fmod k 57 := Int.fmod_nonneg_of_pos _ (by decide)
  have a1 : Int.fmod k 57 < 57 := Int.fmod_lt_of_pos _ (by decide)
  have b0 := fm58_lo ((dig al (r.toList.getD (Int.fmod n (r.size : Int)).toNat 0) : Int) + 1 + Int.fmod k 57)
  have b1 := fm58_hi ((dig al (r.toList.getD (Int.fmod n (r.size : Int)).toNat 0) : Int) + 1 + Int.fmod k 57)
  have hh := turned_ok h (i := Int.fmod n (r.size : Int)) (j := Int.fmod ((dig al (r.toList.getD (Int.fmod n (r.size : Int)).toNat 0) : Int) + 1 + Int.fmod k 57) 58) (at_lo h n) (at_hi h n) b0 b1 (by
    generalize dig al (r.toList.getD (Int.fmod n (r.size : Int)).toNat 0) = d at hd
    generalize Int.fmod k 57 = e at a0 a1
    rw [Int.fmod_eq_emod_of_nonneg _ (by decide)]
    omega)
  exact ⟨hh.1, bad_of hh.1 hh.2⟩
end Mine
end

section
open PySem PySem.W PySem.Calls PySem.Builtin PyProof.Rows
set_option Elab.async false
set_option maxRecDepth 100000
namespace Mine
theorem ite_ne_of {x y : Array UInt8} {p q : Prop} (h : x ≠ y) (hp : p) : if (x.toList != y.toList) = true then p else q := by
  rw [if_pos (by rw [bne_iff_ne]; exact fun e => h (Array.toList_inj.mp e))]; exact hp
/-- a contract that says nothing of the heap behind the call -/
def GivesW (lv : Nat) (w : World) (p : Program) (loose : List PySem.Str) (mean : ExcName → Option Value) (mg mb : PySem.Str → Option Value) (f : Addr) (pos : List Value) (v : Value) : Prop :=
  ∀ (dp un : Nat) (gd : Option (List Code)) (cn : PySem.Str) (cs : Scope) (a : Addr) (ccd : Value) (cl : List (PySem.Str × Addr)) (outer : List Env) (A₀ : Around) (base h₀ : Heap) (L : Addr) (m : PySem.Str → Option Value) (s : Shared) (Q E : Value → Shared → Prop),
    Below A₀ base outer h₀ → Fr h₀ L s.heap m → (hd.heap_39 w.params).In h₀ → Top p loose mean mg mb h₀ → (hd.heap_39 w.params).In base → Top p loose mean mg mb base → cs.kind = .function → dp + lv + 4 < recursionLimit → un + 8 * lv + 40 < cLine →
    (∀ h' tk', base.StaysIn h' → Q v { s with heap := h', toks := tk' }) →
    wpAny (model PySem.Challenge.rw_eg5006_01.row.prog w) (ktrTop dp un gd cn cs L a ccd cl outer) (call (.ref f) pos []) Q E s
section
variable {prog : Program} {w : World} {A A₀ : Around} {s s' : Shared} {K : Frag} {L a e t : Addr} {h₀ base g : Heap} {m mg mb : PySem.Str → Option Value} {p : Program} {loose : List PySem.Str} {mean : ExcName → Option Value}
theorem codeW {env : Env} {outer : List Env} {R : Result → Shared → Prop} {name qual : PySem.Str} {params : Arguments} {body : List Stmt} {scope : Scope} {dV kV doc pm cdv ct oc : Value} {an od : Option Addr} {osl : Array (Option Value)} {f : Addr} {args : Args} {binds : List (PySem.Str × Value)}
    (B : Below A₀ base outer h₀) (F : Fr h₀ L s.heap m) (X₀ : K.In h₀) (T : Top p loose mean mg mb h₀) (hA : A.frames = some (env :: outer)) (hf : env.frame = some L) (hke : env.scope.kind = .function)
    (ho : K.lookup f = some ⟨oc, od, .func (fnOf name qual params body scope dV kV doc pm an cdv ct), osl⟩) (hcd : codeIn K cdv qual = true) (hroom : A.depth < recursionLimit)
    (hbind : BindsTo s (fnOf name qual params body scope dV kV doc pm an cdv ct) args binds) (hloc : ∀ y ∈ binds, scope.names.lookup y.1 = some .local)
    (h : ∀ g L' h₁, Fr h₀ L g m → Fr g L' h₁ (fun y => binds.reverse.lookup y) → News g L' h₁ [] → Below A base (env :: outer) g → K.In g → Top p loose mean mg mb g →
      wpAny (model prog w) (A.deeper (envOf qual scope L' f cdv)) (execs body (envOf qual scope L' f cdv))
        (fun fl s' => R (.ok (.ret (match fl with | .ret v => v | _ => .none))) s')
        (fun e s' => wpAny (model prog w) (A.deeper (envOf qual scope L' f cdv)) (leaving (envOf qual scope L' f cdv) e) (fun _ s'' => R (.error e) s'') (fun e' s'' => R (.error e') s'') s')
        { s with heap := h₁, toks := s.toks + binds.length })
    (hco : scope.isCoroutine = false) (hgen : scope.isGenerator = false) (hk : scope.kind = .function)
    (hcell : ∀ x ∈ scope.names, x.2 ≠ .cell) : codeAny (model prog w) A (.call (.ref f) args) R s := by
  have N : News h₀ L s.heap [] := News.nil
  obtain ⟨FG, BG, st, lv⟩ := groundX (R := R) B F N hA hf hke
  refine codeAny_call_def (fd := fnOf name qual params body scope dV kV doc pm an cdv ct) (body := body) (binds := binds) hroom ((X₀.keeps F.keep) _ _ ho) rfl (T.nolimit.keeps F.keep) (codeRec_of (X₀.keeps F.keep) hcd) rfl hbind hcell hloc (fun h₁ hns hk₁ => ?_) hco hgen hk
  exact h _ s.heap.objs.size h₁ FG ⟨hns, fun b o e => hk₁ b o (of_hideAll _ e), Nat.le_of_eq (hideAll_size _ _)⟩
    News.nil BG (X₀.keeps st) (T.keeps st)
theorem raisedN_of {l : List Env} {cls : Value} {vs : List Value} {news : List (Addr × Obj)} {h : Heap} (R : RaisedK base l e cls t vs news h) : RaisedN base l e cls news h := by
  obtain ⟨⟨B', hB, hl, hfl, hnew⟩, htup⟩ := R
  exact ⟨B', _, hB, hl, hfl⟩
theorem caught_any {outer : List Env} {name : PySem.Str} {scope : Scope} {cd : Value} {Q : Flow → Shared → Prop} {E : Value → Shared → Prop} {news : List (Addr × Obj)} {X T' : String} {x : PySem.Str} {np pos : Pos} {b₀ : Stmt} {suite : List Stmt} {rest : List ExceptHandler}
    (B : Below A₀ base outer g) (R : RaisedN base (envOf name scope L a cd :: outer) e (.type X) news s'.heap) (XB : K.In base) (T : TopRead p loose mg mb base)
    (ex : nsIn K mainGlobals x = some none) (hv : bootBuiltins x = some (.type T')) (hn : x ≠ "__name__")
    (hexc : isSubtype (.type T') (.type "BaseException") = pure true) (hnt : isSubtype (.type ((Manifest.find? T').elim "type" fun y => y.metatype)) (.type "tuple") = pure false) (hsub : isSubtype (.type X) (.type T') = pure true)
    (k : ∀ h', base.StaysIn h' → wpAny (model prog w) ((A₀.deeper (envOf name scope L a cd)).mark (some (.ref e))) (execs (b₀ :: suite) (envOf name scope L a cd)) Q E { s' with heap := h' })
    (hk : scope.kind = .function := by rfl) (hx : (envOf name scope L a cd).kindOf x = some .globalImplicit := by rfl) (hd : (x == ("__debug__" : PySem.Str)) = false := by decide)
    (hE : PassesOwnAt (model prog w) ((A₀.deeper (envOf name scope L a cd)).mark (some (.ref e))) (A₀.deeper (envOf name scope L a cd)) (envOf name scope L a cd) E := by passes_own) :
    wpAny (model prog w) (A₀.deeper (envOf name scope L a cd)) (noteFrame (.ref e) (envOf name scope L a cd))
      (fun _ s₂ => wpAny (model prog w) (A₀.deeper (envOf name scope L a cd)) (setFlight (.ref e) none) (fun _ s₃ =>
        wpAny (model prog w) (A₀.deeper (envOf name scope L a cd)) (handleBy (.ref e) (envOf name scope L a cd) (.ExceptHandler (some (.Name x np)) none (b₀ :: suite) pos :: rest)) Q E s₃) E s₂) E s' := by
  obtain ⟨B', a0, hB, hl, hfl⟩ := R
  refine wpAny_looks_onW (Around.frames_deeper B.stack) rfl hfl fun h₄ hheld₄ hsm₄ => ?_
  refine wpAny_landsW hheld₄ fun h₅ hheld hsm₅' => ?_
  have hheld' := flyingW_base hB hheld
  obtain ⟨ob, hob, hobc⟩ := hheld'.there
  refine wpAny_handleBy_builtin (X := X) (T := T') (b := true) hexc hnt hsub (Calls.Name_function_global hk hx (Calls.loadGlobal_builtin (env := envOf name scope L a cd) (T.g.keeps hheld'.1) (mg_none_of XB T.g ex) (T.b.keeps hheld'.1) ((T.builtins x hn).trans hv) ⟨rfl, ⟨ob, hob, hobc⟩, ?_⟩) hd)
  refine lands_againW hheld fun h₆ hfl₆ hsm₆ => ?_
  exact wpAny_passesOwnAt hE (k h₆ (flyingW_base hB hfl₆).1)
end

local macro_rules | `(tactic| ktr_rel) => `(tactic| ((with_reducible refine sm_picked ?_); ktr_rel))
local macro_rules | `(tactic| ktr_rel) => `(tactic| ((with_reducible refine sm_lst ?_); ktr_rel))
local macro_rules | `(tactic| ktr_rel) => `(tactic| ((with_reducible refine EncInv.sm ?smE); (case smE => assumption)))
local macro_rules | `(tactic| ktr_rel) => `(tactic| (refine' sm_of (n := 58) ?smA ?smB; (case smA => assumption); (case smB => decide)))
local macro_rules | `(tactic| ktr_rel) => `(tactic| with_reducible assumption)
local macro_rules | `(tactic| walk_at "call builtin:len") => `(tactic| ((with_reducible show wpAny _ _ (call (Value.builtin "len") [Value.bytes _ _]) _ _ _); (refine' r_len ?rA ?_); (case rA => ktr_rel); intro _ _))
local macro_rules | `(tactic| walk_at "binaryOp Add bytes bytes") => `(tactic| ((with_reducible show wpAny _ _ (binaryOp Operator.Add (Value.bytes _ _) (Value.bytes _ _)) _ _ _); (refine' r_add ?rA ?rB ?_); (case rA => ktr_rel); (case rB => ktr_rel); intro _ _))
local macro_rules | `(tactic| walk_at "binaryOp Mult bytes int") => `(tactic| ((with_reducible show wpAny _ _ (binaryOp Operator.Mult (Value.bytes _ _) (Value.int _ _)) _ _ _); (refine' r_mul ?mA ?mB ?mC ?_); (case mA => first | (refine picked01 ?_; assumption) | rfl); (case mB => exact lead_lo); (case mC => (refine lead_hi ?_; ktr_rel)); intro _ _))
local macro_rules | `(tactic| walk_at "subscriptTail") => `(tactic| ((with_reducible show wpAny _ _ (subscriptTail _ (Expr.Slice _ _ none _) (Value.bytes _ _) (Value.ref _)) _ _ _); (with_reducible rename Fr _ _ _ _ => F'); (with_reducible rename News _ _ _ _ => N'); (refine' r_slice (s := ⟨_, _, _, _, _⟩) F' N' ?rA ?rB ?rC ?_); (case rA => constructor); (case rB => constructor); (case rC => ktr_rel); intro _ _ _ F' N'))
local macro_rules | `(tactic| walk_at "getMethod bytes") => `(tactic| first | (with_reducible refine m_lstrip ?_) | (with_reducible refine m_rstrip ?_))
local macro_rules | `(tactic| walk_at "call builtin:bytes.lstrip") => `(tactic| ((with_reducible show wpAny _ _ (call (Value.builtin "bytes.lstrip") [Value.bytes _ _, Value.bytes _ _]) _ _ _); (refine' r_lstrip ?rA ?_); (case rA => ktr_rel); intro _ _))
local macro_rules | `(tactic| walk_at "call builtin:bytes.rstrip") => `(tactic| ((with_reducible show wpAny _ _ (call (Value.builtin "bytes.rstrip") [Value.bytes _ _]) _ _ _); (refine' r_rstrip ?rA ?_); (case rA => assumption); intro _ _))
local macro_rules | `(tactic| walk_at "callWith ref") => `(tactic| (k_here; (with_reducible show wpAny _ _ (callWith _ (Value.ref _) _ (backTo _ (starEach (_ :: _) _)) (backToKw _ (keywordEach (_ :: _) _))) _ _ _); kfb_any; k_dflt (refine' fb_with ?fbN ?fbM ?fbA ?_; (case fbN => k_asm); (case fbM => k_mem); (case fbA => exact rfl); k_whole)))
local macro_rules | `(tactic| walk_at "call ref") => `(tactic| (k_here; kfb_any; k_dflt ((show wpAny _ _ (call (Value.ref _) [Value.bytes _ _] [(PySem.Str.ofString "byteorder", Value.str (PySem.Str.ofString "big") _)]) _ _ _); refine' fb_call ?fbN ?fbM ?fbS ?_; (case fbN => k_asm); (case fbM => k_mem); (case fbS => ktr_rel)); intro _ _))

local macro_rules | `(tactic| ktr_rel) => `(tactic| with_reducible exact sm_hash _)
local macro_rules | `(tactic| ktr_rel) => `(tactic| ((with_reducible refine sm_dec ?_); assumption))
local macro_rules | `(tactic| walk_at "ite") => `(tactic| ((with_reducible show if ((_ : List UInt8) != _) = true then _ else _); (refine' ite_ne_of ?inA ?_; (case inA => assumption))))
local macro_rules | `(tactic| walk_at "noteFrame ref") => `(tactic| ((with_reducible show wpAny _ _ (noteFrame _ _) (fun _ s₂ => wpAny _ _ (setFlight _ none) (fun _ s₃ => wpAny _ _ (handleBy _ _ (ExceptHandler.ExceptHandler (some (Expr.Name ("ValueError" : PySem.Str) _)) none _ _ :: _)) _ _ s₃) _ s₂) _ _); k_dflt (refine' caught_any (T' := "ValueError") ?caB ?caR ?caX ?caT ?caE PyProof.Rows.Boot.«ValueError» ?caN PySem.F.isExc_ValueError PySem.F.notTuple_ValueError ?caS ?_; (case caR => first | assumption | (refine' raisedN_of ?caK; (case caK => assumption))); (case caB => assumption); (case caX => assumption); (case caT => k_asm); (case caE => k_is); (case caN => decide); (case caS => kts_sub); k_whole); intro h' st'))
local macro_rules | `(tactic| walk_at "call ref") => `(tactic| (k_here; (with_reducible show wpAny _ _ (call (Value.ref 110) _ _) _ _ _); k_dflt (refine' Gives.use (c_hash _ _) ?uB ?uF ?uX ?uN ?uT ?uk ?ud ?uu ?_; (case uB => k_asm); (case uF => k_asm); (case uX => k_asm); (case uN => k_asm); (case uT => k_asm); (case uk => first | exact rfl | assumption); (case ud => ktr_room); (case uu => ktr_units)); intro _ _ _ F' N'; (try k_sweep)))
local macro_rules | `(tactic| walk_at "call ref") => `(tactic| (k_here; (with_reducible show wpAny _ _ (call (Value.ref 60) _ _) _ _ _); k_dflt (refine' Gives.use (c_deck _ _ _ _ (by assumption) (by assumption) (by assumption) (by assumption) (by assumption) (by assumption) (by assumption)) ?uB ?uF ?uX ?uN ?uT ?uk ?ud ?uu ?_; (case uB => k_asm); (case uF => k_asm); (case uX => k_asm); (case uN => k_asm); (case uT => k_asm); (case uk => first | exact rfl | assumption); (case ud => ktr_room); (case uu => ktr_units)); intro _ _ _ F' N'; (try k_sweep)))

local macro_rules | `(tactic| k_room) => `(tactic| ktr_room)
local macro_rules | `(tactic| k_enter) => `(tactic| (k_inElt; (refine' code_defG ?k1 ?k2 ?k3 ?k4 ?k5 ?kA ?kF ?kK ?k6 ?k7 ?k8 ?k9 ?kB ?_ ?c2 ?c3 ?c4 ?c5; (case kA => exact rfl); (case kF => exact rfl); (case kK => exact rfl); (case k1 => k_asm); (case k2 => k_asm); (case k3 => k_asm); (case k4 => k_asm); (case k5 => k_asm); (case k6 => k_is); (case k7 => k_is); (case k8 => k_room); (case k9 => exact binds_KK (by k_in) rfl (by k_is) rfl rfl rfl (by k_is) rfl rfl); (case c5 => decide); (case kB => exact locs rfl); (case c2 => exact rfl); (case c3 => exact rfl); (case c4 => exact rfl); k_whole; intro g' L' h' FG' F' N' B' X' T' kG'; (try dsimp only); (try k_lift B'); (try k_fold))))
set_option maxHeartbeats 8000000 in
set_option pp.deepTerms false in
set_option pp.deepTerms.threshold 12 in
set_option pp.maxSteps 3000 in
theorem c_refused {w : World} {p : Program} {loose : List PySem.Str} {mean : ExcName → Option Value} {mg mb : PySem.Str → Option Value} (v al : Array UInt8) (tv ta : Tok) (hal : al.size = 58) (hnd : al.toList.Nodup) (hs32 : (32 : UInt8) ∉ al.toList) (hv : ∀ c ∈ v.toList, c ∈ al.toList) (hsp : NoSp v) (hsm : Sm v) (hN : v.size ≤ 2000)
    (hbad : KBy.picked (decSpec al v) (some (-4)) none ≠ KBy.picked (hashSpec (hashSpec (KBy.picked (decSpec al v) none (some (-4))))) none (some 4)) :
   GivesW 5 w p loose mean mg mb 117 [.bytes v tv, .bytes al ta] (.bool true) := by
  k_with_none
  w_top off
  unfold GivesW
  k_fill
  intro dp un gd cn cs a ccd cl outer A₀ base h₀ L m s Q E B F X T XB TB hk hdp hun hret
  refine wpAny_call ?_
  refine' codeW ?k1 ?k2 ?k3 ?k5 ?kA ?kF ?kK ?k6 ?k7 ?k8 ?k9 ?kB ?_ ?c2 ?c3 ?c4 ?c5; (case kA => exact rfl); (case kF => exact rfl); (case kK => assumption); (case k1 => k_asm); (case k2 => k_asm); (case k3 => exact X); (case k5 => exact T); (case k6 => k_is); (case k7 => k_is); (case k8 => ktr_room); (case k9 => exact BindsTo.of_eq rfl); (case c5 => decide); (case kB => exact locs rfl); (case c2 => exact rfl); (case c3 => exact rfl); (case c4 => exact rfl); k_whole; intro g' L' h' FG' F' N' B' X' T'; (try dsimp only); (try k_fold)
  k_steps
  all_goals exact hret _ _ (by assumption)
end Mine
end

section
open PySem PySem.W PySem.Calls PySem.Builtin PyProof.Rows
set_option Elab.async false
set_option maxRecDepth 100000
namespace Mine
theorem ite_ne_self {l : List UInt8} {p q : Prop} (h : q) : if (l != l) = true then p else q := by rw [if_neg (by rw [bne_self_eq_false]; exact Bool.false_ne_true)]; exact h
theorem goodW_kept {c : ClaimW} {cl : PySem.Str → Option Addr} {mean : ExcName → Option Value} {args : List WData} {s₁ s' : Shared} {b : Bool} (k : s₁.heap.StaysIn s'.heap) (hg : s'.gens = #[]) (hn : ∀ cls, c.raises args cls = false) (hp : c.post args (.bool b) args = true) (hos : s'.os = s₁.os := by rfl) :
    GoodW c cl mean args s₁ (.ok (.ret (.bool b))) s' := ⟨.inl ⟨_, .bool b, [], rfl, hn, .bool b, hp, unshared_nil⟩, k, hos, hg⟩
section
variable {prog : Program} {w : World} {A : Around} {E : Value → Shared → Prop} {s : Shared}
theorem r_isb {b : Array UInt8} {t : Tok} {Q : Value → Shared → Prop} (h : ∀ tk, Q (.bool true) { s with toks := tk }) : wpAny (model prog w) A (call (.builtin "isinstance") [.bytes b t, .type "bytes"]) Q E s :=
  kia_one (K := []) kitx_bytes (fun _ _ h => nomatch h) trivial (by decide +kernel) (fun h => nomatch h) h
theorem r_bidxG {b : Array UInt8} {i : Int} {t ui : Tok} {value slice : PySem.Expr} {Q : Value → Shared → Prop} (hfit : Sm b) (h0 : 0 ≤ i) (h1 : i < (b.size : Int))
    (h : ∀ (x : UInt8) t' k', x = b.toList.getD i.toNat 0 → Q (.int ((x.toNat : Nat) : Int) t') { s with toks := k' })
    (hs : subscripted slice false (.bytes b t) (.int i ui) = operate [.bytes b t, .int i ui] (getItem (.bytes b t) (.int i ui)) := by with_unfolding_all rfl)
    (ht : ∀ r, letTemporaryGo value (.bytes b t) r = pure () := by intro _; with_unfolding_all rfl) : wpAny (model prog w) A (subscriptTail value slice (.bytes b t) (.int i ui)) Q E s :=
  r_bidx hfit h0 h1 (fun t' k' => h _ t' k' rfl) hs ht
end
theorem sm_cut {al v r : Array UInt8} {lo hi : Option Int} (h : (al, v, r) ∈ papersT) : Sm (KBy.picked r lo hi) := sm_picked (sm_paper h)
theorem turned_call {w : World} {p : Program} {loose : List PySem.Str} {mean : ExcName → Option Value} {mg mb : PySem.Str → Option Value} {al v r T : Array UInt8} {t ta : Tok} {n k d j : Int} {y : UInt8} (h : (al, v, r) ∈ papersT)
    (hT : T = KBy.picked r none (some (Int.fmod n (r.size : Int))) ++ #[y] ++ KBy.picked r (some (Int.fmod n (r.size : Int) + 1)) none) (hy : y = al.toList.getD j.toNat 0) (hj : j = Int.fmod (d + 1 + Int.fmod k 57) 58) (hd : d = (dig al (r.toList.getD (Int.fmod n (r.size : Int)).toNat 0) : Int)) :
    GivesW 5 w p loose mean mg mb 117 [.bytes T t, .bytes al ta] (.bool true) := by
  subst hd hj hy
  obtain ⟨ho, hb⟩ := turned_bad h n k (T := T) hT
  exact c_refused T al t ta ho.hal ho.hnd ho.hs32 ho.hv ho.hsp ho.sm (by have := ho.hsz; omega) hb
theorem GivesW.use {lv : Nat} {w : World} {p : Program} {loose : List PySem.Str} {mean : ExcName → Option Value} {mg mb : PySem.Str → Option Value} {f : Addr} {pos : List Value} {v : Value}
    {dp un : Nat} {gd : Option (List Code)} {cn : PySem.Str} {cs : Scope} {a : Addr} {ccd : Value} {cl : List (PySem.Str × Addr)} {outer : List Env} {A₀ : Around} {base h₀ : Heap} {L : Addr} {m : PySem.Str → Option Value} {s : Shared} {Q E : Value → Shared → Prop}
    (C : GivesW lv w p loose mean mg mb f pos v) (B : Below A₀ base outer h₀) (F : Fr h₀ L s.heap m) (X : (hd.heap_39 w.params).In h₀) (T : Top p loose mean mg mb h₀) (XB : (hd.heap_39 w.params).In base) (TB : Top p loose mean mg mb base) (hk : cs.kind = .function) (hd : dp + lv + 4 < recursionLimit) (hu : un + 8 * lv + 40 < cLine)
    (ret : ∀ h' tk', base.StaysIn h' → Q v { s with heap := h', toks := tk' }) :
    wpAny (model PySem.Challenge.rw_eg5006_01.row.prog w) (ktrTop dp un gd cn cs L a ccd cl outer) (call (.ref f) pos []) Q E s :=
  C dp un gd cn cs a ccd cl outer A₀ base h₀ L m s Q E B F X T XB TB hk hd hu ret

local macro_rules | `(tactic| ktr_rel) => `(tactic| ((with_reducible refine sm_picked ?_); ktr_rel))
local macro_rules | `(tactic| ktr_rel) => `(tactic| ((with_reducible refine sm_lst ?_); ktr_rel))
local macro_rules | `(tactic| ktr_rel) => `(tactic| ((with_reducible refine EncInv.sm ?smE); (case smE => assumption)))
local macro_rules | `(tactic| ktr_rel) => `(tactic| (refine' sm_of (n := 58) ?smA ?smB; (case smA => assumption); (case smB => decide)))
local macro_rules | `(tactic| ktr_rel) => `(tactic| with_reducible assumption)
local macro_rules | `(tactic| walk_at "call builtin:len") => `(tactic| ((with_reducible show wpAny _ _ (call (Value.builtin "len") [Value.bytes _ _]) _ _ _); (refine' r_len ?rA ?_); (case rA => ktr_rel); intro _ _))
local macro_rules | `(tactic| walk_at "binaryOp Add bytes bytes") => `(tactic| ((with_reducible show wpAny _ _ (binaryOp Operator.Add (Value.bytes _ _) (Value.bytes _ _)) _ _ _); (refine' r_add ?rA ?rB ?_); (case rA => ktr_rel); (case rB => ktr_rel); intro _ _; (try dsimp only)))
local macro_rules | `(tactic| walk_at "binaryOp Mult bytes int") => `(tactic| ((with_reducible show wpAny _ _ (binaryOp Operator.Mult (Value.bytes _ _) (Value.int _ _)) _ _ _); (refine' r_mul ?mA ?mB ?mC ?_); (case mA => first | (refine picked01 ?_; assumption) | rfl); (case mB => exact lead_lo); (case mC => (refine lead_hi ?_; ktr_rel)); intro _ _))
local macro_rules | `(tactic| walk_at "subscriptTail") => `(tactic| ((with_reducible show wpAny _ _ (subscriptTail _ (Expr.Slice _ _ none _) (Value.bytes _ _) (Value.ref _)) _ _ _); (with_reducible rename Fr _ _ _ _ => F'); (with_reducible rename News _ _ _ _ => N'); (refine' r_slice (s := ⟨_, _, _, _, _⟩) F' N' ?rA ?rB ?rC ?_); (case rA => constructor); (case rB => constructor); (case rC => ktr_rel); intro _ _ _ F' N'; (try dsimp only)))
local macro_rules | `(tactic| walk_at "getMethod bytes") => `(tactic| first | (with_reducible refine m_lstrip ?_) | (with_reducible refine m_rstrip ?_))
local macro_rules | `(tactic| walk_at "call builtin:bytes.lstrip") => `(tactic| ((with_reducible show wpAny _ _ (call (Value.builtin "bytes.lstrip") [Value.bytes _ _, Value.bytes _ _]) _ _ _); (refine' r_lstrip ?rA ?_); (case rA => ktr_rel); intro _ _))
local macro_rules | `(tactic| walk_at "call builtin:bytes.rstrip") => `(tactic| ((with_reducible show wpAny _ _ (call (Value.builtin "bytes.rstrip") [Value.bytes _ _]) _ _ _); (refine' r_rstrip ?rA ?_); (case rA => assumption); intro _ _))
local macro_rules | `(tactic| walk_at "callWith ref") => `(tactic| (k_here; (with_reducible show wpAny _ _ (callWith _ (Value.ref _) _ (backTo _ (starEach (_ :: _) _)) (backToKw _ (keywordEach (_ :: _) _))) _ _ _); kfb_any; k_dflt (refine' fb_with ?fbN ?fbM ?fbA ?_; (case fbN => k_asm); (case fbM => k_mem); (case fbA => exact rfl); k_whole)))
local macro_rules | `(tactic| walk_at "call ref") => `(tactic| (k_here; kfb_any; k_dflt ((show wpAny _ _ (call (Value.ref _) [Value.bytes _ _] [(PySem.Str.ofString "byteorder", Value.str (PySem.Str.ofString "big") _)]) _ _ _); refine' fb_call ?fbN ?fbM ?fbS ?_; (case fbN => k_asm); (case fbM => k_mem); (case fbS => ktr_rel)); intro _ _))

local macro_rules | `(tactic| walk_at "exec For Name Name cons nil") => `(tactic| (k_here; (rename Fr _ _ _ _ => lF'); (with_unfolding_all refine' For_turnsG lF' ?g ?_; (case g => exact rfl); k_whole)))
local macro_rules | `(tactic| walk_at "ite") => `(tactic| ((with_reducible show if ((_ : List UInt8) != _) = true then _ else _); with_reducible refine ite_ne_self ?_))
local macro_rules | `(tactic| walk_at "assign Tuple") => `(tactic| (k_here; (with_reducible show wpAny _ _ (assign (Expr.Tuple _ _ _) _ (Value.ref _)) _ _ _); k_dflt (refine' unpackK ?upF ?upN ?upX ?upk ?upc ?upd ?upk1 ?upk2 ?upk3 ?_; (case upk => assumption); (case upF => k_asm); (case upN => k_asm); (case upX => k_asm); (case upc => exact rfl); (case upd => exact rfl); (case upk1 => exact rfl); (case upk2 => exact rfl); (case upk3 => exact rfl)); intro h' F' N'; (try k_sweep)))
local macro_rules | `(tactic| walk_at "subscriptTail") => `(tactic| (k_here; (with_reducible show wpAny _ _ (subscriptTail _ _ (Value.ref _) (Value.int 4 _)) _ _ _); k_dflt (refine' item5_4 ?ikF ?ikX ?ikk ?_; (case ikk => assumption); (case ikF => k_asm); (case ikX => k_asm))))
local macro_rules | `(tactic| walk_at "subscriptTail") => `(tactic| (k_here; (with_reducible show wpAny _ _ (subscriptTail _ _ (Value.ref _) (Value.int 3 _)) _ _ _); k_dflt (refine' item5_3 ?ikF ?ikX ?ikk ?_; (case ikk => assumption); (case ikF => k_asm); (case ikX => k_asm))))
local macro_rules | `(tactic| walk_at "subscriptTail") => `(tactic| (k_here; (with_reducible show wpAny _ _ (subscriptTail _ _ (Value.ref _) (Value.int 1 _)) _ _ _); k_dflt (refine' item5_1 ?ikF ?ikX ?ikk ?_; (case ikk => assumption); (case ikF => k_asm); (case ikX => k_asm))))
local macro_rules | `(tactic| walk_at "subscriptTail") => `(tactic| (k_here; (with_reducible show wpAny _ _ (subscriptTail _ _ (Value.ref _) (Value.int 0 _)) _ _ _); k_dflt (refine' item5_0 ?ikF ?ikX ?ikk ?_; (case ikk => assumption); (case ikF => k_asm); (case ikX => k_asm))))
local macro_rules | `(tactic| walk_at "subscriptTail") => `(tactic| (k_here; (with_reducible show wpAny _ _ (subscriptTail _ _ (Value.ref 96) (Value.int _ _)) _ _ _); k_dflt (refine' item_S (S := PapAt) ?isF ?isX ?isk ?is0 ?is1 ?isz ?isS ?_; (case isF => k_asm); (case isX => k_asm); (case isk => k_is); (case is0 => first | omega | exact Int.fmod_nonneg_of_pos _ (by decide)); (case is1 => first | omega | exact Int.fmod_lt_of_pos _ (by decide)); (case isz => decide); (case isS => exact papers_at _)); intro x' hx'; unfold PapAt at hx'; obtain ⟨a', v', b', c', r', t1', t2', t3', t4', t5', al', f', e1', hk', hm', hf'⟩ := hx'; subst e1'; (rcases hf' with ⟨e2', e3'⟩ | ⟨e2', e3'⟩ <;> (subst e2'; subst e3'))))
local macro_rules | `(tactic| walk_at "subscriptTail") => `(tactic| (k_here; (with_reducible show wpAny _ _ (subscriptTail _ _ (Value.bytes _ _) (Value.int _ _)) _ _ _); (refine' r_bidx ?biS ?bi0 ?bi1 ?_; (case biS => first | (with_reducible exact sm_B) | (with_reducible exact sm_R) | ktr_rel); (case bi0 => first | (with_reducible exact fm58_lo _) | ((with_reducible refine' at_lo ?bim _); (case bim => assumption)) | omega); (case bi1 => first | ((with_reducible refine' at_hi ?bim2 _); (case bim2 => assumption)) | ((with_reducible refine sz_B ?bix); (case bix => first | (with_reducible exact fm58_hi _) | omega)) | ((with_reducible refine sz_R ?bix); (case bix => first | (with_reducible exact fm58_hi _) | omega)))); intro _ _))
local macro_rules | `(tactic| walk_at "call builtin:isinstance") => `(tactic| ((with_reducible show wpAny _ _ (call (Value.builtin "isinstance") [Value.bytes _ _, Value.type "bytes"]) _ _ _); (refine' r_isb ?_); intro _; (try dsimp only)))
local macro_rules | `(tactic| walk_at "subscriptTail") => `(tactic| (k_here; (with_reducible show wpAny _ _ (subscriptTail _ _ (Value.bytes _ _) (Value.int (Int.fmod _ 58) _)) _ _ _); (refine' r_bidxG ?bgS ?bg0 ?bg1 ?_; (case bgS => first | (with_reducible exact sm_B) | (with_reducible exact sm_R)); (case bg0 => with_reducible exact fm58_lo _); (case bg1 => first | ((with_reducible refine sz_B ?bgx); (case bgx => with_reducible exact fm58_hi _)) | ((with_reducible refine sz_R ?bgx2); (case bgx2 => with_reducible exact fm58_hi _)))); intro x' t' k' hx'; (try dsimp only)))
local macro_rules | `(tactic| walk_at "binaryOp Add bytes bytes") => `(tactic| ((with_reducible show wpAny _ _ (binaryOp Operator.Add (Value.bytes (KBy.picked _ _ _) _) (Value.bytes _ _)) _ _ _); (refine' r_add (sm_cut ?acM) sm_one ?_; (case acM => assumption)); intro _ _; (try dsimp only)))
local macro_rules | `(tactic| walk_at "binaryOp Add bytes bytes") => `(tactic| ((with_reducible show wpAny _ _ (binaryOp Operator.Add (Value.bytes _ _) (Value.bytes (KBy.picked _ _ _) _)) _ _ _); (refine' r_add (sm_text ?acM1) (sm_cut ?acM2) ?_; (case acM1 => assumption); (case acM2 => assumption)); intro _ _; (try dsimp only)))
local macro_rules | `(tactic| walk_at "KPfDone") => `(tactic| (refine' kpf_one ?kfo ?_; (case kfo => first | (with_unfolding_all refine' ranks_B ?rkB; (case rkB => (refine' sign_in ?sgB _; (case sgB => assumption)))) | (with_unfolding_all refine' ranks_R ?rkR; (case rkR => (refine' sign_in ?sgR _; (case sgR => assumption))))); intro t'))
local macro_rules | `(tactic| walk_at "call type:bytes") => `(tactic| (k_here; (with_reducible show wpAny _ _ (call (Value.type _) [Value.ref _]) _ _ _); k_dflt (refine' r_bytes1 ?b1F ?b1N ?b1l ?b1h ?_; (case b1F => k_asm); (case b1N => k_asm); (case b1l => is_list); (case b1h => with_unfolding_all rfl); k_whole); intro h' t' k' F' N'; (try k_sweep); (try dsimp only)))
local macro_rules | `(tactic| ktr_rel) => `(tactic| with_reducible exact sm_one)
local macro_rules | `(tactic| ktr_rel) => `(tactic| ((with_reducible refine' sm_text (al := ?smtA) (v := ?smtV) ?smtM); (case smtM => assumption)))
local macro_rules | `(tactic| walk_at "leaving ref") => `(tactic| (refine' (pos_absurd ?pz ?pm).elim; (case pz => assumption); (case pm => assumption)))
local macro_rules | `(tactic| wrow_close) => `(tactic| (w_end; (show GoodW _ _ _ _ _ (.ok (.ret (.bool _))) _); refine goodW_kept (by assumption) (by assumption) (raisesW_false ?_) ?_; (· wrow_none_raised); (· wrow_post); walk_say "CLOSE kept"))
local macro_rules | `(tactic| walk_at "TurnEnd") => `(tactic| (refine' TurnEnd.intro ?tem ?te1 ?te2 ?te3 ?tes; (case tem => exact fun _ h => h); (case te1 => assumption); (case te2 => assumption); (case te3 => assumption); (case tes => (intro z h3; (have h4 := h3); (simp only [List.contains_cons, List.contains_nil, Bool.or_false, Bool.or_eq_false_iff, beq_eq_false_iff_ne, ne_eq] at h3); obtain ⟨p1, p2, p3⟩ := h3; simp only [p1, p2, p3, h4, if_false, Bool.false_eq_true]))))
local macro_rules | `(tactic| walk_at "eval Call") => `(tactic| ((with_reducible show wpAny _ _ (eval (Expr.Call (Expr.Name _ _) [Expr.Name _ _, Expr.Constant _ _ _] [] _) _) _ _ _); (with_unfolding_all refine Call_ ?_)))
local macro_rules | `(tactic| ktr_rel) => `(tactic| ((with_reducible refine sm_paper (al := ?smpA) (v := ?smpV) ?smpM); (case smpM => assumption)))
local macro_rules | `(tactic| walk_at "call ref") => `(tactic| (k_here; (with_reducible show wpAny _ _ (call (Value.ref 117) [Value.bytes _ _, Value.bytes _ _] _) _ _ _); k_dflt (refine' GivesW.use (turned_call ?wtH ?wtT ?wtY ?wtJ ?wtD) ?uB ?uF ?uX ?uT ?uXB ?uTB ?uk ?ud ?uu ?_; (case wtH => assumption); (case wtT => with_reducible rfl); (case wtY => assumption); (case wtJ => with_reducible rfl); (case wtD => with_unfolding_all rfl); (case uB => k_asm); (case uF => k_asm); (case uX => k_asm); (case uT => k_asm); (case uXB => assumption); (case uTB => assumption); (case uk => first | exact rfl | assumption); (case ud => first | ktr_room | decide +kernel); (case uu => first | ktr_units | decide +kernel)); intro h' tk' st'))
local macro_rules | `(tactic| walk_at "pyIter ref") => `(tactic| (k_here; (with_reducible show wpAny _ _ (pyIter (Value.ref 90)) (fun it s₂ => TurnsAt _ _ _ _ _ _ _ _ _ it s₂) _ _); (with_unfolding_all refine' iter_tupK ?ith ?itF ?itN ?itX ?itk ?itc ?itd ?itz ?_; (case ith => with_unfolding_all rfl); (case itF => k_asm); (case itN => k_asm); (case itX => k_asm); (case itk => k_is); (case itc => exact rfl); (case itd => exact rfl); (case itz => decide); k_whole); intro i' l1; (try k_lt l1); (with_unfolding_all refine' items_inv [Str.ofString "octets", Str.ofString "told", Str.ofString "back"] RowAt ?itd1 ?itd2 ?itd3 (rows_at _) ?turn90 ?done90); (case itd1 => assumption); (case itd2 => assumption); (case itd3 => assumption); (case' turn90 => (intro v' u' o1' o2' o3' c1' c2' c3' h' tk' hS' d1' d2' d3' F'; (with_unfolding_all refine AllObj.cons (fun o' hc' => ?_)); (try dsimp only at hc'); (with_unfolding_all refine AllObj.nil (fun N' => ?_)); (try simp only [List.cons_append, List.nil_append] at N'); unfold RowAt at hS'; obtain ⟨a', v', r', t1', t2', e1', hk', hm'⟩ := hS'; subst e1')); (case' done90 => (intro u' o1' o2' o3' c1' c2' c3' h' tk' d1' d2' d3' F' N'))))
local macro_rules | `(tactic| walk_at "pyIter ref") => `(tactic| (k_here; (with_reducible show wpAny _ _ (pyIter (Value.ref 96)) (fun it s₂ => TurnsAt _ _ _ _ _ _ _ _ _ it s₂) _ _); (with_unfolding_all refine' iter_tupK ?ith ?itF ?itN ?itX ?itk ?itc ?itd ?itz ?_; (case ith => with_unfolding_all rfl); (case itF => k_asm); (case itN => k_asm); (case itX => k_asm); (case itk => k_is); (case itc => exact rfl); (case itd => exact rfl); (case itz => decide); k_whole); intro i' l1; (try k_lt l1); (with_unfolding_all refine' items_inv [Str.ofString "paper", Str.ofString "told", Str.ofString "back"] PapAt ?itd1 ?itd2 ?itd3 (papers_at _) ?turn96 ?done96); (case itd1 => assumption); (case itd2 => assumption); (case itd3 => assumption); (case' turn96 => (intro v' u' o1' o2' o3' c1' c2' c3' h' tk' hS' d1' d2' d3' F'; (with_unfolding_all refine AllObj.cons (fun o' hc' => ?_)); (try dsimp only at hc'); (with_unfolding_all refine AllObj.nil (fun N' => ?_)); (try simp only [List.cons_append, List.nil_append] at N'); unfold PapAt at hS'; obtain ⟨a', v', b', c', r', t1', t2', t3', t4', t5', al', f', e1', hk', hm', hf'⟩ := hS'; subst e1'; (rcases hf' with ⟨e2', e3'⟩ | ⟨e2', e3'⟩ <;> (subst e2'; subst e3')))); (case' done96 => (intro u' o1' o2' o3' c1' c2' c3' h' tk' d1' d2' d3' F' N'))))
local macro_rules | `(tactic| walk_at "call ref") => `(tactic| (k_here; (with_reducible show wpAny _ _ (call (Value.ref 103) _ _) _ _ _); k_dflt (refine' GivesI.use (c_draw _ _ _ _ _ ?wI ?wz ?w0 ?w2) ?uB ?uF ?uX ?uN ?uT ?uk ?ud ?uu ?uP ?_; (case uB => k_asm); (case uF => k_asm); (case uX => k_asm); (case uN => k_asm); (case uT => k_asm); (case wI => assumption); (case wz => assumption); (case w0 => decide); (case w2 => decide); (case uk => first | exact rfl | assumption); (case ud => first | ktr_room | decide +kernel); (case uu => first | ktr_units | decide +kernel); (case uP => assumption)); intro _ _ _ _ F' N'; (try k_sweep); (try dsimp only)))
local macro_rules | `(tactic| walk_at "call ref") => `(tactic| (k_here; (with_reducible show wpAny _ _ (call (Value.ref 37) _ _) _ _ _); k_dflt (refine' Gives.use (l_enc ?uM) ?uB ?uF ?uX ?uN ?uT ?uk ?ud ?uu ?_; (case uM => assumption); (case uB => k_asm); (case uF => k_asm); (case uX => k_asm); (case uN => k_asm); (case uT => k_asm); (case uk => first | exact rfl | assumption); (case ud => first | ktr_room | decide +kernel); (case uu => first | ktr_units | decide +kernel)); intro _ _ _ F' N'; (try k_sweep)))
local macro_rules | `(tactic| walk_at "call ref") => `(tactic| (k_here; (with_reducible show wpAny _ _ (call (Value.ref 60) _ _) _ _ _); k_dflt (refine' Gives.use (l_dec ?uM) ?uB ?uF ?uX ?uN ?uT ?uk ?ud ?uu ?_; (case uM => assumption); (case uB => k_asm); (case uF => k_asm); (case uX => k_asm); (case uN => k_asm); (case uT => k_asm); (case uk => first | exact rfl | assumption); (case ud => first | ktr_room | decide +kernel); (case uu => first | ktr_units | decide +kernel)); intro _ _ _ F' N'; (try k_sweep)))
local macro_rules | `(tactic| walk_at "call ref") => `(tactic| (k_here; (with_reducible show wpAny _ _ (call (Value.ref 68) _ _) _ _ _); k_dflt (refine' Gives.use (l_encc ?uM) ?uB ?uF ?uX ?uN ?uT ?uk ?ud ?uu ?_; (case uM => assumption); (case uB => k_asm); (case uF => k_asm); (case uX => k_asm); (case uN => k_asm); (case uT => k_asm); (case uk => first | exact rfl | assumption); (case ud => first | ktr_room | decide +kernel); (case uu => first | ktr_units | decide +kernel)); intro _ _ _ F' N'; (try k_sweep)))
local macro_rules | `(tactic| walk_at "call ref") => `(tactic| (k_here; (with_reducible show wpAny _ _ (call (Value.ref 77) _ _) _ _ _); k_dflt (refine' Gives.use (l_decc ?uM) ?uB ?uF ?uX ?uN ?uT ?uk ?ud ?uu ?_; (case uM => assumption); (case uB => k_asm); (case uF => k_asm); (case uX => k_asm); (case uN => k_asm); (case uT => k_asm); (case uk => first | exact rfl | assumption); (case ud => first | ktr_room | decide +kernel); (case uu => first | ktr_units | decide +kernel)); intro _ _ _ F' N'; (try k_sweep)))
local macro_rules | `(tactic| walk_at "call ref") => `(tactic| (k_here; (with_reducible show wpAny _ _ (call (Value.ref 77) _ _) _ _ _); k_dflt (refine' Gives.use (l_decc0 ?uM) ?uB ?uF ?uX ?uN ?uT ?uk ?ud ?uu ?_; (case uM => assumption); (case uB => k_asm); (case uF => k_asm); (case uX => k_asm); (case uN => k_asm); (case uT => k_asm); (case uk => first | exact rfl | assumption); (case ud => first | ktr_room | decide +kernel); (case uu => first | ktr_units | decide +kernel)); intro _ _ _ F' N'; (try k_sweep)))
set_option maxHeartbeats 8000000 in
set_option pp.deepTerms false in
set_option pp.deepTerms.threshold 12 in
set_option pp.maxSteps 3000 in
theorem t : PySem.Challenge.rw_eg5006_01.Holds := hd (by k_with_none; w_top off; w_strict (k_go0; (all_goals try k_fold); k_steps; (all_goals (refine goodW_kept ?kg1 ?kg2 (raisesW_false ?kg3) ?kg4; (case kg1 => assumption); (case kg2 => assumption); (case kg3 => wrow_none_raised); (case kg4 => wrow_post)))))
end Mine
end

theorem PySem.Challenge.cw_eg5006_01_holds : PySem.Challenge.rw_eg5006_01.Holds :=
  Mine.t
