import PyProof.Rows.All
import Wide.All
import OpenK.AllK
import Wide.FinOn
import PySem.Challenge.RW_fc5006_01
open PySem PySem.W PySem.Calls PyProof.Rows
set_option Elab.async false
set_option maxRecDepth 100000
set_option maxHeartbeats 8000000
namespace Mine
open_top hd for PySem.Challenge.rw_fc5006_01
section

/-- what a def tells: called with vs, from any frame with room n, it ends, hands back a value of which Post holds, and keeps what stood -/
def Tells (n : Nat) (f : Addr) (vs : List Value) (Post : Value → Prop) : Prop :=
  ∀ (w : World) (mean : ExcName → Option Value) (mg mb : Str → Option Value) (news : List (Addr × Obj)) (dp un : Nat) (gd : Option (List Code)) (cn : Str) (cs : Scope) (a : Addr) (ccd : Value) (cl : List (Str × Addr)) (outer : List Env)
    (A₀ : Around) (base h₀ : Heap) (L : Addr) (m : Str → Option Value) (s : Shared) (Q E : Value → Shared → Prop),
    Below A₀ base outer h₀ → Fr h₀ L s.heap m → (hd.heap_39 w.params).In h₀ → News h₀ L s.heap news →
    Top hd.view_39 (looseW hd.view_39 [Str.ofString "BTClibValueError", Str.ofString "BTClibTypeError", Str.ofString "bytes_from_octets", Str.ofString "next_bits", Str.ofString "ConsensusParams"]) mean mg mb h₀ →
    cs.kind = .function → dp + n < 900 → un + 100 * n < 9000 →
    (∀ (v : Value) (h' : Heap) (tk' : Nat), Post v → Fr h₀ L h' m → News h₀ L h' news → Q v { s with heap := h', toks := tk' }) →
    wpAny (model PySem.Challenge.rw_fc5006_01.row.prog w) (ktrTop dp un gd cn cs L a ccd cl outer) (call (.ref f) vs) Q E s

theorem Tells.use {n : Nat} {f : Addr} {vs : List Value} {Post : Value → Prop} (C : Tells n f vs Post) {w : World} {mean : ExcName → Option Value} {mg mb : Str → Option Value} {news : List (Addr × Obj)} {dp un : Nat} {gd : Option (List Code)} {cn : Str} {cs : Scope} {a : Addr} {ccd : Value} {cl : List (Str × Addr)} {outer : List Env}
    {A₀ : Around} {base h₀ : Heap} {L : Addr} {m : Str → Option Value} {s : Shared} {Q E : Value → Shared → Prop}
    (B : Below A₀ base outer h₀) (F : Fr h₀ L s.heap m) (X : (hd.heap_39 w.params).In h₀) (N : News h₀ L s.heap news)
    (T : Top hd.view_39 (looseW hd.view_39 [Str.ofString "BTClibValueError", Str.ofString "BTClibTypeError", Str.ofString "bytes_from_octets", Str.ofString "next_bits", Str.ofString "ConsensusParams"]) mean mg mb h₀)
    (hk : cs.kind = .function) (hd : dp + n < 900) (hu : un + 100 * n < 9000)
    (k : ∀ (v : Value) (h' : Heap) (tk' : Nat), Post v → Fr h₀ L h' m → News h₀ L h' news → Q v { s with heap := h', toks := tk' }) :
    wpAny (model PySem.Challenge.rw_fc5006_01.row.prog w) (ktrTop dp un gd cn cs L a ccd cl outer) (call (.ref f) vs) Q E s :=
  C _ _ _ _ _ _ _ _ _ _ _ _ _ _ _ _ _ _ _ _ _ _ B F X N T hk hd hu k

theorem ret_of {h₀ h' : Heap} {L : Addr} {m : Str → Option Value} {news news' : List (Addr × Obj)} {s : Shared} {Q : Value → Shared → Prop} {Post : Value → Prop} {v : Value} {tk' : Nat}
    (hret : ∀ (v : Value) (h' : Heap) (tk' : Nat), Post v → Fr h₀ L h' m → News h₀ L h' news → Q v { s with heap := h', toks := tk' }) (P : Post v) (F : Fr h₀ L h' m) (N : News h₀ L h' news') (hs : ∀ p ∈ news, p ∈ news') :
    Q v { s with heap := h', toks := tk' } := hret v h' tk' P F fun p hp => N p (hs p hp)

/-! int.from_bytes -/
theorem slice1 {prog : Program} {w : World} {A : Around} {E : Value → Shared → Prop} {s : Shared} {value slice : PySem.Expr} {b : Array UInt8} {t : Tok} {h₀ : Heap} {L : Addr} {m : PySem.Str → Option Value} {news : List (Addr × Obj)} {l u : Value} {Q : Value → Shared → Prop} {b0 b1 b2 b3 : Int}
    (hF : Fr h₀ L s.heap m) (hN : News h₀ L s.heap news) (hk : KBw.bInts b = [b0, b1, b2, b3]) (hl : IsPart l (some 1)) (hu : IsPart u none)
    (h : ∀ h' c t' k, Fr h₀ L h' m → News h₀ L h' news → KBw.bInts c = [b1, b2, b3] → Q (.bytes c t') { s with heap := h', toks := k })
    (hs : subscripted slice false (.bytes b t) (.ref s.heap.objs.size) = operate [.ref s.heap.objs.size, .bytes b t] (getItem (.bytes b t) (.ref s.heap.objs.size)) := by with_unfolding_all rfl)
    (ht : ∀ r, letTemporaryGo value (.bytes b t) r = pure () := by intro _; with_unfolding_all rfl) :
    wpAny (model prog w) A (subscriptTail value slice (.bytes b t) (.ref s.heap.objs.size)) Q E { s with heap := s.heap.push { cls := .type "slice", data := .fields #[l, u, .none] } } :=
  KBc.slice_K hF hN hk hl hu (by simp) (fun h' t' k F N e => h h' _ t' k F N (by rw [e]; rfl)) hs ht
end
section
open PySem.Builtin.Int (intBits)

section
variable {prog : Program} {w : World} {M : Model} {A : Around} {E : Value → Shared → Prop} {s : Shared} {K : Frag} {h₀ : Heap} {L : Addr} {m : PySem.Str → Option Value} {news : List (Addr × Obj)}

theorem grown {n : Nat} {Q : Value → Shared → Prop} (hn : n < 2 ^ 4096) (h : Q (.int (n : Int) s.toks) { s with toks := s.toks + 1 }) : wpAny M A (mkIntGrown (n : Int)) Q E s := by
  unfold mkIntGrown
  have hl : ¬ ((n : Int).natAbs.log2 ≥ bitsLine) := by
    rw [Int.natAbs_natCast]
    have hb : bitsLine = 134217728 := by first | rfl | decide
    by_cases hz : n = 0
    · subst hz
      rw [hb]
      decide
    · have h1 := (Nat.log2_lt hz).mpr hn
      omega
  rw [if_neg hl]
  exact wpAny_mkInt h

theorem fb_tree {b : Array UInt8} {t u : Tok} {pos : List Value} {kw : List (PySem.Str × Value)} {sv : Option Value} {P : Fin → Shared → Prop} (hl : b.size ≤ 64)
    (hb : Builtin.Int.intBindNamed "from_bytes" ["bytes", "byteorder", "signed"] 1 2 pos kw = pure [some (.bytes b t), some (.str (PySem.Str.ofString "big") u), sv])
    (hsv : sv = some (.bool false) ∨ sv = none)
    (h : P (.done (.ret (.int (KFB.value (KBw.bInts b)) s.toks))) { s with toks := s.toks + 1 }) :
    wpAny M A (Builtin.«int.from_bytes» ⟨.type "int" :: pos, kw⟩) P E s := by
  have hv : ((b.toList.foldl (fun (acc : Nat) (b : UInt8) => acc * 256 + b.toNat) 0 : Nat) : Int) = KFB.value (KBw.bInts b) := KFB.fold_cast b.toList 0
  have hn : b.toList.foldl (fun (acc : Nat) (b : UInt8) => acc * 256 + b.toNat) 0 < 2 ^ 4096 := by
    have h1 := KFB.fold_lt b.toList 0
    rw [Nat.zero_add, Nat.one_mul, Array.length_toList] at h1
    have h2 : 256 ^ b.size ≤ 256 ^ 64 := Nat.pow_le_pow_right (by decide) hl
    have h3 : 256 ^ 64 ≤ 2 ^ 4096 := by decide +kernel
    omega
  unfold Builtin.«int.from_bytes»
  refine wpAny_bind (wpAny_of_eq (a := true) KFB.type_int ?_)
  refine KFB.if_not rfl ?_
  refine wpAny_bind (wpAny_of_eq (a := true) F.conv_sub_int ?_)
  refine KFB.if_not rfl ?_
  refine wpAny_bind (wpAny_of_eq hb ?_)
  refine wpAny_bind (wpAny_of_eq (a := PySem.Str.ofString "big") (by kernel_rfl) ?_)
  rcases hsv with rfl | rfl
  all_goals
   refine wpAny_bind (wpAny_of_eq (a := false) rfl ?_)
   refine wpAny_bind (wpAny_of_eq (a := false) (by kernel_rfl) ?_)
   refine wpAny_bind (wpAny_of_eq (a := b) rfl ?_)
   show wpAny _ _ (mkIntGrown (b.toList.foldl (fun (acc : Int) (b : UInt8) => acc * 256 + (b.toNat : Int)) ((0 : Nat) : Int)) >>= fun v => _) _ _ _
   rw [KFB.foldI_eq]
   refine wpAny_bind (grown hn ?_)
   rw [hv]
   refine KFB.if_so (by decide +kernel) ?_
   exact wpAny_bind (wpAny_pure (wpAny_pure h))

theorem fb_call_of {x : Addr} {pos : List Value} {kw : List (PySem.Str × Value)} {z : Int} {Q : Value → Shared → Prop} (ho : KFB.StandsAt x s.heap)
    (hc : checkBoundCall "int.from_bytes" ⟨.type "int" :: pos, kw⟩ = pure ())
    (tree : ∀ {P : Fin → Shared → Prop} {E' : Value → Shared → Prop} {A' : Around}, P (.done (.ret (.int z s.toks))) { s with toks := s.toks + 1 } → wpAny (model prog w) A' (Builtin.«int.from_bytes» ⟨.type "int" :: pos, kw⟩) P E' s)
    (h : Q (.int z s.toks) { s with toks := s.toks + 1 }) : wpAny (model prog w) A (call (.ref x) pos kw) Q E s := by
  refine wpAny_call (codeAny_of_tree ?_)
  show wpAny _ A.in1 (callAny (.ref x) ⟨pos, kw⟩) _ _ s
  simp only [callAny]
  refine wpAny_bind (wpAny_load ho ?_)
  simp only [KFB.bound, show (Value.type "builtin_function_or_method" == Value.type "method" || Value.type "builtin_function_or_method" == Value.type "builtin_function_or_method" || Value.type "builtin_function_or_method" == Value.type "method-wrapper") = true by decide, if_true]
  refine KFB.if_so (by decide) ?_
  refine wpAny_bind (wpAny_of_eq (a := ()) hc ?_)
  refine wpAny_bind (wpAny_pure (wpAny_pure ?_))
  exact ⟨KFB.quiet_fb, codeAny_builtin KFB.entry_fb (tree h)⟩

/-- int.from_bytes(b, 'big', signed=False) -/
theorem fb_call3 {x : Addr} {b : Array UInt8} {t u : Tok} {ks : List Int} {Q : Value → Shared → Prop} (N : News h₀ L s.heap news) (hm : (x, KFB.bound) ∈ news) (hb : KBw.bInts b = ks) (hl : ks.length ≤ 64)
    (h : ∀ t' k, Q (.int (KFB.value ks) t') { s with toks := k }) : wpAny (model prog w) A (call (.ref x) [.bytes b t, .str (PySem.Str.ofString "big") u] [(PySem.Str.ofString "signed", .bool false)]) Q E s := by
  subst hb
  exact fb_call_of (KFB.at_of N hm) (by first | kernel_rfl | rfl) (fun z => fb_tree (t := t) (u := u) (sv := some (.bool false)) (by rw [← KBw.ints_length]; exact hl) (by kernel_rfl) (.inl rfl) z) (h _ _)
/-- int.from_bytes(b, byteorder='big', signed=False) -/
theorem fb_call2 {x : Addr} {b : Array UInt8} {t u : Tok} {ks : List Int} {Q : Value → Shared → Prop} (N : News h₀ L s.heap news) (hm : (x, KFB.bound) ∈ news) (hb : KBw.bInts b = ks) (hl : ks.length ≤ 64)
    (h : ∀ t' k, Q (.int (KFB.value ks) t') { s with toks := k }) : wpAny (model prog w) A (call (.ref x) [.bytes b t] [(PySem.Str.ofString "byteorder", .str (PySem.Str.ofString "big") u), (PySem.Str.ofString "signed", .bool false)]) Q E s := by
  subst hb
  exact fb_call_of (KFB.at_of N hm) (by first | kernel_rfl | rfl) (fun z => fb_tree (t := t) (u := u) (sv := some (.bool false)) (by rw [← KBw.ints_length]; exact hl) (by kernel_rfl) (.inl rfl) z) (h _ _)

theorem callWith_bound_kw {pos : Pos} {u : Addr} {first : List Value} {env : Env} {e : Expr} {rest : List Expr} {kw0 : Keyword} {kws : List Keyword} {Q : Value → Shared → Prop} (_N : News h₀ L s.heap news) (_hm : (u, KFB.bound) ∈ news)
    (h : wpAny M A (spliced (backTo pos (starEach (e :: rest) env))) (fun vs s₁ => wpAny M A (evalAll ((backToKw pos (keywordEach (kw0 :: kws) env)).map (·.2)))
      (fun kvs s₂ => KFB.StandsAt u s₂.heap ∧ wpAny M A (call (.ref u) (first ++ vs) (((backToKw pos (keywordEach (kw0 :: kws) env)).filterMap (·.1)).zip kvs)) Q E s₂) E s₁) E s)
    (he : backTo pos (starEach (e :: rest) env) = (false, eval e env) :: backTo pos (starEach rest env) := by rfl)
    (hplain : (backTo pos (starEach (e :: rest) env)).any (·.1) = false := by rfl)
    (hall : (backToKw pos (keywordEach (kw0 :: kws) env)).all (·.1.isSome) = true := by rfl)
    (hkw : (backToKw pos (keywordEach (kw0 :: kws) env)).any (·.1.isNone) = false := by rfl) :
    wpAny M A (callWith pos (.ref u) first (backTo pos (starEach (e :: rest) env)) (backToKw pos (keywordEach (kw0 :: kws) env))) Q E s := by
  unfold callWith
  have h' : wpAny M A (evalArgs (.ref u) true (backTo pos (starEach (e :: rest) env)) (backToKw pos (keywordEach (kw0 :: kws) env))) (fun a s₂ => KFB.StandsAt u s₂.heap ∧ wpAny M A (call (.ref u) (first ++ a.pos) a.kw) Q E s₂) E s := by
    rw [he] at h ⊢
    exact evalArgs_kwB hall h
  refine wpAny_bind (wpAny_holding (wpAny_mono h' (fun x s₁ h₁ => wpAny_bind (wpAny_standAt ?_)) fun _ _ x => x))
  obtain ⟨ho, hcall⟩ := h₁
  simp only [hplain, hkw, Bool.or_false]
  refine wpAny_bind (m := keeperOf (.ref u)) ?_
  unfold keeperOf
  refine wpAny_bind (wpAny_load ho ?_)
  simp only [KFB.bound, show (Value.type "builtin_function_or_method" != Value.type "method") = true by decide, show (Value.type "builtin_function_or_method" == Value.type "builtin_function_or_method" || Value.type "builtin_function_or_method" == Value.type "method-wrapper") = true by decide, if_true]
  refine wpAny_pure ?_
  exact wpAny_bind (wpAny_mono hcall (fun r s₂ hr => wpAny_bind (wpAny_holding (wpAny_point (wpAny_pure hr)))) fun _ _ x => x)

theorem callWith_meth_kw {pos : Pos} {id : String} {f0 : Value} {first : List Value} {env : Env} {e : Expr} {rest : List Expr} {kw0 : Keyword} {kws : List Keyword} {Q : Value → Shared → Prop}
    (h : wpAny M A (spliced (backTo pos (starEach (e :: rest) env))) (fun vs s₁ => wpAny M A (evalAll ((backToKw pos (keywordEach (kw0 :: kws) env)).map (·.2)))
      (fun kvs s₂ => wpAny M A (call (.builtin id) (f0 :: first ++ vs) (((backToKw pos (keywordEach (kw0 :: kws) env)).filterMap (·.1)).zip kvs)) Q E s₂) E s₁) E s)
    (he : backTo pos (starEach (e :: rest) env) = (false, eval e env) :: backTo pos (starEach rest env) := by rfl)
    (hplain : (backTo pos (starEach (e :: rest) env)).any (·.1) = false := by rfl)
    (hall : (backToKw pos (keywordEach (kw0 :: kws) env)).all (·.1.isSome) = true := by rfl)
    (hkw : (backToKw pos (keywordEach (kw0 :: kws) env)).any (·.1.isNone) = false := by rfl) :
    wpAny M A (callWith pos (.builtin id) (f0 :: first) (backTo pos (starEach (e :: rest) env)) (backToKw pos (keywordEach (kw0 :: kws) env))) Q E s := by
  refine callWith_builtin_kwB hplain hkw ?_
  rw [he] at h ⊢
  exact evalArgs_kwB hall h

/-! to_bytes -/
/-- the k octets of x, the greatest first -/
def bigI (k : Nat) (x : Int) : List Int := (KTBy.little k x).reverse
theorem bigI_length (k : Nat) (x : Int) : (bigI k x).length = k := by rw [bigI, List.length_reverse, KTBy.little_length]

theorem tb_tree {x : Int} {k : Nat} {t u v : Tok} {pos : List Value} {kw : List (PySem.Str × Value)} {sv : Option Value} {P : Fin → Shared → Prop} (hk : k ≤ 64) (h0 : 0 ≤ x) (h1 : x < 256 ^ k)
    (hb : Builtin.Int.intBindNamed "to_bytes" ["length", "byteorder", "signed"] 0 2 pos kw = pure [some (.int (k : Int) u), some (.str (PySem.Str.ofString "big") v), sv])
    (hsv : sv = some (.bool false) ∨ sv = none)
    (h : ∀ (b : Array UInt8) t' k', KBw.bInts b = bigI k x → P (.done (.ret (.bytes b t'))) { s with toks := k' }) :
    wpAny M A (Builtin.«int.to_bytes» ⟨.int x t :: pos, kw⟩) P E s := by
  have hb' := KTBy.bits_le rfl h0 h1
  show wpAny _ _ (Builtin.Int.intOfSelf (.int x t) >>= fun y => _) _ _ s
  refine wpAny_bind (wpAny_of_eq (a := x) rfl ?_)
  show wpAny _ _ (Builtin.Int.intBindNamed "to_bytes" ["length", "byteorder", "signed"] 0 2 pos kw >>= fun l => _) _ _ s
  refine wpAny_bind (wpAny_of_eq hb ?_)
  show wpAny _ _ (Builtin.Int.intIndex "int.to_bytes" (.int (k : Int) u) >>= fun n => _) _ _ s
  refine wpAny_bind (wpAny_of_eq (a := (k : Int)) rfl ?_)
  refine KTBy.if_not (by show (decide ((k : Int) < -(2 ^ 63 : Int)) || decide ((k : Int) ≥ 2 ^ 63)) = false; rw [decide_eq_false (show ¬ ((k : Int) < -(2 ^ 63 : Int)) by omega), decide_eq_false (show ¬ ((k : Int) ≥ 2 ^ 63) by omega)]; rfl) ?_
  refine wpAny_bind (wpAny_of_eq (a := PySem.Str.ofString "big") (by kernel_rfl) ?_)
  rcases hsv with rfl | rfl
  all_goals
   refine wpAny_bind (wpAny_of_eq (a := false) rfl ?_)
   refine wpAny_bind (wpAny_of_eq (a := false) (by kernel_rfl) ?_)
   refine wpAny_ite_false (decide_eq_false (show ¬ ((k : Int) < 0) by omega)) ?_
   refine wpAny_ite_false (decide_eq_false (show ¬ ((k : Int) > 2 ^ 63 - 1 - 33) by omega)) ?_
   refine wpAny_ite_false (decide_eq_false (show ¬ ((k : Int) > (sizeLine : Int)) by rw [sizeLine_eq]; omega)) ?_
   refine KTBy.if_not (by show (decide (x < 0) && !false) = false; rw [decide_eq_false (show ¬ x < 0 by omega)]; rfl) ?_
   refine KTBy.if_not (by show (_ && decide ((intBits x : Int) > 8 * (k : Int))) = false; rw [decide_eq_false (show ¬ ((intBits x : Int) > 8 * (k : Int)) by omega), Bool.and_false]) ?_
   refine wpAny_bind (wpAny_mkBytes (wpAny_pure (h _ _ _ ?_)) (by show (List.reverse (KTBy.low x (Int.toNat (k : Int)))).length ≤ sizeLine; rw [List.length_reverse, KTBy.low_length, Int.toNat_natCast, sizeLine_eq]; omega))
   show (List.map (fun c : UInt8 => ((c.toNat : Nat) : Int)) (List.reverse (KTBy.low x (Int.toNat (k : Int))))) = bigI k x
   rw [Int.toNat_natCast, List.map_reverse, KTBy.low_ints h0 h1, ← KTBy.little_eq, bigI]

/-- x.to_bytes(k, 'big', signed=False) -/
theorem tb_call3 {x z : Int} {k : Nat} {t u v : Tok} {Q : Value → Shared → Prop} (hk : k ≤ 64) (hz : z = (k : Int)) (h0 : 0 ≤ x) (h1 : x < 256 ^ k) (h : ∀ (b : Array UInt8) t' k', KBw.bInts b = bigI k x → Q (.bytes b t') { s with toks := k' }) :
    wpAny (model prog w) A (call (.builtin "int.to_bytes") [.int x t, .int z u, .str (PySem.Str.ofString "big") v] [(PySem.Str.ofString "signed", .bool false)]) Q E s := by
  subst hz
  exact wpAny_call_entry_kw KTBy.slot (typeIs_int s x t) KTBy.entry (tb_tree (u := u) (v := v) (sv := some (.bool false)) hk h0 h1 (by kernel_rfl) (.inl rfl) fun b t' k' e => ⟨_, rfl, h b t' k' e⟩) (by unfold argsOk; kernel_rfl)
/-- x.to_bytes(k, 'big') -/
theorem tb_call2 {x z : Int} {k : Nat} {t u v : Tok} {Q : Value → Shared → Prop} (hk : k ≤ 64) (hz : z = (k : Int)) (h0 : 0 ≤ x) (h1 : x < 256 ^ k) (h : ∀ (b : Array UInt8) t' k', KBw.bInts b = bigI k x → Q (.bytes b t') { s with toks := k' }) :
    wpAny (model prog w) A (call (.builtin "int.to_bytes") [.int x t, .int z u, .str (PySem.Str.ofString "big") v]) Q E s := by
  subst hz
  exact wpAny_call_entry KTBy.slot (typeIs_int s x t) KTBy.entry (tb_tree (u := u) (v := v) (sv := none) hk h0 h1 (by kernel_rfl) (.inr rfl) fun b t' k' e => ⟨_, rfl, h b t' k' e⟩) (KTBy.args _ _ _)
end
end
section

section
variable {prog : Program} {w : World} {M : Model} {A : Around} {E : Value → Shared → Prop} {s : Shared} {K : Frag} {h₀ : Heap} {L : Addr} {m : PySem.Str → Option Value} {news : List (Addr × Obj)}

theorem slot_bytes_bytes : Slot "bytes" "__bytes__" "bytes.__bytes__" :=
  .of (owner := "bytes") (n := "__bytes__") (by rw [typeLookup_type, builtinLookup_eq_fast]; kernel_rfl) (by decide +kernel) (by decide +kernel) (by decide +kernel)
    (by first | exact .inl (by decide +kernel) | exact .inr (by decide +kernel)) (by rw [isSubtype_type]; kernel_rfl)

theorem bytes_new_same {b : Array UInt8} {t : Tok} {Q : Value → Shared → Prop} (hQ : ∀ t k, Q (.bytes b t) { s with toks := k }) :
    codeAny (model prog w) A (.call (.builtin "bytes.__new__") ⟨[.type "bytes", .bytes b t], []⟩) (wants Q E) s := by
  refine codeAny_of_tree ?_
  show wpAny _ A.in1 (do checkBuiltinCall "bytes.__new__" ⟨[.type "bytes", .bytes b t], []⟩; again (.builtin "bytes.__new__" ⟨[.type "bytes", .bytes b t], []⟩)) _ _ s
  refine wpAny_bind (wpAny_of_eq (F.bm_newCall _) (wpAny_pure ⟨plainId_quiet F.bm_plain _, codeAny_builtin F.bm_entry ?_⟩))
  rw [Around.under_plainId F.bm_plain _]
  have hT : s.TypeIs (.bytes b t) "bytes" := PySem.W.typeIs_bytes _ _ _
  unfold Builtin.«bytes.__new__»
  refine wpAny_bind (wpAny_of_eq (a := true) rfl ?_)
  refine bm_if_false rfl ?_
  refine wpAny_bind (wpAny_of_eq F.bm_sub ?_)
  refine bm_if_false rfl ?_
  refine wpAny_bind (wpAny_of_eq (F.bm_bind _) ?_)
  refine wpAny_bind (wpAny_of_eq (a := ()) rfl ?_)
  refine wpAny_bind (wpAny_of_eq (a := ()) rfl ?_)
  refine bm_if_false rfl ?_
  refine wpAny_bind (wpAny_specialOf hT slot_bytes_bytes.lookup ?_)
  dsimp only
  refine wpAny_bind (wpAny_rule ?_)
  refine wpAny_bind (wpAny_typeOf hT ?_)
  refine bm_if_true (by decide) ?_
  have h := hQ t s.toks
  first
    | exact wpAny_pure h
    | exact wpAny_bind (wpAny_pure (wpAny_pure h))

theorem call_bytes_same {b : Array UInt8} {t : Tok} {Q : Value → Shared → Prop} (hQ : ∀ t k, Q (.bytes b t) { s with toks := k }) : wpAny (model prog w) A (call (.type "bytes") [.bytes b t]) Q E s := by
  refine callType_codes (Q₁ := fun obj s₁ => s₁.TypeIs obj "bytes" ∧ Q obj s₁) F.bm_called (F.bm_typeCall _) F.entry_object_init
    (bytes_new_same fun t k => ⟨PySem.W.typeIs_bytes _ _ _, hQ t k⟩) fun obj s₁ h₁ => ?_
  exact ⟨h₁.1, F.args_object_init_2 obj _, object_init_meets F.bm_called.init.lookup F.bm_called.made (by decide) prog w A.in1 _ s₁ ⟨h₁.1, rfl, h₁.2⟩⟩

/-- b[i] of octets known one by one -/
theorem item_at {value slice : PySem.Expr} {b : Array UInt8} {t ui : Tok} {i k : Int} {ks : List Int} {Q : Value → Shared → Prop} (hk : KBw.bInts b = ks) (hz : ks.length ≤ 64) (h0 : 0 ≤ i) (h1 : i < (ks.length : Int)) (e : ks.getD i.toNat 0 = k)
    (h : ∀ t' k', 0 ≤ k → k < 256 → Q (.int k t') { s with toks := k' })
    (hs : subscripted slice false (.bytes b t) (.int i ui) = operate [.bytes b t, .int i ui] (getItem (.bytes b t) (.int i ui)) := by with_unfolding_all rfl)
    (ht : ∀ r, letTemporaryGo value (.bytes b t) r = pure () := by intro _; with_unfolding_all rfl) : wpAny (model prog w) A (subscriptTail value slice (.bytes b t) (.int i ui)) Q E s := by
  subst e
  exact KBw.item_K hk (by omega) h0 h1 (fun t' k' a c => h t' k' a c) hs ht
end
end
section
open PySem.Builtin.Int (intBits)

theorem pow256 (k : Int) (hk : 0 ≤ k) : (2 : Int) ^ (8 * k).toNat = 256 ^ k.toNat := by
  have e : (8 * k).toNat = 8 * k.toNat := by omega
  rw [e, Int.pow_mul]
  rfl
theorem p256_pos (n : Nat) : (0 : Int) < 256 ^ n := Int.pow_pos (by decide)
theorem p256_nat (n : Nat) : ((256 : Int) ^ n).natAbs = 256 ^ n := by
  rw [Int.natAbs_pow]
  rfl
theorem p256_log (n : Nat) (h : n ≤ 1000) : ((256 : Int) ^ n).natAbs.log2 < 9000 := by
  rw [p256_nat]
  refine (Nat.log2_lt (Nat.ne_of_gt (Nat.pow_pos (by decide)))).mpr ?_
  have e : (256 : Nat) ^ n = 2 ^ (8 * n) := by rw [Nat.pow_mul]
  rw [e]
  exact Nat.pow_lt_pow_right (by decide) (by omega)

section
variable {prog : Program} {w : World} {M : Model} {A : Around} {E : Value → Shared → Prop} {s : Shared} {Q : Value → Shared → Prop} {t u : Tok} {a b k n r : Int}

theorem shl8 (hk : 0 ≤ k) (hk2 : k ≤ 1000) (ha : a.natAbs < 2 ^ 64) (h : Q (.int (a * 256 ^ k.toNat) s.toks) { s with toks := s.toks + 1 }) :
    wpAny (model prog w) A (binaryOp .LShift (.int a t) (.int (8 * k) u)) Q E s :=
  lshift_int_small (by omega) (by omega) ha (by rw [pow256 k hk]; exact h)
theorem shr8 (hk : 0 ≤ k) (h : Q (.int (a / 256 ^ k.toNat) s.toks) { s with toks := s.toks + 1 }) :
    wpAny (model prog w) A (binaryOp .RShift (.int a t) (.int (8 * k) u)) Q E s :=
  rshift_int (by omega) (by rw [pow256 k hk, Int.fdiv_eq_ediv_of_nonneg _ (Int.le_of_lt (p256_pos _))]; exact h)
theorem pow256_rule (hn : 0 ≤ n) (hn2 : n ≤ 1000) (h : Q (.int (256 ^ n.toNat) s.toks) { s with toks := s.toks + 1 }) :
    wpAny (model prog w) A (binaryOp .Pow (.int 256 t) (.int n u)) Q E s := pow_int_small hn (by omega) (by decide) h
theorem pow_lit (hn : 0 ≤ n) (hn2 : n ≤ 1000) (ha : a.natAbs < 2 ^ 64) (e : a ^ n.toNat = r) (h : Q (.int r s.toks) { s with toks := s.toks + 1 }) :
    wpAny (model prog w) A (binaryOp .Pow (.int a t) (.int n u)) Q E s := pow_int_small hn (by omega) ha (by rw [e]; exact h)
theorem mod_pos (hb : 0 < b) (h : Q (.int (a % b) s.toks) { s with toks := s.toks + 1 }) :
    wpAny (model prog w) A (binaryOp .Mod (.int a t) (.int b u)) Q E s :=
  mod_int' (Int.ne_of_gt hb) (by rw [Int.fmod_eq_emod_of_nonneg _ (Int.le_of_lt hb)]; exact h)
theorem div_pos (hb : 0 < b) (hl : b.natAbs.log2 < 9000) (h : Q (.int (a / b) s.toks) { s with toks := s.toks + 1 }) :
    wpAny (model prog w) A (binaryOp .FloorDiv (.int a t) (.int b u)) Q E s :=
  floordiv_int (Int.ne_of_gt hb) (by rw [Int.fdiv_eq_ediv_of_nonneg _ (Int.le_of_lt hb)]; exact h) (.inl (PyProof.noPylong_of_log2 hl))
theorem idiv_pos (hb : 0 < b) (hl : b.natAbs.log2 < 9000) (h : Q (.int (a / b) s.toks) { s with toks := s.toks + 1 }) :
    wpAny (model prog w) A (inplaceOp .FloorDiv (.int a t) (.int b u)) Q E s :=
  ifloordiv_int (Int.ne_of_gt hb) (by rw [Int.fdiv_eq_ediv_of_nonneg _ (Int.le_of_lt hb)]; exact h) (.inl (PyProof.noPylong_of_log2 hl))
theorem div_256 (hk : 0 ≤ k) (hk2 : k ≤ 1000) (h : Q (.int (a / 256 ^ k.toNat) s.toks) { s with toks := s.toks + 1 }) :
    wpAny (model prog w) A (binaryOp .FloorDiv (.int a t) (.int (256 ^ k.toNat) u)) Q E s :=
  div_pos (p256_pos _) (p256_log _ (by omega)) h
theorem log_lt {x : Int} {n : Nat} (h0 : 0 < x) (h : x < 2 ^ n) (hn : n ≤ 9000) : x.natAbs.log2 < 9000 := by
  have hx : x.natAbs ≠ 0 := by omega
  have h2 : x.natAbs < 2 ^ n := by
    have e : ((2 ^ n : Nat) : Int) = 2 ^ n := by rw [Int.natCast_pow]; rfl
    omega
  have h3 := (Nat.log2_lt hx).mpr h2
  omega
/-- `x & 0x7fffff` -/
theorem and_mask (h : Q (.int (a % 8388608) s.toks) { s with toks := s.toks + 1 }) : wpAny (model prog w) A (binaryOp .BitAnd (.int a t) (.int 8388607 u)) Q E s :=
  and_int (by rw [show (8388607 : Int) = 2 ^ 23 - 1 from rfl, kbt_mask]; exact h)
/-- `x & 0x800000` of a number under 2 ** 24 -/
theorem and_sign (h0 : 0 ≤ a) (h1 : a < 16777216) (hlo : a < 8388608 → Q (.int 0 s.toks) { s with toks := s.toks + 1 }) (hhi : 8388608 ≤ a → Q (.int 8388608 s.toks) { s with toks := s.toks + 1 }) :
    wpAny (model prog w) A (binaryOp .BitAnd (.int a t) (.int 8388608 u)) Q E s := by
  refine and_int ?_
  rw [show (8388608 : Int) = 2 ^ 23 from rfl, kbt_bit]
  have e : (2 : Int) ^ 23 = 8388608 := rfl
  rw [e]
  by_cases hc : a < 8388608
  · have e2 : a / 8388608 % 2 * 8388608 = 0 := by omega
    rw [e2]
    exact hlo hc
  · have e2 : a / 8388608 % 2 * 8388608 = 8388608 := by omega
    rw [e2]
    exact hhi (by omega)
theorem mul_bits {x y : Int} {i j : Nat} (hi : x.natAbs < 2 ^ i) (hj : y.natAbs < 2 ^ j) (hij : i + j ≤ 100000) (h : Q (.int (x * y) s.toks) { s with toks := s.toks + 1 }) : wpAny (model prog w) A (binaryOp .Mult (.int x t) (.int y u)) Q E s := by
  refine PyProof.Rows.mul_int h ?_
  have h1 := intBits_le_iff.mpr hi
  have h2 := intBits_le_iff.mpr hj
  unfold IntMulOk
  have h3 : Builtin.Int.intTooBig (intBits x + intBits y) = false := by
    unfold Builtin.Int.intTooBig
    refine decide_eq_false ?_
    have hb : bitsLine = 134217728 := by first | rfl | decide
    omega
  rw [h3]
  simp
end

section
variable {prog : Program} {w : World} {A : Around} {E : Value → Shared → Prop} {s : Shared} {Q : Value → Shared → Prop} {t ui : Tok} {value slice : PySem.Expr} {b : Array UInt8} {b0 b1 b2 b3 : Int}
theorem item4_0 (hk : KBw.bInts b = [b0, b1, b2, b3]) (h : ∀ t' k', Q (.int b0 t') { s with toks := k' })
    (hs : subscripted slice false (.bytes b t) (.int 0 ui) = operate [.bytes b t, .int 0 ui] (getItem (.bytes b t) (.int 0 ui)) := by with_unfolding_all rfl)
    (ht : ∀ r, letTemporaryGo value (.bytes b t) r = pure () := by intro _; with_unfolding_all rfl) : wpAny (model prog w) A (subscriptTail value slice (.bytes b t) (.int 0 ui)) Q E s :=
  item_at hk (by simp) (by decide) (by simp) rfl (fun t' k' _ _ => h t' k') hs ht
theorem item4_1 (hk : KBw.bInts b = [b0, b1, b2, b3]) (h : ∀ t' k', Q (.int b1 t') { s with toks := k' })
    (hs : subscripted slice false (.bytes b t) (.int 1 ui) = operate [.bytes b t, .int 1 ui] (getItem (.bytes b t) (.int 1 ui)) := by with_unfolding_all rfl)
    (ht : ∀ r, letTemporaryGo value (.bytes b t) r = pure () := by intro _; with_unfolding_all rfl) : wpAny (model prog w) A (subscriptTail value slice (.bytes b t) (.int 1 ui)) Q E s :=
  item_at hk (by simp) (by decide) (by simp) rfl (fun t' k' _ _ => h t' k') hs ht
theorem item4_2 (hk : KBw.bInts b = [b0, b1, b2, b3]) (h : ∀ t' k', Q (.int b2 t') { s with toks := k' })
    (hs : subscripted slice false (.bytes b t) (.int 2 ui) = operate [.bytes b t, .int 2 ui] (getItem (.bytes b t) (.int 2 ui)) := by with_unfolding_all rfl)
    (ht : ∀ r, letTemporaryGo value (.bytes b t) r = pure () := by intro _; with_unfolding_all rfl) : wpAny (model prog w) A (subscriptTail value slice (.bytes b t) (.int 2 ui)) Q E s :=
  item_at hk (by simp) (by decide) (by simp) rfl (fun t' k' _ _ => h t' k') hs ht
end
theorem ints4 {b : Array UInt8} {b0 b1 b2 b3 : Int} (hk : KBw.bInts b = [b0, b1, b2, b3]) : (0 ≤ b0 ∧ b0 < 256) ∧ (0 ≤ b1 ∧ b1 < 256) ∧ (0 ≤ b2 ∧ b2 < 256) ∧ (0 ≤ b3 ∧ b3 < 256) :=
  ⟨KBw.ints_in (b := b) (by rw [hk]; simp), KBw.ints_in (b := b) (by rw [hk]; simp), KBw.ints_in (b := b) (by rw [hk]; simp), KBw.ints_in (b := b) (by rw [hk]; simp)⟩

section
variable {prog : Program} {w : World} {A : Around} {E : Value → Shared → Prop} {s : Shared} {h₀ : Heap} {L : Addr} {m : PySem.Str → Option Value} {news : List (Addr × Obj)} {x : Addr} {b : Array UInt8} {t u : Tok} {b1 b2 b3 : Int} {Q : Value → Shared → Prop}
theorem val3 (b1 b2 b3 : Int) : KFB.value [b1, b2, b3] = b1 * 65536 + b2 * 256 + b3 := by
  show ((0 * 256 + b1) * 256 + b2) * 256 + b3 = _
  omega
theorem fb3_kw2 (N : News h₀ L s.heap news) (hm : (x, KFB.bound) ∈ news) (hb : KBw.bInts b = [b1, b2, b3]) (h : ∀ t' k, Q (.int (b1 * 65536 + b2 * 256 + b3) t') { s with toks := k }) :
    wpAny (model prog w) A (call (.ref x) [.bytes b t] [(PySem.Str.ofString "byteorder", .str (PySem.Str.ofString "big") u), (PySem.Str.ofString "signed", .bool false)]) Q E s :=
  fb_call2 N hm hb (by simp) fun t' k => by rw [val3]; exact h t' k
theorem fb3_pos (N : News h₀ L s.heap news) (hm : (x, KFB.bound) ∈ news) (hb : KBw.bInts b = [b1, b2, b3]) (h : ∀ t' k, Q (.int (b1 * 65536 + b2 * 256 + b3) t') { s with toks := k }) :
    wpAny (model prog w) A (call (.ref x) [.bytes b t, .str (PySem.Str.ofString "big") u]) Q E s :=
  KFB.call_big N hm hb (by simp) fun t' k => by rw [val3]; exact h t' k
end

theorem unrEnd_of {h₀ : Heap} {L : Addr} {i : Addr} {o : Obj} {keep : Addr × Obj} {R : (PySem.Str → Option Value) → List (Addr × Obj) → Prop} {s₁ : Shared} {h' : Heap} {tk : Nat} {m' : PySem.Str → Option Value} {news' : List (Addr × Obj)}
    (F : Fr h₀ L h' m') (N : News h₀ L h' ((i, o) :: news')) (hlt : ∀ p ∈ news', p.1 < i) (hk : keep ∈ news') (r : R m' news') :
    UnrEndW h₀ L s₁ [(i, o)] (fun m' n' => SubL [keep] n' ∧ R m' n') { s₁ with heap := h', toks := tk } :=
  ⟨h', tk, m', news', rfl, F, N, fun p hp q hq => by
    rw [List.mem_singleton.mp hq]
    exact Nat.ne_of_lt (hlt p hp), ⟨hk, trivial⟩, r⟩
end
section
open PySem.Builtin.Int (intBits)

theorem value_snoc (l : List Int) (d : Int) : KFB.value (l ++ [d]) = KFB.value l * 256 + d := by
  unfold KFB.value
  rw [List.foldl_append]
  rfl
theorem value_big : ∀ (k : Nat) (x : Int), 0 ≤ x → x < 256 ^ k → KFB.value (bigI k x) = x
  | 0, x, h0, h1 => by
    have e : x = 0 := by
      rw [Int.pow_zero] at h1
      omega
    subst e
    rfl
  | k + 1, x, h0, h1 => by
    have e : bigI (k + 1) x = bigI k (x / 256) ++ [x % 256] := by
      show (x % 256 :: KTBy.little k (x / 256)).reverse = (KTBy.little k (x / 256)).reverse ++ [x % 256]
      rw [List.reverse_cons]
    rw [e, value_snoc, value_big k (x / 256) (by omega) (by rw [Int.pow_succ] at h1; omega)]
    omega
theorem big3 (S : Int) : bigI 3 S = [S / 65536 % 256, S / 256 % 256, S % 256] := by
  show [S / 256 / 256 % 256, S / 256 % 256, S % 256] = _
  have e : S / 256 / 256 = S / 65536 := by omega
  rw [e]

/-! bits_from_target, read plainly -/
/-- how many octets V has -/
def eI (V : Int) : Int := ((intBits V : Int) + 7) / 8
/-- the first three octets -/
def sI (V : Int) : Int := if eI V ≤ 3 then V * 256 ^ (3 - eI V).toNat else V / 256 ^ (eI V - 3).toNat
def fE (V : Int) : Int := if sI V < 8388608 then eI V else eI V + 1
def fS (V : Int) : Int := if sI V < 8388608 then sI V else sI V / 256

theorem eI_nn (V : Int) : 0 ≤ eI V := by unfold eI; omega
theorem pow_le256 {i j : Nat} (h : i ≤ j) : (256 : Int) ^ i ≤ 256 ^ j := by
  obtain ⟨d, rfl⟩ := Nat.exists_eq_add_of_le h
  rw [Int.pow_add]
  have h1 := p256_pos i
  have h2 := p256_pos d
  have h3 : (256 : Int) ^ i * 1 ≤ 256 ^ i * 256 ^ d := Int.mul_le_mul_of_nonneg_left (by omega) (by omega)
  omega
theorem nat256 (k : Nat) : ((256 ^ k : Nat) : Int) = 256 ^ k := by rw [Int.natCast_pow]; rfl
theorem two256 (k : Nat) : (2 : Nat) ^ (8 * k) = 256 ^ k := by rw [Nat.pow_mul]
theorem eI_lt {V : Int} (h0 : 0 ≤ V) : V < 256 ^ (eI V).toNat := by
  have h1 : intBits V ≤ 8 * (eI V).toNat := by unfold eI; omega
  have h2 := intBits_le_iff.mp h1
  rw [two256] at h2
  have h3 := nat256 (eI V).toNat
  omega
theorem eI_ge {V : Int} (k : Nat) (h0 : 0 ≤ V) (hk : (k : Int) < eI V) : 256 ^ k ≤ V := by
  have h1 : ¬ intBits V ≤ 8 * k := by unfold eI at hk; omega
  have h2 : ¬ V.natAbs < 2 ^ (8 * k) := fun h => h1 (intBits_le_iff.mpr h)
  rw [two256] at h2
  have h3 := nat256 k
  omega
theorem eI_le {V : Int} (k : Nat) (h0 : 0 ≤ V) (hk : V < 256 ^ k) : eI V ≤ k := by
  by_cases h : eI V ≤ k
  · exact h
  · have h2 := eI_ge k h0 (by omega)
    omega
theorem sI_bounds {V : Int} (h0 : 0 ≤ V) : 0 ≤ sI V ∧ sI V < 16777216 := by
  have hlt := eI_lt h0
  have hn := eI_nn V
  unfold sI
  by_cases hc : eI V ≤ 3
  · rw [if_pos hc]
    have hp := p256_pos (3 - eI V).toNat
    refine ⟨Int.mul_nonneg h0 (by omega), ?_⟩
    have e : (256 : Int) ^ (eI V).toNat * 256 ^ (3 - eI V).toNat = 16777216 := by
      rw [← Int.pow_add]
      have e1 : (eI V).toNat + (3 - eI V).toNat = 3 := by omega
      rw [e1]
      rfl
    have h := Int.mul_lt_mul_of_pos_right hlt hp
    omega
  · rw [if_neg hc]
    have hp := p256_pos (eI V - 3).toNat
    refine ⟨Int.ediv_nonneg h0 (by omega), ?_⟩
    refine Int.ediv_lt_of_lt_mul hp ?_
    have e : (16777216 : Int) * 256 ^ (eI V - 3).toNat = 256 ^ (eI V).toNat := by
      rw [show (16777216 : Int) = 256 ^ 3 from rfl, ← Int.pow_add]
      have e1 : 3 + (eI V - 3).toNat = (eI V).toNat := by omega
      rw [e1]
    omega

section
variable {prog : Program} {w : World} {A : Around} {E : Value → Shared → Prop} {s : Shared} {h₀ : Heap} {L : Addr} {m : PySem.Str → Option Value} {news : List (Addr × Obj)} {x : Addr} {b : Array UInt8} {t u : Tok} {V : Int} {Q : Value → Shared → Prop}
theorem len32 {n : Nat} (hk : KBw.bInts b = bigI n V) (hn : n ≤ 64) (h : ∀ t' k, Q (.int (n : Int) t') { s with toks := k }) : wpAny (model prog w) A (call (.builtin "len") [.bytes b t]) Q E s :=
  KBw.len_K hk (by rw [bigI_length]; omega) (by rw [bigI_length]; exact h _ _)
theorem fb32_3 (N : News h₀ L s.heap news) (hm : (x, KFB.bound) ∈ news) (hb : KBw.bInts b = bigI 32 V) (h0 : 0 ≤ V) (h1 : V < 256 ^ 32) (h : ∀ t' k, Q (.int V t') { s with toks := k }) :
    wpAny (model prog w) A (call (.ref x) [.bytes b t, .str (PySem.Str.ofString "big") u] [(PySem.Str.ofString "signed", .bool false)]) Q E s :=
  fb_call3 N hm hb (by rw [bigI_length]; decide) fun t' k => by rw [value_big 32 V h0 h1]; exact h t' k
theorem fb32_2 (N : News h₀ L s.heap news) (hm : (x, KFB.bound) ∈ news) (hb : KBw.bInts b = bigI 32 V) (h0 : 0 ≤ V) (h1 : V < 256 ^ 32) (h : ∀ t' k, Q (.int V t') { s with toks := k }) :
    wpAny (model prog w) A (call (.ref x) [.bytes b t] [(PySem.Str.ofString "byteorder", .str (PySem.Str.ofString "big") u), (PySem.Str.ofString "signed", .bool false)]) Q E s :=
  fb_call2 N hm hb (by rw [bigI_length]; decide) fun t' k => by rw [value_big 32 V h0 h1]; exact h t' k
theorem exp_rule (h : Q (.int (eI V) s.toks) { s with toks := s.toks + 1 }) : wpAny (model prog w) A (binaryOp .FloorDiv (.int ((intBits V : Int) + 7) t) (.int 8 u)) Q E s :=
  div_pos (by decide) (by decide +kernel) h
theorem sig_shl (h0 : 0 ≤ V) (hc : eI V ≤ 3) (h : Q (.int (sI V) s.toks) { s with toks := s.toks + 1 }) : wpAny (model prog w) A (binaryOp .LShift (.int V t) (.int (8 * (3 - eI V)) u)) Q E s := by
  have hn := eI_nn V
  have hlt := eI_lt h0
  have hle := pow_le256 (show (eI V).toNat ≤ 3 by omega)
  have e : (256 : Int) ^ 3 = 16777216 := rfl
  refine shl8 (by omega) (by omega) (by omega) ?_
  unfold sI at h
  rw [if_pos hc] at h
  exact h
theorem sig_shr (hc : ¬ eI V ≤ 3) (h : Q (.int (sI V) s.toks) { s with toks := s.toks + 1 }) : wpAny (model prog w) A (binaryOp .RShift (.int V t) (.int (8 * (eI V - 3)) u)) Q E s := by
  refine shr8 (by omega) ?_
  unfold sI at h
  rw [if_neg hc] at h
  exact h
theorem ishr_8 {a : Int} (h : Q (.int (a / 256) s.toks) { s with toks := s.toks + 1 }) : wpAny (model prog w) A (inplaceOp .RShift (.int a t) (.int 8 u)) Q E s := by
  refine irshift_int (by decide) ?_
  rw [show (2 : Int) ^ (8 : Int).toNat = 256 from rfl, Int.fdiv_eq_ediv_of_nonneg _ (by decide)]
  exact h
end

theorem lowI_bounds (b1 b2 b3 : Int) : 0 ≤ (b1 * 65536 + b2 * 256 + b3) % 8388608 ∧ (b1 * 65536 + b2 * 256 + b3) % 8388608 < 8388608 := by omega

theorem addHead {prog : Program} {w : World} {A : Around} {E : Value → Shared → Prop} {s : Shared} {b : Array UInt8} {t u : Tok} {Q : Value → Shared → Prop} {x : UInt8} {e : Int} {ks : List Int} (hx : ((x.toNat : Nat) : Int) = e) (hb : KBw.bInts b = ks) (hz : ks.length ≤ 64)
    (h : ∀ c t' k, KBw.bInts c = e :: ks → Q (.bytes c t') { s with toks := k }) : wpAny (model prog w) A (binaryOp .Add (.bytes #[x] t) (.bytes b u)) Q E s :=
  KBa.add_K (ks := [e]) (by show [((x.toNat : Nat) : Int)] = [e]; rw [hx]) hb (by simp only [List.length_cons, List.length_nil]; omega) fun t' k eq => h _ t' k eq
end
section

abbrev IsI (z : Int) (v : Value) : Prop := ∃ t, v = .int z t
abbrev IsB (ks : List Int) (v : Value) : Prop := ∃ b t, v = .bytes b t ∧ KBw.bInts b = ks
abbrev IsBool (c : Bool) (v : Value) : Prop := v = .bool c
def lowI (b1 b2 b3 : Int) : Int := (b1 * 65536 + b2 * 256 + b3) % 8388608
def valI (b0 b1 b2 b3 : Int) : Int := if 3 ≤ b0 then lowI b1 b2 b3 * 256 ^ (b0 - 3).toNat else lowI b1 b2 b3 / 256 ^ (3 - b0).toNat
theorem isI_of {z z' : Int} {t : Tok} (e : z = z') : IsI z' (.int z t) := ⟨t, by rw [e]⟩
theorem valI_nn (b0 b1 b2 b3 : Int) : 0 ≤ valI b0 b1 b2 b3 := by
  have hl := lowI_bounds b1 b2 b3
  unfold valI lowI
  split
  · exact Int.mul_nonneg hl.1 (Int.le_of_lt (p256_pos _))
  · exact Int.ediv_nonneg hl.1 (Int.le_of_lt (p256_pos _))

/-- the value of the form of V -/
def rI (V : Int) : Int := valI (fE V) (fS V / 65536 % 256) (fS V / 256 % 256) (fS V % 256)
def kI (V : Int) : Nat := if sI V < 8388608 then (eI V - 3).toNat else (eI V - 2).toNat

theorem fS_bounds {V : Int} (h0 : 0 ≤ V) : 0 ≤ fS V ∧ fS V < 8388608 := by
  have h := sI_bounds h0
  unfold fS
  split <;> omega
theorem rI_eq {V : Int} (h0 : 0 ≤ V) : rI V = if 3 ≤ fE V then fS V * 256 ^ (fE V - 3).toNat else fS V / 256 ^ (3 - fE V).toNat := by
  have h := fS_bounds h0
  have e : lowI (fS V / 65536 % 256) (fS V / 256 % 256) (fS V % 256) = fS V := by unfold lowI; omega
  unfold rI valI
  rw [e]
theorem pow_succ256 (n : Nat) : (256 : Int) ^ (n + 1) = 256 * 256 ^ n := by rw [Int.pow_succ, Int.mul_comm]
theorem div_div256 (V : Int) (i j : Nat) : V / 256 ^ i / 256 ^ j = V / 256 ^ (i + j) := by
  rw [Int.pow_add]
  first
    | rw [Int.ediv_ediv (Int.le_of_lt (p256_pos i))]
    | rw [Int.ediv_ediv_of_nonneg (Int.le_of_lt (p256_pos i))]
theorem mul_div256 (V : Int) (i : Nat) : V * 256 ^ i / 256 ^ i = V := Int.mul_ediv_cancel _ (Int.ne_of_gt (p256_pos i))
theorem div_ge {V : Int} {i j : Nat} (h : 256 ^ (i + j) ≤ V) : 256 ^ j ≤ V / 256 ^ i := by
  refine Int.le_ediv_of_mul_le (p256_pos i) ?_
  rw [← Int.pow_add, Nat.add_comm]
  exact h
theorem eI_zero {V : Int} (h0 : 0 ≤ V) (h : eI V = 0) : V = 0 := by
  have h1 := eI_lt h0
  rw [h] at h1
  have e : (256 : Int) ^ (0 : Int).toNat = 1 := rfl
  omega

theorem rI_k {V : Int} (h0 : 0 ≤ V) : rI V = V / 256 ^ kI V * 256 ^ kI V ∧ V / 256 ^ kI V < 8388608 ∧ (kI V = 0 ∨ 8388608 ≤ V / 256 ^ (kI V - 1)) := by
  have hs := sI_bounds h0
  have hn := eI_nn V
  have hf := fS_bounds h0
  rw [rI_eq h0]
  by_cases hb : eI V ≤ 3
  · have hsI : sI V = V * 256 ^ (3 - eI V).toNat := by unfold sI; rw [if_pos hb]
    have hlt := eI_lt h0
    by_cases hc : sI V < 8388608
    · have hE : fE V = eI V := by unfold fE; rw [if_pos hc]
      have hS : fS V = sI V := by unfold fS; rw [if_pos hc]
      have hk : kI V = 0 := by unfold kI; rw [if_pos hc]; omega
      have hp := p256_pos (3 - eI V).toNat
      have hle : V ≤ sI V := by
        rw [hsI]
        have h1 : V * 1 ≤ V * 256 ^ (3 - eI V).toNat := Int.mul_le_mul_of_nonneg_left (by omega) h0
        omega
      rw [hk, hE, hS, Int.pow_zero, Int.ediv_one, Int.mul_one]
      refine ⟨?_, by omega, .inl rfl⟩
      by_cases h3 : 3 ≤ eI V
      · have e3 : (eI V - 3).toNat = 0 := by omega
        have e4 : (3 - eI V).toNat = 0 := by omega
        rw [if_pos h3, hsI, e3, e4, Int.pow_zero, Int.mul_one, Int.mul_one]
      · rw [if_neg h3, hsI, mul_div256]
    · have hE : fE V = eI V + 1 := by unfold fE; rw [if_neg hc]
      have hS : fS V = sI V / 256 := by unfold fS; rw [if_neg hc]
      have hk : kI V = (eI V - 2).toNat := by unfold kI; rw [if_neg hc]
      rw [hk, hE, hS]
      have hcase : eI V = 0 ∨ eI V = 1 ∨ eI V = 2 ∨ eI V = 3 := by omega
      rcases hcase with h | h | h | h
      · have hz := eI_zero h0 h
        rw [hsI, hz] at hc
        exact absurd (by rw [Int.zero_mul]; decide) hc
      · rw [h] at hsI hlt ⊢
        have e1 : (256 : Int) ^ (3 - (1 : Int)).toNat = 65536 := rfl
        have e2 : (256 : Int) ^ (3 - ((1 : Int) + 1)).toNat = 256 := rfl
        have e3 : (256 : Int) ^ ((1 : Int) - 2).toNat = 1 := rfl
        have e4 : (256 : Int) ^ (1 : Int).toNat = 256 := rfl
        rw [if_neg (by decide), hsI, e1, e2, e3]
        refine ⟨by omega, by omega, .inl rfl⟩
      · rw [h] at hsI hlt ⊢
        have e1 : (256 : Int) ^ (3 - (2 : Int)).toNat = 256 := rfl
        have e2 : (256 : Int) ^ (((2 : Int) + 1) - 3).toNat = 1 := rfl
        have e3 : (256 : Int) ^ ((2 : Int) - 2).toNat = 1 := rfl
        have e4 : (256 : Int) ^ (2 : Int).toNat = 65536 := rfl
        rw [if_pos (by decide), hsI, e1, e2, e3]
        refine ⟨by omega, by omega, .inl rfl⟩
      · rw [h] at hsI hlt ⊢
        have e1 : (256 : Int) ^ (3 - (3 : Int)).toNat = 1 := rfl
        have e2 : (256 : Int) ^ (((3 : Int) + 1) - 3).toNat = 256 := rfl
        have e3 : (256 : Int) ^ ((3 : Int) - 2).toNat = 256 := rfl
        have e4 : (256 : Int) ^ (3 : Int).toNat = 16777216 := rfl
        have e5 : (256 : Int) ^ (((3 : Int) - 2).toNat - 1) = 1 := rfl
        rw [e1] at hsI
        rw [if_pos (by decide), hsI, e2, e3, e5]
        refine ⟨by omega, by omega, .inr (by omega)⟩
  · have hsI : sI V = V / 256 ^ (eI V - 3).toNat := by unfold sI; rw [if_neg hb]
    by_cases hc : sI V < 8388608
    · have hE : fE V = eI V := by unfold fE; rw [if_pos hc]
      have hS : fS V = sI V := by unfold fS; rw [if_pos hc]
      have hk : kI V = (eI V - 3).toNat := by unfold kI; rw [if_pos hc]
      rw [hk, hE, hS, if_pos (by omega), ← hsI]
      refine ⟨rfl, hc, .inr ?_⟩
      have hge := eI_ge ((eI V - 3).toNat - 1 + 3) h0 (by omega)
      have h2 := div_ge hge
      have e : (256 : Int) ^ 3 = 16777216 := rfl
      omega
    · have hE : fE V = eI V + 1 := by unfold fE; rw [if_neg hc]
      have hS : fS V = sI V / 256 := by unfold fS; rw [if_neg hc]
      have hk : kI V = (eI V - 3).toNat + 1 := by unfold kI; rw [if_neg hc]; omega
      have e1 : (eI V + 1 - 3).toNat = (eI V - 3).toNat + 1 := by omega
      have e2 : V / 256 ^ ((eI V - 3).toNat + 1) = sI V / 256 := by
        rw [← div_div256, hsI]
        rfl
      rw [hk, hE, hS, if_pos (by omega), e1, e2, Nat.add_sub_cancel, ← hsI]
      exact ⟨rfl, by omega, .inr (by omega)⟩

theorem div_anti {V : Int} (h0 : 0 ≤ V) {i j : Nat} (h : i ≤ j) : V / 256 ^ j ≤ V / 256 ^ i := by
  obtain ⟨d, rfl⟩ := Nat.exists_eq_add_of_le h
  rw [← div_div256]
  exact Int.ediv_le_self _ (Int.ediv_nonneg h0 (Int.le_of_lt (p256_pos i)))
/-- the loop's end -/
theorem rI_loop {V : Int} (h0 : 0 ≤ V) {j : Nat} (h1 : V / 256 ^ j < 8388608) (h2 : j = 0 ∨ 8388608 ≤ V / 256 ^ (j - 1)) : V / 256 ^ j * 256 ^ j = rI V := by
  obtain ⟨e, k1, k2⟩ := rI_k h0
  have hj : j = kI V := by
    rcases Nat.lt_trichotomy j (kI V) with h | h | h
    · rcases k2 with k2 | k2
      · omega
      · have h3 := div_anti h0 (show j ≤ kI V - 1 by omega)
        omega
    · exact h
    · rcases h2 with h2 | h2
      · omega
      · have h3 := div_anti h0 (show kI V ≤ j - 1 by omega)
        omega
  rw [hj, e]
theorem rI_bounds {V : Int} (h0 : 0 ≤ V) : 0 ≤ rI V ∧ rI V ≤ V := by
  obtain ⟨e, _, _⟩ := rI_k h0
  rw [e]
  have hp := p256_pos (kI V)
  exact ⟨Int.mul_nonneg (Int.ediv_nonneg h0 (by omega)) (by omega), Int.ediv_mul_le _ (by omega)⟩
/-- what has such a form keeps its value -/
theorem rI_same {m : Int} {i : Nat} (h0 : 0 ≤ m) (h1 : m < 8388608) : rI (m * 256 ^ i) = m * 256 ^ i := by
  have hV : 0 ≤ m * 256 ^ i := Int.mul_nonneg h0 (Int.le_of_lt (p256_pos i))
  obtain ⟨e, k1, k2⟩ := rI_k hV
  have hk : kI (m * 256 ^ i) ≤ i := by
    rcases k2 with k2 | k2
    · omega
    · by_cases h : kI (m * 256 ^ i) ≤ i
      · exact h
      · have h3 := div_anti hV (show i ≤ kI (m * 256 ^ i) - 1 by omega)
        rw [mul_div256] at h3
        omega
  rw [e]
  generalize kI (m * 256 ^ i) = k at hk
  obtain ⟨d, rfl⟩ := Nat.exists_eq_add_of_le hk
  rw [Int.pow_add, Int.mul_comm (256 ^ k) (256 ^ d), ← Int.mul_assoc, mul_div256]
theorem rI_val {b0 b1 b2 b3 : Int} : rI (valI b0 b1 b2 b3) = valI b0 b1 b2 b3 := by
  have hl := lowI_bounds b1 b2 b3
  by_cases h : 3 ≤ b0
  · have e : valI b0 b1 b2 b3 = lowI b1 b2 b3 * 256 ^ (b0 - 3).toNat := by unfold valI; rw [if_pos h]
    rw [e]
    exact rI_same hl.1 hl.2
  · have e : valI b0 b1 b2 b3 = (lowI b1 b2 b3 / 256 ^ (3 - b0).toNat) * 256 ^ 0 := by unfold valI; rw [if_neg h, Int.pow_zero, Int.mul_one]
    rw [e]
    refine rI_same (Int.ediv_nonneg hl.1 (Int.le_of_lt (p256_pos _))) ?_
    have h2 : lowI b1 b2 b3 / 256 ^ (3 - b0).toNat ≤ lowI b1 b2 b3 := Int.ediv_le_self _ hl.1
    have h3 : lowI b1 b2 b3 < 8388608 := hl.2
    omega
/-- a form's first digit octet has no sign -/
theorem form_top {V : Int} (h0 : 0 ≤ V) : fS V / 65536 % 256 < 128 := by
  have h := fS_bounds h0
  omega
/-- and is not empty without need -/
theorem form_full {V : Int} (h0 : 0 ≤ V) (hV : V ≠ 0) : fS V / 65536 % 256 ≠ 0 ∨ 128 ≤ fS V / 256 % 256 := by
  have hs := sI_bounds h0
  have hn := eI_nn V
  have he : 0 < eI V := by
    by_cases h : eI V = 0
    · exact absurd (eI_zero h0 h) hV
    · omega
  have hge := eI_ge ((eI V).toNat - 1) h0 (by omega)
  have key : 65536 ≤ sI V := by
    by_cases hb : eI V ≤ 3
    · have hsI : sI V = V * 256 ^ (3 - eI V).toNat := by unfold sI; rw [if_pos hb]
      rw [hsI]
      have h1 : (256 : Int) ^ ((eI V).toNat - 1) * 256 ^ (3 - eI V).toNat ≤ V * 256 ^ (3 - eI V).toNat := Int.mul_le_mul_of_nonneg_right hge (Int.le_of_lt (p256_pos _))
      rw [← Int.pow_add] at h1
      have e : (eI V).toNat - 1 + (3 - eI V).toNat = 2 := by omega
      rw [e] at h1
      have e2 : (256 : Int) ^ 2 = 65536 := rfl
      omega
    · have hsI : sI V = V / 256 ^ (eI V - 3).toNat := by unfold sI; rw [if_neg hb]
      rw [hsI]
      have e : (eI V).toNat - 1 = (eI V - 3).toNat + 2 := by omega
      rw [e] at hge
      have h1 := div_ge hge
      have e2 : (256 : Int) ^ 2 = 65536 := rfl
      omega
  unfold fS
  split <;> omega
end
section
section
variable {prog : Program} {w : World} {M : Model} {A : Around} {E : Value → Shared → Prop} {s : Shared} {b : Array UInt8} {t : Tok}
theorem hex_method {pl : Sem Bool} {Q : Value × List Value → Shared → Prop} (h : Q (.builtin "bytes.hex", [.bytes b t]) s) : wpAny M A (getMethod (.bytes b t) (PySem.Str.ofString "hex") pl) Q E s :=
  KBd.method_of (name := PySem.Str.ofString "hex") (.bytes b t) (PySem.W.typeIs_bytes _ _ _) FB.slot_bytes_hex FB.type_bytes_hex KBd.noRef h
theorem hex_call {c0 c1 c2 c3 : Int} {Q : Value → Shared → Prop} (hb : KBw.bInts b = [c0, c1, c2, c3]) (h : ∀ (x : PySem.Str) t' k, x.length = 8 → Q (.str x t') { s with toks := k }) :
    wpAny (model prog w) A (call (.builtin "bytes.hex") [.bytes b t]) Q E s := by
  have hsz : b.toList.length = 4 := by
    have e := congrArg List.length hb
    rw [KBw.ints_length] at e
    simpa using e
  obtain ⟨x0, x1, x2, x3, hx⟩ : ∃ x0 x1 x2 x3, b.toList = [x0, x1, x2, x3] := by
    match hl : b.toList, hsz with
    | [x0, x1, x2, x3], _ => exact ⟨_, _, _, _, rfl⟩
  have hb' : b = #[x0, x1, x2, x3] := by rw [← Array.toArray_toList (xs := b), hx]
  subst hb'
  refine wpAny_call_entry FB.slot_bytes_hex (PySem.W.typeIs_bytes s _ t) FB.entry_bytes_hex ?_ (FB.args_bytes_hex_1 _)
  unfold Builtin.«bytes.hex» Builtin.Bytes.hexM Builtin.Bytes.hexOf
  refine wpAny_bind (wpAny_of_eq (a := [none, none]) (by kernel_rfl) ?_)
  refine wpAny_bind (wpAny_of_eq (a := (1 : Int)) rfl ?_)
  refine wpAny_bind (wpAny_of_eq (a := ()) rfl ?_)
  refine wpAny_bind (wpAny_of_eq (a := (none : Option Nat)) rfl ?_)
  refine wpAny_bind (wpAny_of_eq (a := #[x0, x1, x2, x3]) rfl ?_)
  refine wpAny_bind (wpAny_mkStr (wpAny_pure ⟨_, rfl, h _ _ _ ?_⟩) ?_)
  · rfl
  · rw [sizeLine_eq]
    show (8 : Nat) ≤ _
    decide
end
end
local macro_rules | `(tactic| k_room) => `(tactic| ((try simp only [depth_under_make, depth_under_kw, depth_in1, depth_deeper, depth_caller]); (try dsimp only [ktrTop]); (simp only [recursionLimit] at *); omega))
local macro_rules | `(tactic| walk_at "my_ret") => `(tactic| ((with_reducible rename (∀ (v : Value) (h' : Heap) (tk' : Nat), _ → Fr _ _ h' _ → News _ _ h' _ → _) => hret); (try dsimp only); refine' ret_of hret ?e1 ?e2 ?e3 ?e4; (case e2 => k_asm); (case e3 => k_asm); (case e4 => first | (intro p9 hp9; (repeat (first | (with_reducible exact hp9) | (with_reducible refine List.mem_cons_of_mem _ ?_))); done) | kcj_all)))
local macro_rules | `(tactic| walk_at "subscriptTail") => `(tactic| ((k_here; (with_reducible show wpAny _ _ (subscriptTail _ (Expr.Slice _ _ none _) (Value.bytes _ _) (Value.ref _)) _ _ _); (with_reducible rename Fr _ _ _ _ => F'); (with_reducible rename News _ _ _ _ => N'); (refine slice1 (s := ⟨_, _, _, _, _⟩) F' N' (by assumption) (by constructor) (by constructor) ?_); intro h' bsl t' k' F' N' hbsl); (all_goals (try dsimp only))))
local macro_rules | `(tactic| walk_at "subscriptTail") => `(tactic| ((k_here; (with_reducible show wpAny _ _ (subscriptTail _ _ (Value.bytes _ _) (Value.int _ _)) _ _ _); (first | (with_reducible refine item4_0 (by assumption) ?_) | (with_reducible refine item4_1 (by assumption) ?_) | (with_reducible refine item4_2 (by assumption) ?_)); intro _ _); (all_goals (try dsimp only))))
local macro_rules | `(tactic| walk_at "callWith ref") => `(tactic| (k_here; (with_reducible show wpAny _ _ (callWith _ _ _ (backTo _ (starEach (_ :: _) _)) (backToKw _ (keywordEach (_ :: _) _))) _ _ _); kfb_any; k_dflt (refine' callWith_bound_kw ?kfbN ?kfbM ?_; (case kfbN => k_asm); (case kfbM => k_mem); k_whole)))
local macro_rules | `(tactic| walk_at "call ref") => `(tactic| ((k_here; (with_reducible show wpAny _ _ (call (Value.ref _) [Value.bytes _ _, Value.str _ _]) _ _ _); kfb_any; k_dflt (refine fb3_pos (by k_asm) (by k_mem) (by assumption) ?_); intro _ _); (all_goals (try dsimp only))))
local macro_rules | `(tactic| walk_at "call ref") => `(tactic| ((k_here; kfb_any; k_dflt (refine fb3_kw2 (by k_asm) (by k_mem) (by assumption) ?_); intro _ _); (all_goals (try dsimp only))))
local macro_rules | `(tactic| walk_at "binaryOp Pow int int") => `(tactic| ((k_here; first
  | (refine' pow_lit ?p1 ?p2 ?p3 ?p4 ?_; (case p1 => decide); (case p2 => decide); (case p3 => decide); (case p4 => (simp only [Int.reduceToNat, Int.reducePow]; exact rfl)))
  | (with_reducible refine' pow256_rule ?p1 ?p2 ?_; (case p1 => first | omega | l_bnd); (case p2 => first | omega | l_bnd))); (all_goals (try dsimp only))))
local macro_rules | `(tactic| walk_at "binaryOp Mod int int") => `(tactic| ((k_here; (with_reducible refine' mod_pos ?p1 ?_); (case p1 => decide)); (all_goals (try dsimp only))))
local macro_rules | `(tactic| walk_at "binaryOp FloorDiv int int") => `(tactic| ((k_here; (with_reducible refine' div_pos ?p1 ?p2 ?_); (case p1 => omega); (case p2 => exact log_lt (n := 64) (by omega) (by omega) (by decide))); (all_goals (try dsimp only))))
local macro_rules | `(tactic| walk_at "binaryOp FloorDiv int int") => `(tactic| ((k_here; first
  | (with_reducible refine' div_256 ?p1 ?p2 ?_; (case p1 => first | omega | l_bnd); (case p2 => first | omega | l_bnd))
  | (with_reducible refine' div_pos ?p1 ?p2 ?_; (case p1 => decide); (case p2 => decide +kernel))); (all_goals (try dsimp only))))
local macro_rules | `(tactic| walk_at "binaryOp LShift int int") => `(tactic| ((k_here; (with_reducible refine' shl8 ?p1 ?p2 ?p3 ?_); (case p1 => first | omega | l_bnd); (case p2 => first | omega | l_bnd); (case p3 => first | omega | l_bnd)); (all_goals (try dsimp only))))
local macro_rules | `(tactic| walk_at "binaryOp RShift int int") => `(tactic| ((k_here; (with_reducible refine' shr8 ?p1 ?_); (case p1 => first | omega | l_bnd)); (all_goals (try dsimp only))))
local macro_rules | `(tactic| walk_at "binaryOp BitAnd int int") => `(tactic| ((k_here; first
  | (with_reducible refine and_mask ?_)
  | (with_reducible refine' and_sign ?p1 ?p2 ?_ ?_; (case p1 => first | omega | l_bnd); (case p2 => first | omega | l_bnd); k_whole; intro hsgn)); (all_goals (try dsimp only))))
local macro_rules | `(tactic| walk_at "call type:bytes") => `(tactic| ((k_here; (with_reducible show wpAny _ _ (call (Value.type "bytes") [Value.bytes _ _]) _ _ _); (refine call_bytes_same ?_); intro _ _); (all_goals (try dsimp only))))
local macro_rules | `(tactic| walk_at "exec For Name Name cons nil") => `(tactic| (k_here; (with_reducible show wpAny _ _ (exec (Stmt.For (Expr.Name (PySem.Str.ofString "size") _) _ _ _ _) _) _ _ _); (rename Fr _ _ _ _ => lF'); (with_unfolding_all refine' For_turns lF' ?_; k_whole)))
local macro_rules | `(tactic| walk_at "pyIter ref") => `(tactic| (k_here; (with_reducible show wpAny _ _ (pyIter (Value.ref _)) (fun it s₂ => TurnsAt _ _ _ _ _ _ _ _ _ it s₂) _ _); (rename Fr _ _ _ _ => lF'); (with_unfolding_all refine iter_tupTurns (lo := { cls := Value.type "tuple", data := Data.seq #[Value.int 4 _] }) (vs := [Value.int 4 _]) (by rfl) lF' (by k_asm) (by k_mem) (by rfl) (by rfl) ?_); clear lF'; intro i' l1; (have l0 := l1); (try k_lt l1)))
local macro_rules | `(tactic| walk_at "UnrEndW") => `(tactic| (refine unrEnd_of (s₁ := ⟨_, _, _, _, _⟩) (by k_asm) (by k_asm) (by assumption) (by k_mem) ?_))
local macro_rules | `(tactic| walk_at "my_room") => `(tactic| ((try simp only [depth_under_make, depth_under_kw, depth_in1, depth_deeper, depth_caller]); (try dsimp only [ktrTop]); omega))
local macro_rules | `(tactic| walk_at "my_units") => `(tactic| ((try simp only [units_in1, units_deeper, Around.mark_units, units_caller]); (try dsimp only [ktrTop]); omega))
local macro_rules | `(tactic| walk_at "callWith") => `(tactic| (k_here; (with_reducible show wpAny _ _ (callWith _ _ _ (backTo _ (starEach (_ :: _) _)) (backToKw _ (keywordEach (_ :: _) _))) _ _ _); k_dflt (refine callWith_meth_kw ?_); (try dsimp only [List.nil_append, List.cons_append])))
local macro_rules | `(tactic| walk_at "call builtin:int.to_bytes") => `(tactic| ((k_here; first
  | (refine' tb_call3 (k := 32) ?p1 ?p2 ?p3 ?p4 ?_; (case p1 => decide); (case p2 => rfl); (case p3 => walk_at "my_nn"); (case p4 => walk_at "my_256"); intro bT tT kT hbT)
  | (refine' tb_call3 (k := 3) ?p1 ?p2 ?p3 ?p4 ?_; (case p1 => decide); (case p2 => rfl); (case p3 => walk_at "my_nn"); (case p4 => walk_at "my_256"); intro bT tT kT hbT)
  | (refine' tb_call2 (k := 32) ?p1 ?p2 ?p3 ?p4 ?_; (case p1 => decide); (case p2 => rfl); (case p3 => walk_at "my_nn"); (case p4 => walk_at "my_256"); intro bT tT kT hbT)
  | (refine' tb_call2 (k := 3) ?p1 ?p2 ?p3 ?p4 ?_; (case p1 => decide); (case p2 => rfl); (case p3 => walk_at "my_nn"); (case p4 => walk_at "my_256"); intro bT tT kT hbT)); (all_goals (try dsimp only))))
local macro_rules | `(tactic| walk_at "my_nn") => `(tactic| first | omega | assumption)
local macro_rules | `(tactic| walk_at "my_256") => `(tactic| first | ((try simp only [Int.reducePow]); omega) | assumption)
local macro_rules | `(tactic| walk_at "call builtin:len") => `(tactic| ((k_here; (with_reducible show wpAny _ _ (call (Value.builtin "len") [Value.bytes _ _]) _ _ _); (refine len32 (n := 32) (by assumption) (by decide) ?_); intro _ _; (try dsimp only [Int.ofNat_eq_natCast, Int.cast_ofNat_Int])); (all_goals (try dsimp only))))
local macro_rules | `(tactic| walk_at "call ref") => `(tactic| ((k_here; (with_reducible show wpAny _ _ (call (Value.ref _) [Value.bytes _ _, Value.str _ _] _) _ _ _); kfb_any; k_dflt (refine fb32_3 (by k_asm) (by k_mem) (by assumption) (by walk_at "my_nn") (by walk_at "my_256") ?_); intro _ _); (all_goals (try dsimp only))))
local macro_rules | `(tactic| walk_at "call ref") => `(tactic| ((k_here; kfb_any; k_dflt (refine fb32_2 (by k_asm) (by k_mem) (by assumption) (by walk_at "my_nn") (by walk_at "my_256") ?_); intro _ _); (all_goals (try dsimp only))))
local macro_rules | `(tactic| walk_at "binaryOp FloorDiv int int") => `(tactic| ((k_here; (with_reducible refine exp_rule ?_)); (all_goals (try dsimp only))))
local macro_rules | `(tactic| walk_at "binaryOp LShift int int") => `(tactic| ((k_here; (with_reducible refine' sig_shl ?p1 ?p2 ?_); (case p1 => walk_at "my_nn"); (case p2 => first | assumption | omega | l_bnd)); (all_goals (try dsimp only))))
local macro_rules | `(tactic| walk_at "binaryOp RShift int int") => `(tactic| ((k_here; (with_reducible refine' sig_shr ?p2 ?_); (case p2 => first | assumption | omega | l_bnd)); (all_goals (try dsimp only))))
local macro_rules | `(tactic| walk_at "inplaceOp RShift int int") => `(tactic| ((k_here; (with_reducible refine ishr_8 ?_)); (all_goals (try dsimp only))))
local macro_rules | `(tactic| walk_at "binaryOp Add bytes bytes") => `(tactic| ((k_here; (with_reducible refine' addHead ?p1 ?p2 ?p3 ?_); (case p1 => assumption); (case p2 => assumption); (case p3 => first | (rw [bigI_length]; decide) | simp); intro cA tA kA hcA); (all_goals (try dsimp only))))
local macro_rules | `(tactic| walk_at "inplaceOp FloorDiv int int") => `(tactic| ((k_here; (with_reducible refine' idiv_pos ?p1 ?p2 ?_); (case p1 => first | decide | omega); (case p2 => first | decide +kernel | exact log_lt (n := 64) (by omega) (by omega) (by decide))); (all_goals (try dsimp only))))
local macro_rules | `(tactic| walk_at "LeaveK") => `(tactic| (dsimp only))
local macro_rules | `(tactic| walk_at "LeaveS0") => `(tactic| (dsimp only))
local macro_rules | `(tactic| walk_at "LeaveS") => `(tactic| (dsimp only))
local macro_rules | `(tactic| walk_at "execs cons") => `(tactic| (k_here; dsimp only))
local macro_rules | `(tactic| walk_at "execs nil") => `(tactic| (k_here; dsimp only))
section
theorem lval_tells {bs : Array UInt8} {t : Tok} {b0 b1 b2 b3 : Int} (hs : KBw.bInts bs = [b0, b1, b2, b3]) : Tells 3 192 [.bytes bs t] (IsI (valI b0 b1 b2 b3)) := by
  obtain ⟨h0, h1, h2, h3⟩ := ints4 hs
  unfold Tells
  k_fill
  intro w mean mg mb news dp un gd cn cs a ccd cl outer A₀ base h₀ L m s Q E B F X N T hk hdp hun hret
  refine wpAny_call ?_
  k_dflt (refine' code_def ?k1 ?k2 ?k3 ?k4 ?k5 ?kA ?kF ?kK ?k6 ?k7 ?k8 ?k9 ?kB ?_ ?c2 ?c3 ?c4 ?c5; (case kA => exact rfl); (case kF => exact rfl); (case kK => first | assumption | exact rfl); (case k1 => k_asm); (case k2 => k_asm); (case k3 => k_asm); (case k4 => k_asm); (case k5 => k_asm); (case k6 => k_is); (case k7 => k_is); (case k8 => k_room); (case k9 => first | exact BindsTo.of_eq rfl | exact binds_K (by k_in) rfl (by k_is) rfl rfl rfl); (case c5 => decide); (case kB => exact locs rfl); (case c2 => exact rfl); (case c3 => exact rfl); (case c4 => exact rfl); k_whole; intro g' L' h' FG' F' N' B' X' T'; (try dsimp only); (try k_lift B'); (try k_fold))
  k_steps
  all_goals (walk_at "my_ret")
  all_goals (refine isI_of ?_; unfold valI lowI; first | rw [if_pos (by l_bnd)] | rw [if_neg (by l_bnd)])
end
local macro_rules | `(tactic| walk_at "call ref") => `(tactic| (k_here; (with_reducible show wpAny _ _ (call (Value.ref 192) _) _ _ _); k_dflt (refine' Tells.use (lval_tells ?ha) ?k1 ?k2 ?k3 ?k4 ?k5 ?k6 ?k7 ?k8 ?_; (case ha => assumption); (case k1 => k_asm); (case k2 => k_asm); (case k3 => k_asm); (case k4 => k_asm); (case k5 => k_asm); (case k6 => first | assumption | exact rfl); (case k7 => walk_at "my_room"); (case k8 => walk_at "my_units"); k_whole); intro v9 h9 tk9 P9 F9 N9; obtain ⟨t9, e9⟩ := P9; subst e9; (try dsimp only); (try k_fold)))
section
theorem vfb_tells {bs : Array UInt8} {t : Tok} {b0 b1 b2 b3 : Int} (hs : KBw.bInts bs = [b0, b1, b2, b3]) : Tells 3 87 [.bytes bs t] (IsI (valI b0 b1 b2 b3)) := by
  obtain ⟨h0, h1, h2, h3⟩ := ints4 hs
  unfold Tells
  k_fill
  intro w mean mg mb news dp un gd cn cs a ccd cl outer A₀ base h₀ L m s Q E B F X N T hk hdp hun hret
  refine wpAny_call ?_
  k_dflt (refine' code_def ?k1 ?k2 ?k3 ?k4 ?k5 ?kA ?kF ?kK ?k6 ?k7 ?k8 ?k9 ?kB ?_ ?c2 ?c3 ?c4 ?c5; (case kA => exact rfl); (case kF => exact rfl); (case kK => first | assumption | exact rfl); (case k1 => k_asm); (case k2 => k_asm); (case k3 => k_asm); (case k4 => k_asm); (case k5 => k_asm); (case k6 => k_is); (case k7 => k_is); (case k8 => k_room); (case k9 => first | exact BindsTo.of_eq rfl | exact binds_K (by k_in) rfl (by k_is) rfl rfl rfl); (case c5 => decide); (case kB => exact locs rfl); (case c2 => exact rfl); (case c3 => exact rfl); (case c4 => exact rfl); k_whole; intro g' L' h' FG' F' N' B' X' T'; (try dsimp only); (try k_lift B'); (try k_fold))
  k_steps
  all_goals (walk_at "my_ret")
  all_goals (refine isI_of ?_; unfold valI lowI; first | rw [if_pos (by l_bnd)] | rw [if_neg (by l_bnd)])
end
local macro_rules | `(tactic| walk_at "call ref") => `(tactic| (k_here; (with_reducible show wpAny _ _ (call (Value.ref 87) _) _ _ _); k_dflt (refine' Tells.use (vfb_tells ?ha) ?k1 ?k2 ?k3 ?k4 ?k5 ?k6 ?k7 ?k8 ?_; (case ha => assumption); (case k1 => k_asm); (case k2 => k_asm); (case k3 => k_asm); (case k4 => k_asm); (case k5 => k_asm); (case k6 => first | assumption | exact rfl); (case k7 => walk_at "my_room"); (case k8 => walk_at "my_units"); k_whole); intro v9 h9 tk9 P9 F9 N9; obtain ⟨t9, e9⟩ := P9; subst e9; (try dsimp only); (try k_fold)))
section
theorem bfo4_tells {bs : Array UInt8} {t u : Tok} {b0 b1 b2 b3 : Int} (hs : KBw.bInts bs = [b0, b1, b2, b3]) : Tells 4 66 [.bytes bs t, .int 4 u] (IsB [b0, b1, b2, b3]) := by
  unfold Tells
  k_fill
  intro w mean mg mb news dp un gd cn cs a ccd cl outer A₀ base h₀ L m s Q E B F X N T hk hdp hun hret
  refine wpAny_call ?_
  k_dflt (refine' code_def ?k1 ?k2 ?k3 ?k4 ?k5 ?kA ?kF ?kK ?k6 ?k7 ?k8 ?k9 ?kB ?_ ?c2 ?c3 ?c4 ?c5; (case kA => exact rfl); (case kF => exact rfl); (case kK => first | assumption | exact rfl); (case k1 => k_asm); (case k2 => k_asm); (case k3 => k_asm); (case k4 => k_asm); (case k5 => k_asm); (case k6 => k_is); (case k7 => k_is); (case k8 => k_room); (case k9 => first | exact BindsTo.of_eq rfl | exact binds_K (by k_in) rfl (by k_is) rfl rfl rfl); (case c5 => decide); (case kB => exact locs rfl); (case c2 => exact rfl); (case c3 => exact rfl); (case c4 => exact rfl); k_whole; intro g' L' h' FG' F' N' B' X' T'; (try dsimp only); (try k_lift B'); (try k_fold))
  k_steps
  all_goals (walk_at "my_ret")
  all_goals exact ⟨_, _, rfl, hs⟩
theorem bfo1_tells {bs : Array UInt8} {t : Tok} {ks : List Int} (hs : KBw.bInts bs = ks) : Tells 4 66 [.bytes bs t] (IsB ks) := by
  unfold Tells
  k_fill
  intro w mean mg mb news dp un gd cn cs a ccd cl outer A₀ base h₀ L m s Q E B F X N T hk hdp hun hret
  refine wpAny_call ?_
  k_dflt (refine' code_def ?k1 ?k2 ?k3 ?k4 ?k5 ?kA ?kF ?kK ?k6 ?k7 ?k8 ?k9 ?kB ?_ ?c2 ?c3 ?c4 ?c5; (case kA => exact rfl); (case kF => exact rfl); (case kK => first | assumption | exact rfl); (case k1 => k_asm); (case k2 => k_asm); (case k3 => k_asm); (case k4 => k_asm); (case k5 => k_asm); (case k6 => k_is); (case k7 => k_is); (case k8 => k_room); (case k9 => first | exact BindsTo.of_eq rfl | exact binds_K (by k_in) rfl (by k_is) rfl rfl rfl); (case c5 => decide); (case kB => exact locs rfl); (case c2 => exact rfl); (case c3 => exact rfl); (case c4 => exact rfl); k_whole; intro g' L' h' FG' F' N' B' X' T'; (try dsimp only); (try k_lift B'); (try k_fold))
  k_steps
  all_goals (walk_at "my_ret")
  all_goals exact ⟨_, _, rfl, hs⟩
end
local macro_rules | `(tactic| walk_at "call ref") => `(tactic| (k_here; (with_reducible show wpAny _ _ (call (Value.ref 66) _) _ _ _); k_dflt ((first | refine' Tells.use (bfo4_tells ?ha) ?k1 ?k2 ?k3 ?k4 ?k5 ?k6 ?k7 ?k8 ?_ | refine' Tells.use (bfo1_tells ?ha) ?k1 ?k2 ?k3 ?k4 ?k5 ?k6 ?k7 ?k8 ?_); (case ha => assumption); (case k1 => k_asm); (case k2 => k_asm); (case k3 => k_asm); (case k4 => k_asm); (case k5 => k_asm); (case k6 => first | assumption | exact rfl); (case k7 => walk_at "my_room"); (case k8 => walk_at "my_units"); k_whole); intro v9 h9 tk9 P9 F9 N9; obtain ⟨bB, t9, e9, hbB⟩ := P9; subst e9; (try dsimp only); (try k_fold)))
section
theorem neg_tells {bs : Array UInt8} {t : Tok} {b0 b1 b2 b3 : Int} (hs : KBw.bInts bs = [b0, b1, b2, b3]) : Tells 8 101 [.bytes bs t] (IsBool (decide (128 ≤ b1) && decide (valI b0 b1 b2 b3 ≠ 0))) := by
  obtain ⟨h0, h1, h2, h3⟩ := ints4 hs
  unfold Tells
  k_fill
  intro w mean mg mb news dp un gd cn cs a ccd cl outer A₀ base h₀ L m s Q E B F X N T hk hdp hun hret
  refine wpAny_call ?_
  k_dflt (refine' code_def ?k1 ?k2 ?k3 ?k4 ?k5 ?kA ?kF ?kK ?k6 ?k7 ?k8 ?k9 ?kB ?_ ?c2 ?c3 ?c4 ?c5; (case kA => exact rfl); (case kF => exact rfl); (case kK => first | assumption | exact rfl); (case k1 => k_asm); (case k2 => k_asm); (case k3 => k_asm); (case k4 => k_asm); (case k5 => k_asm); (case k6 => k_is); (case k7 => k_is); (case k8 => k_room); (case k9 => first | exact BindsTo.of_eq rfl | exact binds_K (by k_in) rfl (by k_is) rfl rfl rfl); (case c5 => decide); (case kB => exact locs rfl); (case c2 => exact rfl); (case c3 => exact rfl); (case c4 => exact rfl); k_whole; intro g' L' h' FG' F' N' B' X' T'; (try dsimp only); (try k_lift B'); (try k_fold))
  k_steps
  all_goals (walk_at "my_ret")
  · have e : ¬ 128 ≤ b1 := by omega
    rw [decide_eq_false e]
    rfl
  · have e : 128 ≤ b1 := by omega
    rw [decide_eq_true e, Bool.true_and]
    refine congrArg Value.bool ?_
    by_cases hz : valI b0 b1 b2 b3 = 0
    · rw [hz]; rfl
    · rw [decide_eq_true hz]; simpa using hz
end
local macro_rules | `(tactic| walk_at "call ref") => `(tactic| (k_here; (with_reducible show wpAny _ _ (call (Value.ref 101) _) _ _ _); k_dflt (refine' Tells.use (neg_tells ?ha) ?k1 ?k2 ?k3 ?k4 ?k5 ?k6 ?k7 ?k8 ?_; (case ha => assumption); (case k1 => k_asm); (case k2 => k_asm); (case k3 => k_asm); (case k4 => k_asm); (case k5 => k_asm); (case k6 => first | assumption | exact rfl); (case k7 => walk_at "my_room"); (case k8 => walk_at "my_units"); k_whole); intro v9 h9 tk9 P9 F9 N9; subst P9; (try dsimp only); (try k_fold)))
section
theorem tfb_tells {bs : Array UInt8} {t : Tok} {b0 b1 b2 b3 : Int} (hs : KBw.bInts bs = [b0, b1, b2, b3]) (hv : valI b0 b1 b2 b3 < 115792089237316195423570985008687907853269984665640564039457584007913129639936) : Tells 8 94 [.bytes bs t] (fun v => ∃ b t, v = .bytes b t ∧ KBw.bInts b = bigI 32 (valI b0 b1 b2 b3) ∧ 0 ≤ valI b0 b1 b2 b3 ∧ valI b0 b1 b2 b3 < 115792089237316195423570985008687907853269984665640564039457584007913129639936) := by
  obtain ⟨h0, h1, h2, h3⟩ := ints4 hs
  have hv0 := valI_nn b0 b1 b2 b3
  unfold Tells
  k_fill
  intro w mean mg mb news dp un gd cn cs a ccd cl outer A₀ base h₀ L m s Q E B F X N T hk hdp hun hret
  refine wpAny_call ?_
  k_dflt (refine' code_def ?k1 ?k2 ?k3 ?k4 ?k5 ?kA ?kF ?kK ?k6 ?k7 ?k8 ?k9 ?kB ?_ ?c2 ?c3 ?c4 ?c5; (case kA => exact rfl); (case kF => exact rfl); (case kK => first | assumption | exact rfl); (case k1 => k_asm); (case k2 => k_asm); (case k3 => k_asm); (case k4 => k_asm); (case k5 => k_asm); (case k6 => k_is); (case k7 => k_is); (case k8 => k_room); (case k9 => first | exact BindsTo.of_eq rfl | exact binds_K (by k_in) rfl (by k_is) rfl rfl rfl); (case c5 => decide); (case kB => exact locs rfl); (case c2 => exact rfl); (case c3 => exact rfl); (case c4 => exact rfl); k_whole; intro g' L' h' FG' F' N' B' X' T'; (try dsimp only); (try k_lift B'); (try k_fold))
  k_steps
  all_goals (walk_at "my_ret")
  all_goals exact ⟨_, _, rfl, by assumption, hv0, hv⟩
end
local macro_rules | `(tactic| walk_at "call ref") => `(tactic| (k_here; (with_reducible show wpAny _ _ (call (Value.ref 94) _) _ _ _); k_dflt (refine' Tells.use (tfb_tells ?ha ?hb) ?k1 ?k2 ?k3 ?k4 ?k5 ?k6 ?k7 ?k8 ?_; (case ha => assumption); (case hb => walk_at "my_nn"); (case k1 => k_asm); (case k2 => k_asm); (case k3 => k_asm); (case k4 => k_asm); (case k5 => k_asm); (case k6 => first | assumption | exact rfl); (case k7 => walk_at "my_room"); (case k8 => walk_at "my_units"); k_whole); intro v9 h9 tk9 P9 F9 N9; obtain ⟨bB, t9, e9, hbB, hbN, hbM⟩ := P9; subst e9; (try dsimp only); (try k_fold)))
section
theorem bft_tells {bs : Array UInt8} {t : Tok} {V : Int} (hs : KBw.bInts bs = bigI 32 V) (hV0 : 0 ≤ V) (hV1 : V < 115792089237316195423570985008687907853269984665640564039457584007913129639936) : Tells 8 108 [.bytes bs t] (fun v => ∃ b t, v = .bytes b t ∧ KBw.bInts b = [fE V, fS V / 65536 % 256, fS V / 256 % 256, fS V % 256] ∧ valI (fE V) (fS V / 65536 % 256) (fS V / 256 % 256) (fS V % 256) ≤ V) := by
  have hs0 := sI_bounds hV0
  have he0 := eI_nn V
  have he1 := eI_le 32 hV0 (by simp only [Int.reducePow]; omega)
  unfold Tells
  k_fill
  intro w mean mg mb news dp un gd cn cs a ccd cl outer A₀ base h₀ L m s Q E B F X N T hk hdp hun hret
  refine wpAny_call ?_
  k_dflt (refine' code_def ?k1 ?k2 ?k3 ?k4 ?k5 ?kA ?kF ?kK ?k6 ?k7 ?k8 ?k9 ?kB ?_ ?c2 ?c3 ?c4 ?c5; (case kA => exact rfl); (case kF => exact rfl); (case kK => first | assumption | exact rfl); (case k1 => k_asm); (case k2 => k_asm); (case k3 => k_asm); (case k4 => k_asm); (case k5 => k_asm); (case k6 => k_is); (case k7 => k_is); (case k8 => k_room); (case k9 => first | exact BindsTo.of_eq rfl | exact binds_K (by k_in) rfl (by k_is) rfl rfl rfl); (case c5 => decide); (case kB => exact locs rfl); (case c2 => exact rfl); (case c3 => exact rfl); (case c4 => exact rfl); k_whole; intro g' L' h' FG' F' N' B' X' T'; (try dsimp only); (try k_lift B'); (try k_fold))
  k_steps
  all_goals (walk_at "my_ret")
  all_goals (refine ⟨_, _, rfl, ?_, (rI_bounds hV0).2⟩)
  all_goals (unfold fE fS; first | (rw [if_pos (by omega), if_pos (by omega), ← big3]; assumption) | (rw [if_neg (by omega), if_neg (by omega), ← big3]; assumption))
end
local macro_rules | `(tactic| walk_at "call ref") => `(tactic| (k_here; (with_reducible show wpAny _ _ (call (Value.ref 108) _) _ _ _); k_dflt (refine' Tells.use (bft_tells ?ha ?hb ?hc) ?k1 ?k2 ?k3 ?k4 ?k5 ?k6 ?k7 ?k8 ?_; (case ha => assumption); (case hb => walk_at "my_nn"); (case hc => walk_at "my_nn"); (case k1 => k_asm); (case k2 => k_asm); (case k3 => k_asm); (case k4 => k_asm); (case k5 => k_asm); (case k6 => first | assumption | exact rfl); (case k7 => walk_at "my_room"); (case k8 => walk_at "my_units"); k_whole); intro v9 h9 tk9 P9 F9 N9; obtain ⟨bB, t9, e9, hbB, hbN⟩ := P9; subst e9; (try dsimp only); (try k_fold)))
section
theorem quot_bounds {X total M : Int} (h0 : 0 ≤ X) (h1 : X < M) (ht : 0 < total) : 0 ≤ X / total ∧ X / total < M := by
  have h2 := Int.ediv_nonneg h0 (Int.le_of_lt ht)
  have h3 : X / total ≤ X := Int.ediv_le_self _ h0
  omega
theorem bnd_tells {old span total limit : Int} {t1 t2 t3 t4 : Tok} (ho0 : 0 ≤ old) (ho1 : old < 115792089237316195423570985008687907853269984665640564039457584007913129639936) (hp0 : 0 ≤ span) (hp1 : span < 18446744073709551616) (ht0 : 0 < total) (ht1 : total < 18446744073709551616) (hl0 : 0 ≤ limit) (hl1 : limit < 115792089237316195423570985008687907853269984665640564039457584007913129639936) :
    Tells 14 123 [.int old t1, .int span t2, .int total t3, .int limit t4] (IsI (rI (if limit < old * span % 115792089237316195423570985008687907853269984665640564039457584007913129639936 / total then limit else old * span % 115792089237316195423570985008687907853269984665640564039457584007913129639936 / total))) := by
  have hX0 : 0 ≤ old * span % 115792089237316195423570985008687907853269984665640564039457584007913129639936 := Int.emod_nonneg _ (by decide)
  have hX1 : old * span % 115792089237316195423570985008687907853269984665640564039457584007913129639936 < 115792089237316195423570985008687907853269984665640564039457584007913129639936 := Int.emod_lt_of_pos _ (by decide)
  have hq := quot_bounds hX0 hX1 ht0
  unfold Tells
  k_fill
  intro w mean mg mb news dp un gd cn cs a ccd cl outer A₀ base h₀ L m s Q E B F X N T hk hdp hun hret
  refine wpAny_call ?_
  k_dflt (refine' code_def ?k1 ?k2 ?k3 ?k4 ?k5 ?kA ?kF ?kK ?k6 ?k7 ?k8 ?k9 ?kB ?_ ?c2 ?c3 ?c4 ?c5; (case kA => exact rfl); (case kF => exact rfl); (case kK => first | assumption | exact rfl); (case k1 => k_asm); (case k2 => k_asm); (case k3 => k_asm); (case k4 => k_asm); (case k5 => k_asm); (case k6 => k_is); (case k7 => k_is); (case k8 => k_room); (case k9 => first | exact BindsTo.of_eq rfl | exact binds_K (by k_in) rfl (by k_is) rfl rfl rfl); (case c5 => decide); (case kB => exact locs rfl); (case c2 => exact rfl); (case c3 => exact rfl); (case c4 => exact rfl); k_whole; intro g' L' h' FG' F' N' B' X' T'; (try dsimp only); (try k_lift B'); (try k_fold))
  k_steps
  all_goals (walk_at "my_ret")
  all_goals exact ⟨_, rfl⟩
end
local macro_rules | `(tactic| walk_at "call ref") => `(tactic| (k_here; (with_reducible show wpAny _ _ (call (Value.ref 123) _) _ _ _); k_dflt (refine' Tells.use (bnd_tells ?ha ?hb ?hc ?hd ?he ?hf ?hg ?hh) ?k1 ?k2 ?k3 ?k4 ?k5 ?k6 ?k7 ?k8 ?_; (case ha => walk_at "my_nn"); (case hb => walk_at "my_nn"); (case hc => walk_at "my_nn"); (case hd => walk_at "my_nn"); (case he => walk_at "my_nn"); (case hf => walk_at "my_nn"); (case hg => walk_at "my_nn"); (case hh => walk_at "my_nn"); (case k1 => k_asm); (case k2 => k_asm); (case k3 => k_asm); (case k4 => k_asm); (case k5 => k_asm); (case k6 => first | assumption | exact rfl); (case k7 => walk_at "my_room"); (case k8 => walk_at "my_units"); k_whole); intro v9 h9 tk9 P9 F9 N9; obtain ⟨t9, e9⟩ := P9; subst e9; (try dsimp only); (try k_fold)))
section
def clampI (d : Int) : Int := if d < 302400 then 302400 else if 4838400 < d then 4838400 else d
theorem clamp_eq (d : Int) : (if 1209600 * 4 < (if 1209600 / 4 > d then 1209600 / 4 else d) then 1209600 * 4 else if 1209600 / 4 > d then 1209600 / 4 else d) = clampI d := by
  unfold clampI
  omega
def nextW (v d : Int) : Int := if valI 29 0 255 255 < v * clampI d % 115792089237316195423570985008687907853269984665640564039457584007913129639936 / 1209600 then valI 29 0 255 255 else v * clampI d % 115792089237316195423570985008687907853269984665640564039457584007913129639936 / 1209600
theorem form_congr {W W' : Int} (e : W = W') : [fE W, fS W / 65536 % 256, fS W / 256 % 256, fS W % 256] = [fE W', fS W' / 65536 % 256, fS W' / 256 % 256, fS W' % 256] := by rw [e]
theorem next_tells {bs : Array UInt8} {t t1 t2 : Tok} {b0 b1 b2 b3 first last : Int} (hs : KBw.bInts bs = [b0, b1, b2, b3]) (hv : valI b0 b1 b2 b3 < 115792089237316195423570985008687907853269984665640564039457584007913129639936) (hf0 : 0 ≤ first) (hf1 : first < 18446744073709551616) (hg0 : -1000 ≤ last) (hg1 : last < 18446744073709551616) :
    Tells 14 116 [.bytes bs t, .int first t1, .int last t2] (IsB [fE (nextW (valI b0 b1 b2 b3) (last - first)), fS (nextW (valI b0 b1 b2 b3) (last - first)) / 65536 % 256, fS (nextW (valI b0 b1 b2 b3) (last - first)) / 256 % 256, fS (nextW (valI b0 b1 b2 b3) (last - first)) % 256]) := by
  have hM : KBw.bInts #[29, 0, 255, 255] = [29, 0, 255, 255] := rfl
  have hvM : valI 29 0 255 255 < 115792089237316195423570985008687907853269984665640564039457584007913129639936 := by decide +kernel
  unfold Tells
  k_fill
  intro w mean mg mb news dp un gd cn cs a ccd cl outer A₀ base h₀ L m s Q E B F X N T hk hdp hun hret
  refine wpAny_call ?_
  k_dflt (refine' code_def (binds := [(PySem.Str.ofString "bits", .bytes bs t), (PySem.Str.ofString "first_block_time", .int first t1), (PySem.Str.ofString "last_block_time", .int last t2), (PySem.Str.ofString "pow_limit_bits", .bytes #[29, 0, 255, 255] 288)]) ?k1 ?k2 ?k3 ?k4 ?k5 ?kA ?kF ?kK ?k6 ?k7 ?k8 ?k9 ?kB ?_ ?c2 ?c3 ?c4 ?c5; (case kA => exact rfl); (case kF => exact rfl); (case kK => first | assumption | exact rfl); (case k1 => k_asm); (case k2 => k_asm); (case k3 => k_asm); (case k4 => k_asm); (case k5 => k_asm); (case k6 => k_is); (case k7 => k_is); (case k8 => k_room); (case k9 => (intro M9 A9 E9 Q9 hq9; exact (Looks.of_peek (Frag.In.keeps X (Fr.keep F)) (by first | (with_unfolding_all rfl) | kernel_rfl)).here hq9)); (case c5 => decide); (case kB => exact locs rfl); (case c2 => exact rfl); (case c3 => exact rfl); (case c4 => exact rfl); k_whole; intro g' L' h' FG' F' N' B' X' T'; (try dsimp only); (try k_lift B'); (try k_fold))
  k_steps
  all_goals (walk_at "my_ret")
  all_goals (refine ⟨_, _, rfl, ?_⟩; refine' Eq.trans ?zza (form_congr ?zzb); (case zza => assumption))
  all_goals (rw [clamp_eq]; rfl)
end
local macro_rules | `(tactic| walk_at "call ref") => `(tactic| (k_here; (with_reducible show wpAny _ _ (call (Value.ref 116) _) _ _ _); k_dflt (refine' Tells.use (next_tells ?ha ?hb ?hc ?hd ?he ?hf) ?k1 ?k2 ?k3 ?k4 ?k5 ?k6 ?k7 ?k8 ?_; (case ha => assumption); (case hb => walk_at "my_nn"); (case hc => walk_at "my_nn"); (case hd => walk_at "my_nn"); (case he => walk_at "my_nn"); (case hf => walk_at "my_nn"); (case k1 => k_asm); (case k2 => k_asm); (case k3 => k_asm); (case k4 => k_asm); (case k5 => k_asm); (case k6 => first | assumption | exact rfl); (case k7 => walk_at "my_room"); (case k8 => walk_at "my_units"); k_whole); intro v9 h9 tk9 P9 F9 N9; obtain ⟨bB, t9, e9, hbB⟩ := P9; subst e9; (try dsimp only); (try k_fold)))
section
theorem loop_lt {V : Int} (h0 : 0 ≤ V) (h1 : V < 115792089237316195423570985008687907853269984665640564039457584007913129639936) {i : Nat} (h : 8388608 ≤ V / 256 ^ i) : i < 32 := by
  by_cases hi : i < 32
  · exact hi
  · have h2 := div_anti h0 (show 32 ≤ i by omega)
    have e : (256 : Int) ^ 32 = 115792089237316195423570985008687907853269984665640564039457584007913129639936 := by decide +kernel
    have h3 : V / 256 ^ 32 = 0 := Int.ediv_eq_zero_of_lt h0 (by rw [e]; exact h1)
    omega
def ShiftEnd (h₀ : Heap) (L : Addr) (s : Shared) (m : PySem.Str → Option Value) (news : List (Addr × Obj)) (V j : Int) (f : Flow) (s₃ : Shared) : Prop :=
  f = .next ∧ ∃ (h' : Heap) (tk : Nat) (t : Tok), s₃ = { s with heap := h', toks := tk } ∧ Fr h₀ L h' (fun y => if y = PySem.Str.ofString "shift" then some (.int (j + 1) t) else m y) ∧ News h₀ L h' news ∧ 8388608 ≤ V / 256 ^ j.toNat
theorem ShiftEnd.of {h₀ : Heap} {L : Addr} {s : Shared} {m m₂ : PySem.Str → Option Value} {news : List (Addr × Obj)} {V j : Int} {h' : Heap} {tk : Nat} {t : Tok} (F : Fr h₀ L h' m₂) (N : News h₀ L h' news) (e1 : m₂ (PySem.Str.ofString "shift") = some (.int (j + 1) t)) (e2 : ∀ y, ¬ y = PySem.Str.ofString "shift" → m₂ y = m y) (h : 8388608 ≤ V / 256 ^ j.toNat) :
    ShiftEnd h₀ L s m news V j .next { s with heap := h', toks := tk } := by
  have e : m₂ = fun y => if y = PySem.Str.ofString "shift" then some (.int (j + 1) t) else m y := by
    funext y
    by_cases hy : y = PySem.Str.ofString "shift"
    · rw [if_pos hy, hy, e1]
    · rw [if_neg hy, e2 y hy]
  subst e
  exact ⟨rfl, h', tk, t, rfl, F, N, h⟩
theorem while_shift {prog : Program} {w : World} {A : Around} {E : Value → Shared → Prop} {Q : Flow → Shared → Prop} {s : Shared} {env : Env} {h₀ : Heap} {L : Addr} {test : PySem.Expr} {body : List Stmt} {pos : Pos} {m : PySem.Str → Option Value} {news : List (Addr × Obj)} {V : Int} {t₀ : Tok}
    (F : Fr h₀ L s.heap m) (N : News h₀ L s.heap news) (hm : m (PySem.Str.ofString "shift") = some (.int 0 t₀)) (hV0 : 0 ≤ V) (hV1 : V < 115792089237316195423570985008687907853269984665640564039457584007913129639936)
    (turn : ∀ (j : Int) (t : Tok) (h₁ : Heap) (tk₁ : Nat), 0 ≤ j → j < 40 → (j.toNat = 0 ∨ 8388608 ≤ V / 256 ^ (j.toNat - 1)) → 0 ≤ V / 256 ^ j.toNat → Fr h₀ L h₁ (fun y => if y = PySem.Str.ofString "shift" then some (.int j t) else m y) → News h₀ L h₁ news →
      wpAny (model prog w) A (isTrue test env (eval test env)) (fun b s₂ =>
        if b = true then wpAny (model prog w) A (execs body env) (ShiftEnd h₀ L s m news V j) E s₂ else Q .next s₂) E { s with heap := h₁, toks := tk₁ })
    (hE : PassesOwn (model prog w) A env E := by passes_own) :
    wpAny (model prog w) A (exec (.While test body [] pos) env) Q E s := by
  refine While_inv (fun n m₁ news₁ => ∃ (j : Int) (t : Tok), (n : Int) = 40 - j ∧ 0 ≤ j ∧ j < 40 ∧ (j.toNat = 0 ∨ 8388608 ≤ V / 256 ^ (j.toNat - 1)) ∧ m₁ = (fun y => if y = PySem.Str.ofString "shift" then some (.int j t) else m y) ∧ news₁ = news) (n₀ := 40) F N ?_ ?_ hE
  · refine ⟨0, t₀, by omega, by omega, by omega, .inl rfl, ?_, rfl⟩
    funext y
    by_cases hy : y = PySem.Str.ofString "shift"
    · rw [if_pos hy, hy, hm]
    · rw [if_neg hy]
  · rintro n m₁ news₁ h₁ tk₁ F₁ N₁ ⟨j, t, hn, hj0, hj1, hi, rfl, rfl⟩
    refine wpAny_mono (turn j t h₁ tk₁ hj0 hj1 hi (Int.ediv_nonneg hV0 (Int.le_of_lt (p256_pos _))) F₁ N₁) (fun b s₂ h₂ => ?_) fun _ _ x => x
    cases b with
    | false => exact h₂
    | true =>
      refine wpAny_mono h₂ (fun f s₃ h₃ => ?_) fun _ _ x => x
      obtain ⟨rfl, h', tk, t', rfl, F₂, N₂, hv⟩ := h₃
      have hlt := loop_lt hV0 hV1 hv
      refine WhileStep.intro (n' := (40 - (j + 1)).toNat) F₂ N₂ (by omega) ⟨j + 1, t', by omega, by omega, by omega, .inr ?_, rfl, rfl⟩
      have e : (j + 1).toNat - 1 = j.toNat := by omega
      rw [e]
      exact hv
local macro_rules | `(tactic| walk_at "exec While Compare cons nil") => `(tactic| (k_here; (rename Fr _ _ _ _ => lF'); (rename News _ _ _ _ => lN'); (with_unfolding_all refine while_shift lF' lN' (by rfl) (by assumption) (by assumption) ?_); (intro j t' h' tk' hj0 hj1 hji hjn F' N')))
theorem lround_tells {V : Int} {t1 : Tok} (hV0 : 0 ≤ V) (hV1 : V < 115792089237316195423570985008687907853269984665640564039457584007913129639936) :
    Tells 3 199 [.int V t1] (IsI (rI V)) := by
  unfold Tells
  k_fill
  intro w mean mg mb news dp un gd cn cs a ccd cl outer A₀ base h₀ L m s Q E B F X N T hk hdp hun hret
  refine wpAny_call ?_
  k_dflt (refine' code_def ?k1 ?k2 ?k3 ?k4 ?k5 ?kA ?kF ?kK ?k6 ?k7 ?k8 ?k9 ?kB ?_ ?c2 ?c3 ?c4 ?c5; (case kA => exact rfl); (case kF => exact rfl); (case kK => first | assumption | exact rfl); (case k1 => k_asm); (case k2 => k_asm); (case k3 => k_asm); (case k4 => k_asm); (case k5 => k_asm); (case k6 => k_is); (case k7 => k_is); (case k8 => k_room); (case k9 => first | exact BindsTo.of_eq rfl | exact binds_K (by k_in) rfl (by k_is) rfl rfl rfl); (case c5 => decide); (case kB => exact locs rfl); (case c2 => exact rfl); (case c3 => exact rfl); (case c4 => exact rfl); k_whole; intro g' L' h' FG' F' N' B' X' T'; (try dsimp only); (try k_lift B'); (try k_fold))
  k_steps
  · refine ShiftEnd.of (s := ⟨_, _, _, _, _⟩) (by k_asm) (by k_asm) (by rfl) ?_ (by l_bnd)
    intro y hy
    simp only [if_neg hy]
  all_goals (walk_at "my_ret")
  all_goals (exact isI_of (rI_loop hV0 (by omega) (by assumption)))
end
local macro_rules | `(tactic| walk_at "call ref") => `(tactic| (k_here; (with_reducible show wpAny _ _ (call (Value.ref 199) _) _ _ _); k_dflt (refine' Tells.use (lround_tells ?ha ?hb) ?k1 ?k2 ?k3 ?k4 ?k5 ?k6 ?k7 ?k8 ?_; (case ha => walk_at "my_nn"); (case hb => walk_at "my_nn"); (case k1 => k_asm); (case k2 => k_asm); (case k3 => k_asm); (case k4 => k_asm); (case k5 => k_asm); (case k6 => first | assumption | exact rfl); (case k7 => walk_at "my_room"); (case k8 => walk_at "my_units"); k_whole); intro v9 h9 tk9 P9 F9 N9; obtain ⟨t9, e9⟩ := P9; subst e9; (try dsimp only); (try k_fold)))
section
theorem getD_P {P : Int → Prop} {l : List Int} {i : Nat} {d : Int} (h : ∀ x ∈ l, P x) (hi : i < l.length) : P (l.getD i d) := by
  have e : l.getD i d = l[i] := by simp [List.getD, hi]
  rw [e]
  exact h _ (List.getElem_mem hi)
theorem lperiod_tells {n : Int} {t1 : Tok} (h0 : 0 ≤ n) (h1 : n < 18446744073709551616) :
    Tells 20 241 [.int n t1] (IsBool true) := by
  have hS : 0 < ([600, 150, 1, 1 + n % 1000] : List Int).getD (n / 7 % 4).toNat 0 ∧ ([600, 150, 1, 1 + n % 1000] : List Int).getD (n / 7 % 4).toNat 0 < 18446744073709551616 := by
    refine getD_P (P := fun x => 0 < x ∧ x < 18446744073709551616) ?_ (by simp only [List.length_cons, List.length_nil]; omega)
    intro x hx
    simp only [List.mem_cons, List.not_mem_nil, or_false] at hx
    omega
  unfold Tells
  k_fill
  intro w mean mg mb news dp un gd cn cs a ccd cl outer A₀ base h₀ L m s Q E B F X N T hk hdp hun hret
  refine wpAny_call ?_
  k_dflt (refine' code_def ?k1 ?k2 ?k3 ?k4 ?k5 ?kA ?kF ?kK ?k6 ?k7 ?k8 ?k9 ?kB ?_ ?c2 ?c3 ?c4 ?c5; (case kA => exact rfl); (case kF => exact rfl); (case kK => first | assumption | exact rfl); (case k1 => k_asm); (case k2 => k_asm); (case k3 => k_asm); (case k4 => k_asm); (case k5 => k_asm); (case k6 => k_is); (case k7 => k_is); (case k8 => k_room); (case k9 => first | exact BindsTo.of_eq rfl | exact binds_K (by k_in) rfl (by k_is) rfl rfl rfl); (case c5 => decide); (case kB => exact locs rfl); (case c2 => exact rfl); (case c3 => exact rfl); (case c4 => exact rfl); k_whole; intro g' L' h' FG' F' N' B' X' T'; (try dsimp only); (try k_lift B'); (try k_fold))
  k_steps
  all_goals (walk_at "my_ret")
  all_goals (refine congrArg Value.bool ?_; exact beq_self_eq_true _)
end
local macro_rules | `(tactic| walk_at "call ref") => `(tactic| (k_here; (with_reducible show wpAny _ _ (call (Value.ref 241) _) _ _ _); k_dflt (refine' Tells.use (lperiod_tells ?ha ?hb) ?k1 ?k2 ?k3 ?k4 ?k5 ?k6 ?k7 ?k8 ?_; (case ha => walk_at "my_nn"); (case hb => walk_at "my_nn"); (case k1 => k_asm); (case k2 => k_asm); (case k3 => k_asm); (case k4 => k_asm); (case k5 => k_asm); (case k6 => first | assumption | exact rfl); (case k7 => walk_at "my_room"); (case k8 => walk_at "my_units"); k_whole); intro v9 h9 tk9 P9 F9 N9; subst P9; (try dsimp only); (try k_fold)))
section
theorem lform_tells {n : Int} {t1 : Tok} (h0 : 0 ≤ n) :
    Tells 3 206 [.int n t1] (fun v => ∃ b t b0 b1 b2 b3, v = .bytes b t ∧ KBw.bInts b = [b0, b1, b2, b3]) := by
  have hS : 0 ≤ ([0, 1, 2, 3, 4, 5, 29, 32, 33, 34, 255, n / 11 % 256] : List Int).getD (n % 12).toNat 0 ∧ ([0, 1, 2, 3, 4, 5, 29, 32, 33, 34, 255, n / 11 % 256] : List Int).getD (n % 12).toNat 0 < 256 := by
    refine getD_P (P := fun x => 0 ≤ x ∧ x < 256) ?_ (by simp only [List.length_cons, List.length_nil]; omega)
    intro x hx
    simp only [List.mem_cons, List.not_mem_nil, or_false] at hx
    omega
  have hT : 0 ≤ ([0, 1, 127, 128, 255, 32768, 8388607, 8388608, 8388609, 16777215, n / 132 % 16777216] : List Int).getD (n / 12 % 11).toNat 0 ∧ ([0, 1, 127, 128, 255, 32768, 8388607, 8388608, 8388609, 16777215, n / 132 % 16777216] : List Int).getD (n / 12 % 11).toNat 0 < 16777216 := by
    refine getD_P (P := fun x => 0 ≤ x ∧ x < 16777216) ?_ (by simp only [List.length_cons, List.length_nil]; omega)
    intro x hx
    simp only [List.mem_cons, List.not_mem_nil, or_false] at hx
    omega
  unfold Tells
  k_fill
  intro w mean mg mb news dp un gd cn cs a ccd cl outer A₀ base h₀ L m s Q E B F X N T hk hdp hun hret
  refine wpAny_call ?_
  k_dflt (refine' code_def ?k1 ?k2 ?k3 ?k4 ?k5 ?kA ?kF ?kK ?k6 ?k7 ?k8 ?k9 ?kB ?_ ?c2 ?c3 ?c4 ?c5; (case kA => exact rfl); (case kF => exact rfl); (case kK => first | assumption | exact rfl); (case k1 => k_asm); (case k2 => k_asm); (case k3 => k_asm); (case k4 => k_asm); (case k5 => k_asm); (case k6 => k_is); (case k7 => k_is); (case k8 => k_room); (case k9 => first | exact BindsTo.of_eq rfl | exact binds_K (by k_in) rfl (by k_is) rfl rfl rfl); (case c5 => decide); (case kB => exact locs rfl); (case c2 => exact rfl); (case c3 => exact rfl); (case c4 => exact rfl); k_whole; intro g' L' h' FG' F' N' B' X' T'; (try dsimp only); (try k_lift B'); (try k_fold))
  k_steps
  all_goals (walk_at "my_ret")
  all_goals (exact ⟨_, _, _, _, _, _, rfl, by assumption⟩)
end
local macro_rules | `(tactic| walk_at "call ref") => `(tactic| (k_here; (with_reducible show wpAny _ _ (call (Value.ref 206) _) _ _ _); k_dflt (refine' Tells.use (lform_tells ?ha) ?k1 ?k2 ?k3 ?k4 ?k5 ?k6 ?k7 ?k8 ?_; (case ha => walk_at "my_nn"); (case k1 => k_asm); (case k2 => k_asm); (case k3 => k_asm); (case k4 => k_asm); (case k5 => k_asm); (case k6 => first | assumption | exact rfl); (case k7 => walk_at "my_room"); (case k8 => walk_at "my_units"); k_whole); intro v9 h9 tk9 P9 F9 N9; obtain ⟨bB, t9, c0, c1, c2, c3, e9, hbB⟩ := P9; subst e9; (have hb4 := ints4 hbB); (by_cases hvM : valI c0 c1 c2 c3 < 115792089237316195423570985008687907853269984665640564039457584007913129639936) <;> ((try dsimp only); (try k_fold))))
section
theorem fin_lt {L D : Int} (h : D < L) : (rI (if L < D then L else D) == rI D) = true := by
  rw [if_neg (by omega)]
  exact beq_self_eq_true _
theorem fin_ge {L D : Int} (h : ¬ D < L) : (rI (if L < D then L else D) == rI L) = true := by
  have e : (if L < D then L else D) = L := by split <;> omega
  rw [e]
  exact beq_self_eq_true _
theorem mul_big {prog : Program} {w : World} {A : Around} {E : Value → Shared → Prop} {s : Shared} {Q : Value → Shared → Prop} {t u : Tok} {x y : Int} (h0 : 0 ≤ x) (h1 : x < 115792089237316195423570985008687907853269984665640564039457584007913129639936) (g0 : 0 ≤ y) (g1 : y < 18446744073709551616)
    (h : Q (.int (x * y) s.toks) { s with toks := s.toks + 1 }) : wpAny (model prog w) A (binaryOp .Mult (.int x t) (.int y u)) Q E s :=
  mul_bits (i := 256) (j := 64) (by have e : (2 : Nat) ^ 256 = 115792089237316195423570985008687907853269984665640564039457584007913129639936 := by decide +kernel
                                    omega) (by have e : (2 : Nat) ^ 64 = 18446744073709551616 := by decide
                                               omega) (by decide) h
local macro_rules | `(tactic| walk_at "binaryOp Mult int int") => `(tactic| (k_here; (with_reducible refine' mul_big ?p1 ?p2 ?p3 ?p4 ?_); (case p1 => walk_at "my_nn"); (case p2 => walk_at "my_nn"); (case p3 => walk_at "my_nn"); (case p4 => walk_at "my_nn")))
theorem lbounds_tells {n o : Int} {t1 t2 : Tok} (h0 : 0 ≤ n) (h1 : n < 18446744073709551616) (g0 : 0 ≤ o) (g1 : o < 115792089237316195423570985008687907853269984665640564039457584007913129639936) :
    Tells 20 227 [.int n t1, .int o t2] (IsBool true) := by
  have hO : 0 ≤ ([o % 115792089237316195423570985008687907853269984665640564039457584007913129639936, o % 26959946667150639794667015087019630673637144422540572481103610249216, 115792089237316195423570985008687907853269984665640564039457584007913129639936 - 1 - o % 9, 1 + o % 1000, 27606985387162255149739023449108101809804435888681546220650096895197184 + o % 7] : List Int).getD (n % 5).toNat 0 ∧ ([o % 115792089237316195423570985008687907853269984665640564039457584007913129639936, o % 26959946667150639794667015087019630673637144422540572481103610249216, 115792089237316195423570985008687907853269984665640564039457584007913129639936 - 1 - o % 9, 1 + o % 1000, 27606985387162255149739023449108101809804435888681546220650096895197184 + o % 7] : List Int).getD (n % 5).toNat 0 < 115792089237316195423570985008687907853269984665640564039457584007913129639936 := by
    refine getD_P (P := fun x => 0 ≤ x ∧ x < 115792089237316195423570985008687907853269984665640564039457584007913129639936) ?_ (by simp only [List.length_cons, List.length_nil]; omega)
    intro x hx
    simp only [List.mem_cons, List.not_mem_nil, or_false] at hx
    omega
  have hP : 0 ≤ ([302400, 4838400, 1209600, n / 5 % 5000000, 1] : List Int).getD (n / 25 % 5).toNat 0 ∧ ([302400, 4838400, 1209600, n / 5 % 5000000, 1] : List Int).getD (n / 25 % 5).toNat 0 < 18446744073709551616 := by
    refine getD_P (P := fun x => 0 ≤ x ∧ x < 18446744073709551616) ?_ (by simp only [List.length_cons, List.length_nil]; omega)
    intro x hx
    simp only [List.mem_cons, List.not_mem_nil, or_false] at hx
    omega
  have hT : 0 < ([1209600, 86400, 1 + n / 125 % 100000] : List Int).getD (n / 125 % 3).toNat 0 ∧ ([1209600, 86400, 1 + n / 125 % 100000] : List Int).getD (n / 125 % 3).toNat 0 < 18446744073709551616 := by
    refine getD_P (P := fun x => 0 < x ∧ x < 18446744073709551616) ?_ (by simp only [List.length_cons, List.length_nil]; omega)
    intro x hx
    simp only [List.mem_cons, List.not_mem_nil, or_false] at hx
    omega
  have hL : 0 ≤ ([26959946667150639794667015087019630673637144422540572481103610249216 - 1, 57896044618658097711785492504343953926634992332820282019728792003956564819968, o % 1809251394333065553493296640760748560207343510400633813116524750123642650624, 115792089237316195423570985008687907853269984665640564039457584007913129639936 - 1] : List Int).getD (n / 375 % 4).toNat 0 ∧ ([26959946667150639794667015087019630673637144422540572481103610249216 - 1, 57896044618658097711785492504343953926634992332820282019728792003956564819968, o % 1809251394333065553493296640760748560207343510400633813116524750123642650624, 115792089237316195423570985008687907853269984665640564039457584007913129639936 - 1] : List Int).getD (n / 375 % 4).toNat 0 < 115792089237316195423570985008687907853269984665640564039457584007913129639936 := by
    refine getD_P (P := fun x => 0 ≤ x ∧ x < 115792089237316195423570985008687907853269984665640564039457584007913129639936) ?_ (by simp only [List.length_cons, List.length_nil]; omega)
    intro x hx
    simp only [List.mem_cons, List.not_mem_nil, or_false] at hx
    omega
  have hX : ∀ O P T : Int, 0 < T → 0 ≤ O * P % 115792089237316195423570985008687907853269984665640564039457584007913129639936 / T ∧ O * P % 115792089237316195423570985008687907853269984665640564039457584007913129639936 / T < 115792089237316195423570985008687907853269984665640564039457584007913129639936 := fun O P T hT => quot_bounds (Int.emod_nonneg _ (by decide)) (Int.emod_lt_of_pos _ (by decide)) hT
  have hq := hX (([o % 115792089237316195423570985008687907853269984665640564039457584007913129639936, o % 26959946667150639794667015087019630673637144422540572481103610249216, 115792089237316195423570985008687907853269984665640564039457584007913129639936 - 1 - o % 9, 1 + o % 1000, 27606985387162255149739023449108101809804435888681546220650096895197184 + o % 7] : List Int).getD (n % 5).toNat 0) (([302400, 4838400, 1209600, n / 5 % 5000000, 1] : List Int).getD (n / 25 % 5).toNat 0) (([1209600, 86400, 1 + n / 125 % 100000] : List Int).getD (n / 125 % 3).toNat 0) hT.1
  clear hX
  unfold Tells
  k_fill
  intro w mean mg mb news dp un gd cn cs a ccd cl outer A₀ base h₀ L m s Q E B F X N T hk hdp hun hret
  refine wpAny_call ?_
  k_dflt (refine' code_def ?k1 ?k2 ?k3 ?k4 ?k5 ?kA ?kF ?kK ?k6 ?k7 ?k8 ?k9 ?kB ?_ ?c2 ?c3 ?c4 ?c5; (case kA => exact rfl); (case kF => exact rfl); (case kK => first | assumption | exact rfl); (case k1 => k_asm); (case k2 => k_asm); (case k3 => k_asm); (case k4 => k_asm); (case k5 => k_asm); (case k6 => k_is); (case k7 => k_is); (case k8 => k_room); (case k9 => first | exact BindsTo.of_eq rfl | exact binds_K (by k_in) rfl (by k_is) rfl rfl rfl); (case c5 => decide); (case kB => exact locs rfl); (case c2 => exact rfl); (case c3 => exact rfl); (case c4 => exact rfl); k_whole; intro g' L' h' FG' F' N' B' X' T'; (try dsimp only); (try k_lift B'); (try k_fold))
  k_steps
  all_goals (walk_at "my_ret")
  all_goals (refine congrArg Value.bool ?_; first | exact fin_lt (by assumption) | exact fin_ge (by assumption))
end
local macro_rules | `(tactic| walk_at "call ref") => `(tactic| (k_here; (with_reducible show wpAny _ _ (call (Value.ref 227) _) _ _ _); k_dflt (refine' Tells.use (lbounds_tells ?ha ?hb ?hc ?hd) ?k1 ?k2 ?k3 ?k4 ?k5 ?k6 ?k7 ?k8 ?_; (case ha => walk_at "my_nn"); (case hb => walk_at "my_nn"); (case hc => walk_at "my_nn"); (case hd => walk_at "my_nn"); (case k1 => k_asm); (case k2 => k_asm); (case k3 => k_asm); (case k4 => k_asm); (case k5 => k_asm); (case k6 => first | assumption | exact rfl); (case k7 => walk_at "my_room"); (case k8 => walk_at "my_units"); k_whole); intro v9 h9 tk9 P9 F9 N9; subst P9; (try dsimp only); (try k_fold)))
section
local macro_rules | `(tactic| walk_at "getMethod bytes") => `(tactic| (k_here; (with_reducible refine hex_method ?_)))
local macro_rules | `(tactic| walk_at "call builtin:bytes.hex") => `(tactic| (k_here; (refine hex_call (by assumption) ?_); intro hxS hxT hxK hxL))
local macro_rules | `(tactic| walk_at "exec Raise some none") => `(tactic| (k_here; k_dflt (refine' Raise_own2 (mg := _) ?F ?g ?O PySem.F.excBase_Exception ?hB PySem.F.excBase_ValueError ?h ?_ ?a ?b ?c ?d ?e; (case F => k_asm); (case g => exact TopRead.g (by k_asm)); (case O => exact own_of_in (by k_asm) (by k_asm) (by k_is) (by k_exc)); (case hB => rfl); (case h => first | rfl | assumption); (case a => rfl); (case b => rfl); (case c => rfl); (case d => rfl); (case e => decide); k_whole)))
/-- what a def tells that may catch what a callee raises: called from law's own frame -/
def TellsS (n : Nat) (f : Addr) (vs : List Value) (Post : Value → Prop) : Prop :=
  ∀ (w : World) (mean : ExcName → Option Value) (mg mb : Str → Option Value) (news : List (Addr × Obj)) (dp un : Nat) (gd : Option (List Code)) (cn : Str) (cs : Scope) (a : Addr) (ccd : Value)
    (A₀ : Around) (base h₀ : Heap) (L : Addr) (m : Str → Option Value) (s : Shared) (Q E : Value → Shared → Prop),
    Below A₀ base [] h₀ → Fr h₀ L s.heap m → (hd.heap_39 w.params).In h₀ → News h₀ L s.heap news →
    Top hd.view_39 (looseW hd.view_39 [Str.ofString "BTClibValueError", Str.ofString "BTClibTypeError", Str.ofString "bytes_from_octets", Str.ofString "next_bits", Str.ofString "ConsensusParams"]) mean mg mb h₀ →
    (hd.heap_39 w.params).In base →
    Top hd.view_39 (looseW hd.view_39 [Str.ofString "BTClibValueError", Str.ofString "BTClibTypeError", Str.ofString "bytes_from_octets", Str.ofString "next_bits", Str.ofString "ConsensusParams"]) mean mg mb base →
    cs.kind = .function → dp + n < 900 → un + 100 * n < 9000 →
    (∀ (v : Value) (h' : Heap) (tk' : Nat), Post v → Fr h₀ L h' m → News h₀ L h' news → Q v { s with heap := h', toks := tk' }) →
    wpAny (model PySem.Challenge.rw_fc5006_01.row.prog w) (ktrTop dp un gd cn cs L a ccd [] []) (call (.ref f) vs) Q E s
theorem TellsS.use {n : Nat} {f : Addr} {vs : List Value} {Post : Value → Prop} (C : TellsS n f vs Post) {w : World} {mean : ExcName → Option Value} {mg mb : Str → Option Value} {news : List (Addr × Obj)} {dp un : Nat} {gd : Option (List Code)} {cn : Str} {cs : Scope} {a : Addr} {ccd : Value}
    {A₀ : Around} {base h₀ : Heap} {L : Addr} {m : Str → Option Value} {s : Shared} {Q E : Value → Shared → Prop}
    (B : Below A₀ base [] h₀) (F : Fr h₀ L s.heap m) (X : (hd.heap_39 w.params).In h₀) (N : News h₀ L s.heap news)
    (T : Top hd.view_39 (looseW hd.view_39 [Str.ofString "BTClibValueError", Str.ofString "BTClibTypeError", Str.ofString "bytes_from_octets", Str.ofString "next_bits", Str.ofString "ConsensusParams"]) mean mg mb h₀)
    (XB : (hd.heap_39 w.params).In base)
    (TB : Top hd.view_39 (looseW hd.view_39 [Str.ofString "BTClibValueError", Str.ofString "BTClibTypeError", Str.ofString "bytes_from_octets", Str.ofString "next_bits", Str.ofString "ConsensusParams"]) mean mg mb base)
    (hk : cs.kind = .function) (hd : dp + n < 900) (hu : un + 100 * n < 9000)
    (k : ∀ (v : Value) (h' : Heap) (tk' : Nat), Post v → Fr h₀ L h' m → News h₀ L h' news → Q v { s with heap := h', toks := tk' }) :
    wpAny (model PySem.Challenge.rw_fc5006_01.row.prog w) (ktrTop dp un gd cn cs L a ccd [] []) (call (.ref f) vs) Q E s :=
  C _ _ _ _ _ _ _ _ _ _ _ _ _ _ _ _ _ _ _ _ B F X N T XB TB hk hd hu k
theorem bInts_inj {b c : Array UInt8} {ks : List Int} (hb : KBw.bInts b = ks) (hc : KBw.bInts c = ks) : b.toList = c.toList := by
  have key : ∀ (l r : List UInt8), l.map (fun c => ((c.toNat : Nat) : Int)) = r.map (fun c => ((c.toNat : Nat) : Int)) → l = r := by
    intro l
    induction l with
    | nil =>
      intro r h
      cases r with
      | nil => rfl
      | cons x r => simp at h
    | cons x l ih =>
      intro r h
      cases r with
      | nil => simp at h
      | cons y r =>
        rw [List.map_cons, List.map_cons] at h
        injection h with h1 h2
        have e : x = y := UInt8.toNat_inj.mp (by omega)
        rw [e, ih r h2]
  exact key _ _ (hb.trans hc.symm)
theorem end_ne {V : Int} {v : Value} (h : V ≠ V) : IsBool true v := absurd rfl h
theorem end_bytes {b c : Array UInt8} {ks : List Int} {v : Value} (h : (b.toList != c.toList) = true) (hb : KBw.bInts b = ks) (hc : KBw.bInts c = ks) : IsBool true v := by
  rw [bInts_inj hb hc, bne_self_eq_false] at h
  cases h
theorem end_sign {c V : Int} {v : Value} (hp : 128 ≤ c) (h : ((decide (128 ≤ c) && decide (V ≠ 0)) != (V != 0)) = true) : IsBool true v := by
  exfalso
  rw [decide_eq_true hp, Bool.true_and] at h
  by_cases hz : V = 0
  · subst hz; simp at h
  · rw [decide_eq_true hz] at h
    simp [hz] at h
theorem end_nosign {c V : Int} {v : Value} (hp : ¬ 128 ≤ c) (h : ((decide (128 ≤ c) && decide (V ≠ 0)) != decide (128 ≤ c)) = true) : IsBool true v := by
  rw [decide_eq_false hp, Bool.false_and] at h
  cases h
theorem end_zero {V : Int} (h : V = 0) : IsBool true (.bool (V == 0)) := by
  subst h
  rfl
theorem end_some {f : Int} (h : f ≠ 0) : IsBool true (.bool (f != 0)) := congrArg Value.bool (by simpa using h)
theorem end_full {V : Int} (h0 : 0 ≤ V) (h1 : V ≠ 0) (h2 : fS V / 65536 % 256 = 0) : IsBool true (.bool (decide (128 ≤ fS V / 256 % 256))) :=
  congrArg Value.bool (decide_eq_true ((form_full h0 h1).resolve_left fun h => h h2))
theorem end_top {V : Int} (h0 : 0 ≤ V) : IsBool true (.bool (decide (fS V / 65536 % 256 < 128))) := congrArg Value.bool (decide_eq_true (form_top h0))
theorem end_val {c0 c1 c2 c3 : Int} : IsBool true (.bool (valI (fE (valI c0 c1 c2 c3)) (fS (valI c0 c1 c2 c3) / 65536 % 256) (fS (valI c0 c1 c2 c3) / 256 % 256) (fS (valI c0 c1 c2 c3) % 256) == valI c0 c1 c2 c3)) := by
  refine congrArg Value.bool ?_
  have e : valI (fE (valI c0 c1 c2 c3)) (fS (valI c0 c1 c2 c3) / 65536 % 256) (fS (valI c0 c1 c2 c3) / 256 % 256) (fS (valI c0 c1 c2 c3) % 256) = valI c0 c1 c2 c3 := rI_val
  rw [e]
  exact beq_self_eq_true _
theorem lforms_tells {n : Int} {t1 : Tok} (hn0 : 0 ≤ n) : TellsS 30 220 [.int n t1] (IsBool true) := by
  unfold TellsS
  k_fill
  intro w mean mg mb news dp un gd cn cs a ccd A₀ base h₀ L m s Q E B F X N T XB TB hk hdp hun hret
  refine wpAny_call ?_
  k_dflt (refine' code_defS0 ?k1 ?k2 ?k3 ?k4 ?k5 ?kA ?k6 ?k7 ?k8 ?k9 ?kB ?_ ?cK ?c2 ?c3 ?c4 ?c5; (case kA => exact rfl); (case k2 => k_asm); (case k1 => k_asm); (case k3 => k_asm); (case k4 => k_asm); (case k5 => k_asm); (case k6 => k_is); (case k7 => k_is); (case k8 => k_room); (case k9 => exact BindsTo.of_eq rfl); (case kB => exact locs rfl); (case cK => assumption); (case c2 => exact rfl); (case c3 => exact rfl); (case c4 => exact rfl); (case c5 => decide); k_whole; intro g' L' h' FG' F' N' B' X' T' D'; (try dsimp only); (try k_lift B'); (try k_fold))
  k_steps
  all_goals (walk_at "my_ret")
  all_goals first
    | exact rfl
    | exact end_ne (by assumption)
    | exact end_bytes (by assumption) (by assumption) (by assumption)
    | exact end_sign (by assumption) (by assumption)
    | exact end_nosign (by assumption) (by assumption)
    | exact end_zero (by assumption)
    | exact end_some (by assumption)
    | exact end_full (by assumption) (by assumption) (by assumption)
    | exact end_top (by assumption)
    | exact end_val
end
local macro_rules | `(tactic| walk_at "getMethod bytes") => `(tactic| (k_here; (with_reducible refine hex_method ?_)))
local macro_rules | `(tactic| walk_at "call builtin:bytes.hex") => `(tactic| (k_here; (refine hex_call (by assumption) ?_); intro hxS hxT hxK hxL))
local macro_rules | `(tactic| walk_at "exec Raise some none") => `(tactic| (k_here; k_dflt (refine' Raise_own2 (mg := _) ?F ?g ?O PySem.F.excBase_Exception ?hB PySem.F.excBase_ValueError ?h ?_ ?a ?b ?c ?d ?e; (case F => k_asm); (case g => exact TopRead.g (by k_asm)); (case O => exact own_of_in (by k_asm) (by k_asm) (by k_is) (by k_exc)); (case hB => rfl); (case h => first | rfl | assumption); (case a => rfl); (case b => rfl); (case c => rfl); (case d => rfl); (case e => decide); k_whole)))
local macro_rules | `(tactic| walk_at "call ref") => `(tactic| (k_here; (with_reducible show wpAny _ _ (call (Value.ref 220) _) _ _ _); k_dflt (refine' TellsS.use (lforms_tells ?ha) ?k1 ?k2 ?k3 ?k4 ?k5 ?kX ?kT ?k6 ?k7 ?k8 ?_; (case ha => walk_at "my_nn"); (case k1 => k_asm); (case k2 => k_asm); (case k3 => k_asm); (case k4 => k_asm); (case k5 => k_asm); (case kX => assumption); (case kT => assumption); (case k6 => first | assumption | exact rfl); (case k7 => walk_at "my_room"); (case k8 => walk_at "my_units"); k_whole); intro v9 h9 tk9 P9 F9 N9; subst P9; (try dsimp only); (try k_fold)))
section
theorem endB_lt {L D : Int} (h : D < L) : IsBool true (.bool (rI (if L < D then L else D) == rI D)) := congrArg Value.bool (fin_lt h)
theorem endB_ge {L D : Int} (h : ¬ D < L) : IsBool true (.bool (rI (if L < D then L else D) == rI L)) := congrArg Value.bool (fin_ge h)
theorem endA_lt {v d sp L : Int} (hc : clampI d = sp) (hL : L = valI 29 0 255 255) (h : v * sp % 115792089237316195423570985008687907853269984665640564039457584007913129639936 / 1209600 < L) :
    IsBool true (.bool (valI (fE (nextW v d)) (fS (nextW v d) / 65536 % 256) (fS (nextW v d) / 256 % 256) (fS (nextW v d) % 256) == rI (v * sp % 115792089237316195423570985008687907853269984665640564039457584007913129639936 / 1209600))) := by
  refine congrArg Value.bool ?_
  have e : nextW v d = v * sp % 115792089237316195423570985008687907853269984665640564039457584007913129639936 / 1209600 := by
    unfold nextW
    rw [hc, ← hL, if_neg (by omega)]
  rw [e]
  exact beq_self_eq_true _
theorem endA_ge {v d sp L : Int} (hc : clampI d = sp) (hL : L = valI 29 0 255 255) (h : ¬ v * sp % 115792089237316195423570985008687907853269984665640564039457584007913129639936 / 1209600 < L) :
    IsBool true (.bool (valI (fE (nextW v d)) (fS (nextW v d) / 65536 % 256) (fS (nextW v d) / 256 % 256) (fS (nextW v d) % 256) == rI L)) := by
  refine congrArg Value.bool ?_
  have e : nextW v d = L := by
    unfold nextW
    rw [hc, ← hL]
    split <;> omega
  rw [e]
  exact beq_self_eq_true _
theorem lnext_tells {n o : Int} {t1 t2 : Tok} (h0 : 0 ≤ n) (g0 : 0 ≤ o) : TellsS 30 234 [.int n t1, .int o t2] (IsBool true) := by
  have hS : -10 ≤ ([302399, 302400, 302401, 1209600, 4838399, 4838400, 4838401, -5, n / 7 % 6000000] : List Int).getD (n / 3 % 9).toNat 0 ∧ ([302399, 302400, 302401, 1209600, 4838399, 4838400, 4838401, -5, n / 7 % 6000000] : List Int).getD (n / 3 % 9).toNat 0 < 10000000 := by
    refine getD_P (P := fun x => -10 ≤ x ∧ x < 10000000) ?_ (by simp only [List.length_cons, List.length_nil]; omega)
    intro x hx
    simp only [List.mem_cons, List.not_mem_nil, or_false] at hx
    omega
  unfold TellsS
  k_fill
  intro w mean mg mb news dp un gd cn cs a ccd A₀ base h₀ L m s Q E B F X N T XB TB hk hdp hun hret
  refine wpAny_call ?_
  k_dflt (refine' code_defS0 ?k1 ?k2 ?k3 ?k4 ?k5 ?kA ?k6 ?k7 ?k8 ?k9 ?kB ?_ ?cK ?c2 ?c3 ?c4 ?c5; (case kA => exact rfl); (case k2 => k_asm); (case k1 => k_asm); (case k3 => k_asm); (case k4 => k_asm); (case k5 => k_asm); (case k6 => k_is); (case k7 => k_is); (case k8 => k_room); (case k9 => exact BindsTo.of_eq rfl); (case kB => exact locs rfl); (case cK => assumption); (case c2 => exact rfl); (case c3 => exact rfl); (case c4 => exact rfl); (case c5 => decide); k_whole; intro g' L' h' FG' F' N' B' X' T' D'; (try dsimp only); (try k_lift B'); (try k_fold))
  k_steps
  all_goals (walk_at "my_ret")
  all_goals first
    | with_reducible exact rfl
    | (with_reducible refine endB_lt ?_; with_reducible assumption)
    | (with_reducible refine endB_ge ?_; with_reducible assumption)
    | (with_reducible refine' endA_lt ?zc ?zl ?zh; (case zh => with_reducible assumption); (case zl => decide +kernel); (case zc => (unfold clampI; omega)))
    | (with_reducible refine' endA_ge ?zc ?zl ?zh; (case zh => with_reducible assumption); (case zl => decide +kernel); (case zc => (unfold clampI; omega)))
end
local macro_rules | `(tactic| walk_at "call ref") => `(tactic| (k_here; (with_reducible show wpAny _ _ (call (Value.ref 234) _) _ _ _); k_dflt (refine' TellsS.use (lnext_tells ?ha ?hb) ?k1 ?k2 ?k3 ?k4 ?k5 ?kX ?kT ?k6 ?k7 ?k8 ?_; (case ha => walk_at "my_nn"); (case hb => walk_at "my_nn"); (case k1 => k_asm); (case k2 => k_asm); (case k3 => k_asm); (case k4 => k_asm); (case k5 => k_asm); (case kX => assumption); (case kT => assumption); (case k6 => first | assumption | exact rfl); (case k7 => walk_at "my_room"); (case k8 => walk_at "my_units"); k_whole); intro v9 h9 tk9 P9 F9 N9; subst P9; (try dsimp only); (try k_fold)))
section
theorem item_any {prog : Program} {w : World} {A : Around} {E : Value → Shared → Prop} {s : Shared} {value slice : PySem.Expr} {l : Addr} {vs : List Value} {ns : List Int} {x : Int} {u : Tok} {Q : Value → Shared → Prop} (hl : s.heap.IsList l vs.toArray) (hi : IntsAre vs ns)
    (h0 : 0 < ns.length) (h1 : (ns.length : Int) ≤ 63) (h : ∀ z t, Q (.int z t) s)
    (hs : subscripted slice false (.ref l) (.int (x.fmod ns.length) u) = operate [.ref l, .int (x.fmod ns.length) u] (getItem (.ref l) (.int (x.fmod ns.length) u)) := by with_unfolding_all rfl) :
    wpAny (model prog w) A (subscriptTail value slice (.ref l) (.int (x.fmod ns.length) u)) Q E s := by
  have hp : (0 : Int) < (ns.length : Int) := by omega
  have e : x.fmod ns.length = x % ns.length := Int.fmod_eq_emod_of_nonneg x (by omega)
  have g0 : 0 ≤ x.fmod ns.length := by rw [e]; exact Int.emod_nonneg x (by omega)
  have g1 : x.fmod ns.length < ns.length := by rw [e]; exact Int.emod_lt_of_pos x hp
  exact item_list_intsR hl hi g0 g1 (by omega) (fun t => h _ t) hs
local macro_rules | `(tactic| walk_at "subscriptTail") => `(tactic| (k_here; (with_reducible show wpAny _ _ (subscriptTail _ _ (Value.ref _) (Value.int (Int.fmod _ _) _)) _ _ _); (refine' item_any ?zl ?zi ?z0 ?z1 ?_; (case zl => is_list); (case zi => assumption); (case z0 => omega); (case z1 => omega)); intro zz tz))
theorem law_holds : PySem.Challenge.rw_fc5006_01.Holds := hd (by
  k_go0
  (all_goals try k_fold)
  k_steps)
end
end Mine

theorem PySem.Challenge.cw_fc5006_01_holds : PySem.Challenge.rw_fc5006_01.Holds :=
  Mine.law_holds
