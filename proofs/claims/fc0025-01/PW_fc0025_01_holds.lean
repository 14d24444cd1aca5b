import PyProof.Rows.All
import Wide.All
import OpenK.AllK
import Wide.FinOn
import Lean
import PySem.Challenge.RW_fc0025_01
set_option Elab.async false
section
open PySem PySem.W PyProof.Rows
set_option maxRecDepth 100000
set_option maxHeartbeats 8000000
namespace Mine
open_top hd for PySem.Challenge.rw_fc0025_01
end Mine
end
section
open PySem PySem.W PyProof.Rows
set_option maxRecDepth 100000
set_option maxHeartbeats 8000000
namespace Mine
noncomputable abbrev PR : Program := PySem.Challenge.rw_fc0025_01.row.prog
noncomputable abbrev LOO : List Str := looseW hd.view_39 [Str.ofString "BTClibValueError", Str.ofString "BTClibTypeError", Str.ofString "bytes_from_octets"]
noncomputable abbrev ktrH (hv : Option Value) (dp un : Nat) (gd : Option (List Code)) (cn : Str) (cs : Scope) (L a : Addr) (ccd : Value) (cl : List (Str × Addr)) (outer : List Env) : Around := { handled := hv, depth := dp, frames := some (envX cn cs L a ccd cl :: outer), guards := gd, units := un }

noncomputable abbrev Tell (w : World) (mean : ExcName → Option Value) (mg mb : Str → Option Value) (D U : Nat) (hv : Option Value) (f : Addr) (vs : List Value) (news : List (Addr × Obj)) (news' : List (Addr × Obj)) (Post : Value → Prop) : Prop :=
  ∀ (dp un : Nat) (gd : Option (List Code)) (cn : Str) (cs : Scope) (a : Addr) (ccd : Value) (cl : List (Str × Addr)) (outer : List Env) (A₀ : Around) (base h₀ : Heap) (L : Addr) (m : Str → Option Value) (s : Shared) (Q E : Value → Shared → Prop),
    Below A₀ base outer h₀ → Fr h₀ L s.heap m → (hd.heap_39 w.params).In h₀ → News h₀ L s.heap news → Top hd.view_39 LOO mean mg mb h₀ → cs.kind = .function →
    dp + D < recursionLimit → un + U < cLine →
    (∀ r h' tk', Fr h₀ L h' m → News h₀ L h' news' → Post r → Q r { s with heap := h', toks := tk' }) →
    wpAny (model PR w) (ktrH hv dp un gd cn cs L a ccd cl outer) (call (.ref f) vs) Q E s
end Mine
end
section
open PySem PySem.W PyProof.Rows PySem.Calls
set_option maxRecDepth 100000
set_option maxHeartbeats 1000000
namespace Mine
section
variable {prog : Program} {w : World} {M : Model} {A : Around} {E : Value → Shared → Prop} {s : Shared} {K : Frag} {h₀ : Heap} {L : Addr} {m : PySem.Str → Option Value} {news : List (Addr × Obj)}

theorem grown64 {n : Nat} {Q : Value → Shared → Prop} (hn : n < 256 ^ 64) (h : Q (.int (n : Int) s.toks) { s with toks := s.toks + 1 }) : wpAny M A (mkIntGrown (n : Int)) Q E s := by
  unfold mkIntGrown
  have hl : ¬ ((n : Int).natAbs.log2 ≥ bitsLine) := by
    rw [Int.natAbs_natCast]
    have hb : bitsLine = 134217728 := by first | rfl | decide
    by_cases hz : n = 0
    · subst hz
      rw [hb]
      decide
    · have e : (256 : Nat) ^ 64 = 2 ^ 512 := by rw [show (256 : Nat) = 2 ^ 8 from rfl, ← Nat.pow_mul]
      rw [e] at hn
      have h1 := (Nat.log2_lt hz).mpr hn
      omega
  rw [if_neg hl]
  exact wpAny_mkInt h

theorem size_lt {b : Array UInt8} (hl : b.size ≤ 64) : b.toList.foldl (fun (acc : Nat) (b : UInt8) => acc * 256 + b.toNat) 0 < 256 ^ 64 := by
  have h1 := KFB.fold_lt b.toList 0
  rw [Nat.zero_add, Nat.one_mul, Array.length_toList] at h1
  exact Nat.lt_of_lt_of_le h1 (Nat.pow_le_pow_right (by decide) hl)

theorem fb_tree {as : Args} {b : Array UInt8} {t u : Tok} {sg : Option Value} {P : Fin → Shared → Prop} (hl : b.size ≤ 64)
    (hp : ∃ rest, as.pos = .type "int" :: rest ∧ Builtin.Int.intBindNamed "from_bytes" ["bytes", "byteorder", "signed"] 1 2 rest as.kw = pure [some (.bytes b t), some (.str (PySem.Str.ofString "big") u), sg]) (hs : sg = none ∨ sg = some (.bool false))
    (h : P (.done (.ret (.int (KFB.value (KBw.bInts b)) s.toks))) { s with toks := s.toks + 1 }) :
    wpAny M A (Builtin.«int.from_bytes» as) P E s := by
  have hv : ((b.toList.foldl (fun (acc : Nat) (b : UInt8) => acc * 256 + b.toNat) 0 : Nat) : Int) = KFB.value (KBw.bInts b) := KFB.fold_cast b.toList 0
  have hn := size_lt hl
  obtain ⟨rest, h1, h2⟩ := hp
  obtain ⟨pos, kw⟩ := as
  dsimp only at h1 h2
  subst h1
  unfold Builtin.«int.from_bytes»
  refine wpAny_bind (wpAny_of_eq (a := true) KFB.type_int ?_)
  refine KFB.if_not rfl ?_
  refine wpAny_bind (wpAny_of_eq (a := true) F.conv_sub_int ?_)
  refine KFB.if_not rfl ?_
  refine wpAny_bind (wpAny_of_eq h2 ?_)
  refine wpAny_bind (wpAny_of_eq (a := PySem.Str.ofString "big") (by kernel_rfl) ?_)
  rcases hs with rfl | rfl
  all_goals (
    refine wpAny_bind (wpAny_of_eq (a := false) rfl ?_)
    refine wpAny_bind (wpAny_of_eq (a := false) (by kernel_rfl) ?_)
    refine wpAny_bind (wpAny_of_eq (a := b) rfl ?_)
    show wpAny _ _ (mkIntGrown (b.toList.foldl (fun (acc : Int) (b : UInt8) => acc * 256 + (b.toNat : Int)) ((0 : Nat) : Int)) >>= fun v => _) _ _ _
    rw [KFB.foldI_eq]
    refine wpAny_bind (grown64 hn ?_)
    rw [hv]
    refine KFB.if_so (by decide +kernel) ?_
    exact wpAny_bind (wpAny_pure (wpAny_pure h)))

theorem fb_check2 {b : Array UInt8} {t u : Tok} {o : PySem.Str} : checkBoundCall "int.from_bytes" ⟨[.type "int", .bytes b t], [(PySem.Str.ofString "byteorder", .str o u), (PySem.Str.ofString "signed", .bool false)]⟩ = pure () := by first | kernel_rfl | rfl
theorem fb_check3 {b : Array UInt8} {t u : Tok} {o : PySem.Str} : checkBoundCall "int.from_bytes" ⟨[.type "int", .bytes b t, .str o u], [(PySem.Str.ofString "signed", .bool false)]⟩ = pure () := by first | kernel_rfl | rfl

theorem fb_of {x : Addr} {as : Args} {z : Int} {Q : Value → Shared → Prop} (ho : KFB.StandsAt x s.heap) (hc : checkBoundCall "int.from_bytes" ⟨.type "int" :: as.pos, as.kw⟩ = pure ())
    (tree : ∀ {P : Fin → Shared → Prop} {E' : Value → Shared → Prop} {A' : Around}, P (.done (.ret (.int z s.toks))) { s with toks := s.toks + 1 } → wpAny (model prog w) A' (Builtin.«int.from_bytes» ⟨.type "int" :: as.pos, as.kw⟩) P E' s)
    (h : Q (.int z s.toks) { s with toks := s.toks + 1 }) : wpAny (model prog w) A (call (.ref x) as.pos as.kw) Q E s := by
  refine wpAny_call (codeAny_of_tree ?_)
  show wpAny _ A.in1 (callAny (.ref x) ⟨as.pos, as.kw⟩) _ _ s
  simp only [callAny]
  refine wpAny_bind (wpAny_load ho ?_)
  simp only [KFB.bound, show (Value.type "builtin_function_or_method" == Value.type "method" || Value.type "builtin_function_or_method" == Value.type "builtin_function_or_method" || Value.type "builtin_function_or_method" == Value.type "method-wrapper") = true by decide, if_true]
  refine KFB.if_so (by decide) ?_
  refine wpAny_bind (wpAny_of_eq (a := ()) hc ?_)
  refine wpAny_bind (wpAny_pure (wpAny_pure ?_))
  exact ⟨KFB.quiet_fb, codeAny_builtin KFB.entry_fb (tree h)⟩

/-- int.from_bytes(b, byteorder='big', signed=False) -/
theorem fb_call2 {x : Addr} {b : Array UInt8} {t u : Tok} {v : Int} {Q : Value → Shared → Prop} (N : News h₀ L s.heap news) (hm : (x, KFB.bound) ∈ news) (hv : KFB.value (KBw.bInts b) = v) (hl : b.size ≤ 64)
    (h : ∀ t' k, Q (.int v t') { s with toks := k }) : wpAny (model prog w) A (call (.ref x) [.bytes b t] [(PySem.Str.ofString "byteorder", .str (PySem.Str.ofString "big") u), (PySem.Str.ofString "signed", .bool false)]) Q E s := by
  subst hv
  refine fb_of (as := ⟨[.bytes b t], [(PySem.Str.ofString "byteorder", .str (PySem.Str.ofString "big") u), (PySem.Str.ofString "signed", .bool false)]⟩) (KFB.at_of N hm) fb_check2 (fun z => fb_tree (t := t) (u := u) (sg := some (.bool false)) hl ⟨_, rfl, by kernel_rfl⟩ (.inr rfl) z) (h _ _)
/-- int.from_bytes(b, 'big', signed=False) -/
theorem fb_call3 {x : Addr} {b : Array UInt8} {t u : Tok} {v : Int} {Q : Value → Shared → Prop} (N : News h₀ L s.heap news) (hm : (x, KFB.bound) ∈ news) (hv : KFB.value (KBw.bInts b) = v) (hl : b.size ≤ 64)
    (h : ∀ t' k, Q (.int v t') { s with toks := k }) : wpAny (model prog w) A (call (.ref x) [.bytes b t, .str (PySem.Str.ofString "big") u] [(PySem.Str.ofString "signed", .bool false)]) Q E s := by
  subst hv
  refine fb_of (as := ⟨[.bytes b t, .str (PySem.Str.ofString "big") u], [(PySem.Str.ofString "signed", .bool false)]⟩) (KFB.at_of N hm) fb_check3 (fun z => fb_tree (t := t) (u := u) (sg := some (.bool false)) hl ⟨_, rfl, by kernel_rfl⟩ (.inr rfl) z) (h _ _)
/-- int.from_bytes(b, 'big') -/
theorem fb_call1 {x : Addr} {b : Array UInt8} {t u : Tok} {v : Int} {Q : Value → Shared → Prop} (N : News h₀ L s.heap news) (hm : (x, KFB.bound) ∈ news) (hv : KFB.value (KBw.bInts b) = v) (hl : b.size ≤ 64)
    (h : ∀ t' k, Q (.int v t') { s with toks := k }) : wpAny (model prog w) A (call (.ref x) [.bytes b t, .str (PySem.Str.ofString "big") u]) Q E s := by
  subst hv
  refine fb_of (as := ⟨[.bytes b t, .str (PySem.Str.ofString "big") u], []⟩) (KFB.at_of N hm) KFB.check_fb (fun z => fb_tree (t := t) (u := u) (sg := none) hl ⟨_, rfl, by kernel_rfl⟩ (.inl rfl) z) (h _ _)

theorem callWith_fields_kw {pos : Pos} {u : Addr} {first : List Value} {args : List (Bool × Sem Value)} {kws : List (Option PySem.Str × Sem Value)} {Q : Value → Shared → Prop} (hplain : (args.any (·.1) || kws.any (·.1.isNone)) = false)
    (h : wpAny M A (evalArgs (.ref u) true args kws) (fun x s₁ => KFB.StandsAt u s₁.heap ∧ wpAny M A (call (.ref u) (first ++ x.pos) x.kw) Q E s₁) E s) : wpAny M A (callWith pos (.ref u) first args kws) Q E s := by
  unfold callWith
  refine wpAny_bind (wpAny_holding (wpAny_mono h (fun x s₁ h₁ => wpAny_bind (wpAny_standAt ?_)) fun _ _ x => x))
  obtain ⟨ho, hcall⟩ := h₁
  simp only [hplain]
  refine wpAny_bind (m := keeperOf (.ref u)) ?_
  unfold keeperOf
  refine wpAny_bind (wpAny_load ho ?_)
  simp only [KFB.bound, show (Value.type "builtin_function_or_method" != Value.type "method") = true by decide, show (Value.type "builtin_function_or_method" == Value.type "builtin_function_or_method" || Value.type "builtin_function_or_method" == Value.type "method-wrapper") = true by decide, if_true]
  refine wpAny_pure ?_
  exact wpAny_bind (wpAny_mono hcall (fun r s₂ hr => wpAny_bind (wpAny_holding (wpAny_point (wpAny_pure hr)))) fun _ _ x => x)
theorem callWith_bound_kw {pos : Pos} {u : Addr} {first : List Value} {env : Env} {e : PySem.Expr} {rest : List PySem.Expr} {kws : List Keyword} {Q : Value → Shared → Prop} (_N : News h₀ L s.heap news) (_hm : (u, KFB.bound) ∈ news)
    (h : wpAny M A (spliced (backTo pos (starEach (e :: rest) env))) (fun vs s₁ => wpAny M A (evalAll ((backToKw pos (keywordEach kws env)).map (·.2)))
      (fun ks s₂ => KFB.StandsAt u s₂.heap ∧ wpAny M A (call (.ref u) (first ++ vs) (((backToKw pos (keywordEach kws env)).filterMap (·.1)).zip ks)) Q E s₂) E s₁) E s)
    (hall : (backToKw pos (keywordEach kws env)).all (·.1.isSome) = true := by rfl)
    (hplain : ((backTo pos (starEach (e :: rest) env)).any (·.1) || (backToKw pos (keywordEach kws env)).any (·.1.isNone)) = false := by rfl)
    (he : starEach (e :: rest) env = (false, eval e env) :: starEach rest env := by rfl) :
    wpAny M A (callWith pos (.ref u) first (backTo pos (starEach (e :: rest) env)) (backToKw pos (keywordEach kws env))) Q E s :=
  callWith_fields_kw hplain (evalArgs_kw2 hall h he)
end
end Mine
end
section
open PySem PySem.W PyProof.Rows PySem.Calls
set_option maxRecDepth 100000
set_option maxHeartbeats 1000000
namespace Mine
section
variable {prog : Program} {w : World} {M : Model} {A : Around} {E : Value → Shared → Prop} {s : Shared} {K : Frag} {h₀ : Heap} {L : Addr} {m : PySem.Str → Option Value} {news : List (Addr × Obj)}

theorem tb_args2 (a b c : Value) : argsOk "int.to_bytes" ⟨[a, b, c], [(PySem.Str.ofString "signed", .bool false)]⟩ := by unfold argsOk; kernel_rfl

theorem value_little : ∀ (k : Nat) (x : Int), 0 ≤ x → x < 256 ^ k → KFB.value (KTBy.little k x).reverse = x
  | 0, x, h0, h1 => by
    have : x = 0 := by simp at h1; omega
    subst this
    rfl
  | k + 1, x, h0, h1 => by
    have hx : x / 256 < 256 ^ k := by
      rw [Int.pow_succ] at h1
      exact Int.ediv_lt_of_lt_mul (by decide) h1
    have ih := value_little k (x / 256) (by omega) hx
    show KFB.value (x % 256 :: KTBy.little k (x / 256)).reverse = x
    rw [List.reverse_cons]
    unfold KFB.value at ih ⊢
    rw [List.foldl_append, ih]
    simp only [List.foldl_cons, List.foldl_nil]
    omega

theorem tb_tree {as : Args} {x : Int} {k : Nat} {t u v : Tok} {sg : Option Value} {P : Fin → Shared → Prop} (hk : k ≤ 64) (h0 : 0 ≤ x) (h1 : x < 256 ^ k)
    (hp : ∃ rest, as.pos = .int x t :: rest ∧ Builtin.Int.intBindNamed "to_bytes" ["length", "byteorder", "signed"] 0 2 rest as.kw = pure [some (.int (k : Int) u), some (.str (PySem.Str.ofString "big") v), sg]) (hs : sg = none ∨ sg = some (.bool false))
    (h : ∀ (b : Array UInt8) t' k', KBw.bInts b = (KTBy.little k x).reverse → P (.done (.ret (.bytes b t'))) { s with toks := k' }) :
    wpAny M A (Builtin.«int.to_bytes» as) P E s := by
  obtain ⟨rest, e1, e2⟩ := hp
  obtain ⟨pos, kw⟩ := as
  dsimp only at e1 e2
  subst e1
  have hb : Builtin.Int.intBits x ≤ 8 * k := KTBy.bits_le rfl h0 h1
  unfold Builtin.«int.to_bytes»
  refine wpAny_bind (wpAny_of_eq (a := x) rfl ?_)
  refine wpAny_bind (wpAny_of_eq e2 ?_)
  refine wpAny_bind (wpAny_of_eq (a := (k : Int)) rfl ?_)
  refine KTBy.if_not (by show (decide ((k : Int) < -(2 ^ 63 : Int)) || decide ((k : Int) ≥ 2 ^ 63)) = false; rw [decide_eq_false (show ¬ ((k : Int) < -(2 ^ 63 : Int)) by omega), decide_eq_false (show ¬ ((k : Int) ≥ 2 ^ 63) by omega)]; rfl) ?_
  refine wpAny_bind (wpAny_of_eq (a := PySem.Str.ofString "big") (by kernel_rfl) ?_)
  rcases hs with rfl | rfl
  all_goals (
    refine wpAny_bind (wpAny_of_eq (a := false) rfl ?_)
    refine wpAny_bind (wpAny_of_eq (a := false) (by kernel_rfl) ?_)
    refine wpAny_ite_false (decide_eq_false (show ¬ ((k : Int) < 0) by omega)) ?_
    refine wpAny_ite_false (decide_eq_false (show ¬ ((k : Int) > 2 ^ 63 - 1 - 33) by omega)) ?_
    refine wpAny_ite_false (decide_eq_false (show ¬ ((k : Int) > (sizeLine : Int)) by rw [sizeLine_eq]; omega)) ?_
    refine KTBy.if_not (by show (decide (x < 0) && !false) = false; rw [decide_eq_false (show ¬ x < 0 by omega)]; rfl) ?_
    refine KTBy.if_not (by show (_ && decide ((Builtin.Int.intBits x : Int) > 8 * (k : Int))) = false; rw [decide_eq_false (show ¬ ((Builtin.Int.intBits x : Int) > 8 * (k : Int)) by omega), Bool.and_false]) ?_
    refine wpAny_bind (wpAny_mkBytes (wpAny_pure (h _ _ _ ?_)) (by show (List.reverse (KTBy.low x (Int.toNat (k : Int)))).length ≤ sizeLine; rw [List.length_reverse, KTBy.low_length, Int.toNat_natCast, sizeLine_eq]; omega))
    show (List.map (fun c : UInt8 => ((c.toNat : Nat) : Int)) (List.reverse (KTBy.low x (Int.toNat (k : Int))))) = (KTBy.little k x).reverse
    rw [Int.toNat_natCast, List.map_reverse, KTBy.low_ints h0 h1, ← KTBy.little_eq])

theorem tb_call2 {x : Int} {k : Nat} {t u v : Tok} {Q : Value → Shared → Prop} (hk : k ≤ 64) (h0 : 0 ≤ x) (h1 : x < 256 ^ k)
    (h : ∀ (b : Array UInt8) t' k', KBw.bInts b = (KTBy.little k x).reverse → Q (.bytes b t') { s with toks := k' }) :
    wpAny (model prog w) A (call (.builtin "int.to_bytes") [.int x t, .int (k : Int) u, .str (PySem.Str.ofString "big") v] [(PySem.Str.ofString "signed", .bool false)]) Q E s :=
  wpAny_call_entry_kw KTBy.slot (typeIs_int s x t) KTBy.entry (tb_tree (t := t) (u := u) (v := v) (sg := some (.bool false)) hk h0 h1 ⟨_, rfl, by kernel_rfl⟩ (.inr rfl) (fun b t' k' hb => ⟨_, rfl, h b t' k' hb⟩)) (tb_args2 _ _ _)
theorem tb_call1 {x : Int} {k : Nat} {t u v : Tok} {Q : Value → Shared → Prop} (hk : k ≤ 64) (h0 : 0 ≤ x) (h1 : x < 256 ^ k)
    (h : ∀ (b : Array UInt8) t' k', KBw.bInts b = (KTBy.little k x).reverse → Q (.bytes b t') { s with toks := k' }) :
    wpAny (model prog w) A (call (.builtin "int.to_bytes") [.int x t, .int (k : Int) u, .str (PySem.Str.ofString "big") v]) Q E s :=
  wpAny_call_entry KTBy.slot (typeIs_int s x t) KTBy.entry (tb_tree (t := t) (u := u) (v := v) (sg := none) hk h0 h1 ⟨_, rfl, by kernel_rfl⟩ (.inl rfl) (fun b t' k' hb => ⟨_, rfl, h b t' k' hb⟩)) (KTBy.args _ _ _)

/-- a built-in's method with keywords -/
theorem callWith_method_kw {pos : Pos} {id : String} {first : List Value} {env : Env} {e : PySem.Expr} {rest : List PySem.Expr} {kws : List Keyword} {Q : Value → Shared → Prop}
    (h : wpAny M A (spliced (backTo pos (starEach (e :: rest) env))) (fun vs s₁ => wpAny M A (evalAll ((backToKw pos (keywordEach kws env)).map (·.2)))
      (fun ks s₂ => wpAny M A (call (.builtin id) (first ++ vs) (((backToKw pos (keywordEach kws env)).filterMap (·.1)).zip ks)) Q E s₂) E s₁) E s)
    (he : backTo pos (starEach (e :: rest) env) = (false, eval e env) :: backTo pos (starEach rest env) := by rfl)
    (hplain : (backTo pos (starEach (e :: rest) env)).any (·.1) = false := by rfl)
    (hall : (backToKw pos (keywordEach kws env)).all (·.1.isSome) = true := by rfl)
    (hkw : (backToKw pos (keywordEach kws env)).any (·.1.isNone) = false := by rfl) :
    wpAny M A (callWith pos (.builtin id) first (backTo pos (starEach (e :: rest) env)) (backToKw pos (keywordEach kws env))) Q E s := by
  refine callWith_builtin_kwB hplain hkw ?_
  rw [he] at h ⊢
  exact evalArgs_kwB hall h
end
end Mine
end
section
open PySem PySem.W PyProof.Rows PySem.Calls
set_option maxRecDepth 100000
set_option maxHeartbeats 1000000
namespace Mine
section
variable {prog : Program} {w : World} {M : Model} {A : Around} {E : Value → Shared → Prop} {s : Shared} {K : Frag} {h₀ : Heap} {L : Addr} {m : PySem.Str → Option Value} {news : List (Addr × Obj)}

theorem has_bytes : typeLookup (.type "bytes") "__bytes__" = pure (some (.builtin "bytes.__bytes__")) := by rw [typeLookup_type, builtinLookup_eq_fast]; kernel_rfl

theorem bb_new {b : Array UInt8} {t : Tok} {Q : Value → Shared → Prop}
    (hQ : Q (.bytes b t) s) :
    codeAny (model prog w) A (.call (.builtin "bytes.__new__") ⟨[.type "bytes", .bytes b t], []⟩) (wants Q E) s := by
  refine codeAny_of_tree ?_
  show wpAny _ A.in1 (do checkBuiltinCall "bytes.__new__" ⟨[.type "bytes", .bytes b t], []⟩; again (.builtin "bytes.__new__" ⟨[.type "bytes", .bytes b t], []⟩)) _ _ s
  refine wpAny_bind (wpAny_of_eq (F.bm_newCall _) (wpAny_pure ⟨plainId_quiet F.bm_plain _, codeAny_builtin F.bm_entry ?_⟩))
  rw [Around.under_plainId F.bm_plain _]
  have hT : s.TypeIs (.bytes b t) "bytes" := PySem.W.typeIs_bytes _ _ _
  unfold Builtin.«bytes.__new__»
  refine wpAny_bind (wpAny_of_eq (a := true) rfl ?_)
  refine bm_if_false rfl ?_
  refine wpAny_bind (wpAny_of_eq F.bm_sub ?_)
  refine bm_if_false rfl ?_
  refine wpAny_bind (wpAny_of_eq (F.bm_bind _) ?_)
  refine wpAny_bind (wpAny_of_eq (a := ()) rfl ?_)
  refine wpAny_bind (wpAny_of_eq (a := ()) rfl ?_)
  refine bm_if_false rfl ?_
  refine wpAny_bind (wpAny_specialOf hT has_bytes ?_)
  refine wpAny_bind (wpAny_rule ?_)
  refine wpAny_bind (wpAny_typeOf hT ?_)
  refine bm_if_true (by decide) ?_
  show wpAny _ _ (if (Value.type "bytes" == Value.type "bytes") = true then _ else _) _ _ _
  refine bm_if_true (by decide) ?_
  first
    | exact wpAny_pure hQ
    | exact wpAny_bind (wpAny_pure (wpAny_pure hQ))

theorem call_bytes_bytes {b : Array UInt8} {t : Tok} {Q : Value → Shared → Prop} (hQ : Q (.bytes b t) s) : wpAny (model prog w) A (call (.type "bytes") [.bytes b t]) Q E s := by
  refine callType_codes (Q₁ := fun obj s₁ => s₁.TypeIs obj "bytes" ∧ Q obj s₁) F.bm_called (F.bm_typeCall _) F.entry_object_init
    (bb_new ⟨PySem.W.typeIs_bytes _ _ _, hQ⟩) fun obj s₁ h₁ => ?_
  exact ⟨h₁.1, F.args_object_init_2 obj _, object_init_meets F.bm_called.init.lookup F.bm_called.made (by decide) prog w A.in1 _ s₁ ⟨h₁.1, rfl, h₁.2⟩⟩

theorem size4 {b : Array UInt8} {e x y z : Int} (hb : KBw.bInts b = [e, x, y, z]) : b.size = 4 := by
  rw [← KBw.ints_length, hb]; rfl
theorem size3 {b : Array UInt8} {x y z : Int} (hb : KBw.bInts b = [x, y, z]) : b.size = 3 := by
  rw [← KBw.ints_length, hb]; rfl
theorem in4 {b : Array UInt8} {e x y z : Int} (hb : KBw.bInts b = [e, x, y, z]) : (0 ≤ e ∧ e < 256) ∧ (0 ≤ x ∧ x < 256) ∧ (0 ≤ y ∧ y < 256) ∧ (0 ≤ z ∧ z < 256) := by
  have h : ∀ k ∈ KBw.bInts b, 0 ≤ k ∧ k < 256 := fun k hk => KBw.ints_in hk
  rw [hb] at h
  exact ⟨h e (by simp), h x (by simp), h y (by simp), h z (by simp)⟩

section
variable {value slice : PySem.Expr} {b : Array UInt8} {t : Tok}
theorem item4_0 {ui : Tok} {e x y z : Int} {Q : Value → Shared → Prop} (hk : KBw.bInts b = [e, x, y, z]) (h : ∀ t' k, Q (.int e t') { s with toks := k })
    (hs : subscripted slice false (.bytes b t) (.int 0 ui) = operate [.bytes b t, .int 0 ui] (getItem (.bytes b t) (.int 0 ui)) := by with_unfolding_all rfl)
    (ht : ∀ r, letTemporaryGo value (.bytes b t) r = pure () := by intro _; with_unfolding_all rfl) : wpAny (model prog w) A (subscriptTail value slice (.bytes b t) (.int 0 ui)) Q E s :=
  KBw.item_K hk (by simp) (by decide) (by simp) (fun t' k _ _ => h t' k) hs ht
theorem item4_1 {ui : Tok} {e x y z : Int} {Q : Value → Shared → Prop} (hk : KBw.bInts b = [e, x, y, z]) (h : ∀ t' k, Q (.int x t') { s with toks := k })
    (hs : subscripted slice false (.bytes b t) (.int 1 ui) = operate [.bytes b t, .int 1 ui] (getItem (.bytes b t) (.int 1 ui)) := by with_unfolding_all rfl)
    (ht : ∀ r, letTemporaryGo value (.bytes b t) r = pure () := by intro _; with_unfolding_all rfl) : wpAny (model prog w) A (subscriptTail value slice (.bytes b t) (.int 1 ui)) Q E s :=
  KBw.item_K hk (by simp) (by decide) (by simp) (fun t' k _ _ => h t' k) hs ht
theorem slice4_1 {Q : Value → Shared → Prop} {e x y z : Int} (hF : Fr h₀ L s.heap m) (hN : News h₀ L s.heap news) (hk : KBw.bInts b = [e, x, y, z]) {u : Tok}
    (h : ∀ (b' : Array UInt8) h' t' k, Fr h₀ L h' m → News h₀ L h' news → KBw.bInts b' = [x, y, z] → Q (.bytes b' t') { s with heap := h', toks := k })
    (hs : subscripted slice false (.bytes b t) (.ref s.heap.objs.size) = operate [.ref s.heap.objs.size, .bytes b t] (getItem (.bytes b t) (.ref s.heap.objs.size)) := by with_unfolding_all rfl)
    (ht : ∀ r, letTemporaryGo value (.bytes b t) r = pure () := by intro _; with_unfolding_all rfl) :
    wpAny (model prog w) A (subscriptTail value slice (.bytes b t) (.ref s.heap.objs.size)) Q E { s with heap := s.heap.push { cls := .type "slice", data := .fields #[.int 1 u, .none, .none] } } :=
  KBc.slice_K hF hN hk (lo := some 1) (hi := none) (by constructor) (by constructor) (by simp) (fun h' t' k F' N' hb' => h _ h' t' k F' N' (hb'.trans (by rfl))) hs ht
theorem slice4_2 {Q : Value → Shared → Prop} {e x y z : Int} (hF : Fr h₀ L s.heap m) (hN : News h₀ L s.heap news) (hk : KBw.bInts b = [e, x, y, z]) {u : Tok}
    (h : ∀ (b' : Array UInt8) h' t' k, Fr h₀ L h' m → News h₀ L h' news → KBw.bInts b' = [y, z] → Q (.bytes b' t') { s with heap := h', toks := k })
    (hs : subscripted slice false (.bytes b t) (.ref s.heap.objs.size) = operate [.ref s.heap.objs.size, .bytes b t] (getItem (.bytes b t) (.ref s.heap.objs.size)) := by with_unfolding_all rfl)
    (ht : ∀ r, letTemporaryGo value (.bytes b t) r = pure () := by intro _; with_unfolding_all rfl) :
    wpAny (model prog w) A (subscriptTail value slice (.bytes b t) (.ref s.heap.objs.size)) Q E { s with heap := s.heap.push { cls := .type "slice", data := .fields #[.int 2 u, .none, .none] } } :=
  KBc.slice_K hF hN hk (lo := some 2) (hi := none) (by constructor) (by constructor) (by simp) (fun h' t' k F' N' hb' => h _ h' t' k F' N' (hb'.trans (by rfl))) hs ht
end

structure Be32 (b : Array UInt8) (v : Int) : Prop where
  size : b.size = 32
  val : KFB.value (KBw.bInts b) = v
  lo : 0 ≤ v
  hi : v < 2 ^ 256
theorem Be32.size64 {b : Array UInt8} {v : Int} (h : Be32 b v) : b.size ≤ 64 := by rw [h.size]; decide
theorem Be32.of {b : Array UInt8} {v : Int} (hb : KBw.bInts b = (KTBy.little 32 v).reverse) (h0 : 0 ≤ v) (h1 : v < 2 ^ 256) : Be32 b v where
  size := by rw [← KBw.ints_length, hb, List.length_reverse, KTBy.little_length]
  val := by
    rw [hb]
    refine value_little 32 v h0 ?_
    have e : (256 : Int) ^ 32 = 2 ^ 256 := by decide
    rw [e]; exact h1
  lo := h0
  hi := h1
theorem Be32.len {b : Array UInt8} {v : Int} {t : Tok} {Q : Value → Shared → Prop} (hb : Be32 b v) (h : Q (.int 32 (s.toks + 1)) { s with toks := s.toks + 1 + 1 }) : wpAny (model prog w) A (call (.builtin "len") [.bytes b t]) Q E s := by
  refine KBw.len_K (ks := KBw.bInts b) rfl ?_ ?_
  · rw [KBw.ints_length, hb.size]; decide
  · rw [KBw.ints_length, hb.size]; exact h
theorem len4 {b : Array UInt8} {e x y z : Int} {t : Tok} {Q : Value → Shared → Prop} (hb : KBw.bInts b = [e, x, y, z]) (h : Q (.int 4 (s.toks + 1)) { s with toks := s.toks + 1 + 1 }) : wpAny (model prog w) A (call (.builtin "len") [.bytes b t]) Q E s :=
  KBw.len_K hb (by simp) h

theorem little3 (v : Int) : (KTBy.little 3 v).reverse = [v / 256 / 256 % 256, v / 256 % 256, v % 256] := rfl
theorem value3 (x y z : Int) : KFB.value [x, y, z] = (x * 256 + y) * 256 + z := by
  simp [KFB.value]
theorem fb3 {b : Array UInt8} {x y z : Int} (hb : KBw.bInts b = [x, y, z]) : KFB.value (KBw.bInts b) = (x * 256 + y) * 256 + z := by rw [hb, value3]
theorem fb3s {b : Array UInt8} {x y z : Int} (hb : KBw.bInts b = [x, y, z]) : b.size ≤ 64 := by rw [size3 hb]; decide
end
end Mine
end
section
open PySem PySem.W PyProof.Rows PySem.Calls
set_option maxRecDepth 100000
set_option maxHeartbeats 1000000
namespace Mine
/-- what is handled just now, if anything, stands in the heap, with no context -/
def HAt (hv : Option Value) (h : Heap) : Prop :=
  hv = none ∨ ∃ (e : Addr) (oe : Obj) (fs : Array Value), hv = some (.ref e) ∧ h.get? e = some oe ∧ oe.data = .fields fs ∧ fs[2]? = some .none
theorem HAt.keep {hv : Option Value} {h h' : Heap} (H : HAt hv h) (k : ∀ b o, h.get? b = some o → h'.get? b = some o) : HAt hv h' := by
  rcases H with H | ⟨e, oe, fs, a, b, c, d⟩
  · exact .inl H
  · exact .inr ⟨e, oe, fs, a, k _ _ b, c, d⟩
theorem HAt.keepBut {hv : Option Value} {h h' : Heap} {I : Addr} {oI : Obj} (H : HAt hv h) (hI : h.get? I = some oI) (hx : ∀ fs, oI.data = .fields fs → fs[2]? ≠ some .none) (k : ∀ b o, b ≠ I → h.get? b = some o → h'.get? b = some o) : HAt hv h' := by
  rcases H with H | ⟨e, oe, fs, a, b, c, d⟩
  · exact .inl H
  · refine .inr ⟨e, oe, fs, a, k _ _ ?_ b, c, d⟩
    rintro rfl
    rw [hI] at b
    cases b
    exact hx fs c d
section
variable {prog : Program} {w : World} {A : Around} {E : Value → Shared → Prop} {s : Shared} {K : Frag} {h₀ : Heap} {L : Addr} {m : PySem.Str → Option Value} {news : List (Addr × Obj)}

theorem unchain_entry : entryFor table "proto.unchain" = some Builtin.«proto.unchain» := by first | exact entryFor_of_fast (by kernel_rfl) | exact entryFor_of_tree (by kernel_rfl)

theorem unchain_run {a e : Addr} {oe : Obj} {fs : Array Value} {Q : Value → Shared → Prop} (he : s.heap.get? e = some oe) (hd : oe.data = .fields fs) (h2 : fs[2]? = some .none) (h : Q .none s) :
    wpAny (model prog w) A (runValue (.builtin "proto.unchain" ⟨[.ref a, .ref e, .ref e, .bool false], []⟩)) Q E s := by
  refine wpAny_runValue (codeAny_builtin unchain_entry ?_)
  unfold Builtin.«proto.unchain»
  refine wpAny_bind (wpAny_field he hd (x := .none) h2 ?_)
  refine KFB.if_so (by decide) ?_
  first
    | exact wpAny_pure h
    | exact wpAny_bind (wpAny_pure (wpAny_pure h))

theorem raiseNew_ok {α : Type} {a : Addr} {oa : Obj} {fa : Array Value} {Q : α → Shared → Prop} (H : HAt A.handled s.heap) (hne : ∀ e, A.handled = some (.ref e) → e ≠ a)
    (ha : s.heap.get? a = some oa) (hd : oa.data = .fields fa) (h2 : 2 < fa.size)
    (hE : ∀ h', (∀ b o, b ≠ a → s.heap.get? b = some o → h'.get? b = some o) → (∃ oa', h'.get? a = some oa' ∧ oa'.cls = oa.cls) → E (.ref a) { s with heap := h' }) : wpAny (model prog w) A (raiseNew (α := α) (.ref a)) Q E s := by
  simp only [raiseNew]
  refine wpAny_bind (wpAny_handled ?_)
  rcases H with H | ⟨e, oe, fs, H, he, hde, hc⟩
  · rw [H]
    exact wpAny_bind (wpAny_pure (wpAny_throw (hE s.heap (fun _ _ _ e => e) ⟨oa, ha, rfl⟩)))
  · rw [H]
    dsimp only
    have ne : e ≠ a := hne e H
    have nb : (Value.ref e != Value.ref a) = true := by simp [ne]
    refine KFB.if_so nb ?_
    refine wpAny_bind (wpAny_holding (unchain_run he hde hc ?_))
    refine wpAny_bind ?_
    have up : wpAny (model prog w) A (updateField a 2 (.ref e)) (fun _ s' => ∃ h', s' = { s with heap := h' } ∧ (∀ b o, b ≠ a → s.heap.get? b = some o → h'.get? b = some o) ∧ ∃ oa', h'.get? a = some oa' ∧ oa'.cls = oa.cls) E s := by
      unfold updateField
      refine wpAny_bind (wpAny_load ha ?_)
      rw [hd]
      dsimp only
      rw [if_pos h2]
      refine wpAny_update ha ⟨_, rfl, fun b o hb eb => (Heap.get?_update_other _ _ (Ne.symm hb)).trans eb, _, Heap.get?_update_self _ ha (Obj.isFreed_of_fields (Obj.data_mapFields hd _)), Obj.cls_mapFields ..⟩
    refine wpAny_mono up (fun _ s' hs => ?_) fun _ _ e => e
    obtain ⟨h', rfl, hk, hoa⟩ := hs
    exact wpAny_throw (hE h' hk hoa)

theorem stop_raise {α : Type} {Q : α → Shared → Prop} (H : HAt A.handled s.heap) (hE : ∀ h' a, (∀ b o, s.heap.get? b = some o → h'.get? b = some o) → (∃ oa', h'.get? a = some oa' ∧ oa'.cls = .type "StopIteration") → E (.ref a) { s with heap := h' }) :
    wpAny (model prog w) A (newExc (.type "StopIteration") [] >>= fun e => raiseNew (α := α) e) Q E s := by
  refine wpAny_bind ?_
  simp only [newExc, newTuple]
  refine wpAny_bind (wpAny_newObj_type ?_ (by size_fits))
  refine wpAny_bind (m := firstArgMember _ _) (wpAny_of_eq (a := Value.none) (by first | rfl | (simp only [firstArgMember]; rfl)) ?_)
  refine wpAny_newObj_type ?_ (by size_fits)
  have ne : ∀ b o, s.heap.get? b = some o → b ≠ (s.heap.push { cls := .type "tuple", data := .seq #[] }).objs.size := fun b o eb q => by
    have := Heap.lt_size eb
    rw [q, Heap.size_push] at this
    exact absurd this (Nat.not_lt.mpr (Nat.le_succ _))
  refine raiseNew_ok (H.keep fun b o e => Heap.get?_push_of_some _ (Heap.get?_push_of_some _ e)) ?_ (Heap.get?_push_size _ rfl) rfl (by rw [Array.size_append]; exact Nat.lt_of_lt_of_le (by decide : 2 < 6) (Nat.le_add_right 6 _)) fun h' hk ho => hE h' _ (fun b o eb => hk b o (ne b o eb) (Heap.get?_push_of_some _ (Heap.get?_push_of_some _ eb))) ho
  intro e he
  rcases H with H | ⟨e', oe, fs, H, he', _⟩
  · rw [H] at he; cases he
  · rw [H] at he
    cases he
    exact ne _ _ he'
end
end Mine
end
section
open PySem PySem.W PyProof.Rows PySem.Calls
set_option maxRecDepth 100000
set_option maxHeartbeats 1000000
namespace Mine
/-- what is handled stands in the ledger, with no context -/
def HN (hv : Option Value) (news : List (Addr × Obj)) : Prop :=
  hv = none ∨ ∃ (e : Addr) (oe : Obj) (fs : Array Value), hv = some (.ref e) ∧ (e, oe) ∈ news ∧ oe.data = .fields fs ∧ fs[2]? = some .none
def hAddr : Option Value → List Addr
  | some (.ref e) => [e]
  | _ => []
theorem HN.at {hv : Option Value} {news : List (Addr × Obj)} {h₀ h : Heap} {L : Addr} (H : HN hv news) (N : News h₀ L h news) : HAt hv h := by
  rcases H with H | ⟨e, oe, fs, a, b, c, d⟩
  · exact .inl H
  · exact .inr ⟨e, oe, fs, a, (N _ b).1, c, d⟩
theorem HN.none {news : List (Addr × Obj)} : HN .none news := .inl rfl
theorem HN.more {hv : Option Value} {news news' : List (Addr × Obj)} (H : HN hv news) (k : ∀ p ∈ news, p ∈ news') : HN hv news' := by
  rcases H with H | ⟨e, oe, fs, a, b, c, d⟩
  · exact .inl H
  · exact .inr ⟨e, oe, fs, a, k _ b, c, d⟩
theorem HN.ne {hv : Option Value} {news : List (Addr × Obj)} {h₀ h : Heap} {L : Addr} (H : HN hv news) (N : News h₀ L h news) : ∀ b ∈ hAddr hv, b ≠ L ∧ ∃ o, h.get? b = some o ∧ (b, o) ∈ news := by
  rcases H with rfl | ⟨e, oe, fs, rfl, b, c, d⟩
  · intro b hb; cases hb
  · intro x hx
    rw [List.mem_singleton.mp hx]
    exact ⟨(N _ b).2.1, oe, (N _ b).1, b⟩
theorem HAt.frame {hv : Option Value} {h h' : Heap} (H : HAt hv h) (k : ∀ b ∈ hAddr hv, ∀ o, h.get? b = some o → h'.get? b = some o) : HAt hv h' := by
  rcases H with H | ⟨e, oe, fs, rfl, b, c, d⟩
  · exact .inl H
  · exact .inr ⟨e, oe, fs, rfl, k e (List.mem_singleton.mpr rfl) _ b, c, d⟩
section
variable {prog : Program} {w : World} {A : Around} {E : Value → Shared → Prop} {s : Shared} {K : Frag} {h₀ : Heap} {L : Addr} {m : PySem.Str → Option Value} {news : List (Addr × Obj)}

theorem tuple_endH {it t : Addr} {i : Nat} {items} {Q : Option Value → Shared → Prop} (H : HAt A.handled s.heap)
    (hit : s.heap.IsTupleIter it t i) (ht : s.heap.IsTuple t items) (hx : items[i]? = none)
    (hQ : ∀ h', (∀ b o, b ≠ it → s.heap.get? b = some o → h'.get? b = some o) → Q none { s with heap := h' }) : wpAny (model prog w) A (pyNext (.ref it)) Q E s := by
  obtain ⟨o, ho, hc, hd⟩ := id hit
  obtain ⟨ol, hol, _, nl, hdl⟩ := ht
  unfold pyNext
  refine wpAny_bind (wpAny_attempt (wpAny_callSpecial?_slot (name := PySem.Str.ofString "__next__") hit.typeIs F.slot_tuple_iterator_next
    (wpAny_call_entry F.slot_tuple_iterator_next hit.typeIs F.entry_tuple_iterator_next ?_ (F.args_tuple_iterator_next_1 _))))
  show wpAny _ _ (field (.ref it) 0 >>= _) _ _ s
  refine wpAny_bind (wpAny_field ho hd (x := .ref t) rfl ?_)
  show wpAny _ _ (if (Value.ref t == Value.none) = true then _ else _) _ _ s
  rw [if_neg (show ¬ ((Value.ref t == Value.none) = true) from Bool.false_ne_true)]
  show wpAny _ _ (field (.ref it) 1 >>= _) _ _ s
  refine wpAny_bind (wpAny_field ho hd (x := .int i 0) rfl ?_)
  show wpAny _ _ (seqItems? (.ref t) >>= _) _ _ s
  refine wpAny_bind (wpAny_seqItems hol hdl ?_)
  simp only [Int.toNat_natCast, hx]
  refine wpAny_bind (wpAny_rule (wpAny_bind (wpAny_setField ho hd (by simp) ?_)))
  have k0 : ∀ b o', b ≠ it → s.heap.get? b = some o' → (s.heap.update it (Obj.mapFields (·.setIfInBounds 0 Value.none))).get? b = some o' := fun b o' hb e => (Heap.get?_update_other _ _ (Ne.symm hb)).trans e
  refine stop_raise (H.keepBut ho (fun fs e => ?_) k0) fun h' a hk ha => ?_
  · rw [hd] at e
    cases e
    intro q
    cases q
  · obtain ⟨oa, hoa, hca⟩ := ha
    refine wpAny_bind (wpAny_isInstance (T := "StopIteration") (b := true) ⟨oa, hoa, hca⟩ isSubtype_stop ?_)
    exact wpAny_pure (hQ _ fun b o' hb e => hk b o' (k0 b o' hb e))

theorem walks_tupleH (hv : Option Value) (hh : A.handled = hv) (I ax : Addr) (hne : ax ≠ I) (hI : I ∉ hAddr hv) (items : Array Value) :
    Walks prog w A I (I :: ax :: hAddr hv) [I] items.size (fun i v => items[i]? = some v) (fun i h => (h.IsTupleIter I ax i ∧ h.IsTuple ax items) ∧ HAt hv h) where
  sub := fun b hb => by simp at hb; simp [hb]
  frame := fun _ _ _ st hk => ⟨⟨st.1.1.at fun o e => hk I (by simp) o e, st.1.2.at fun o e => hk ax (by simp) o e⟩, st.2.frame fun b hb o e => hk b (by simp [hb]) o e⟩
  item := fun i s Q E hi st hQ => by
    refine wpAny_pyNext_tuple_item st.1.1 st.1.2 (x := items[i]) (by simp [hi]) fun h' hit' hs' => ?_
    exact hQ _ h' s.toks (by simp [hi]) ⟨⟨hit', st.1.2.extBut hs'.extBut hne⟩, st.2.frame fun b hb o e => hs'.extBut b o (fun q => hI (q ▸ hb)) e⟩ fun b o hb e => hs'.extBut b o (fun h => hb (by simp [h])) e
  done := fun s Q E st hQ => by
    subst hh
    exact tuple_endH st.2 st.1.1 st.1.2 (by simp) fun h' he' => hQ h' s.toks fun b o hb e => he' b o (fun h => hb (by simp [h])) e
  self := fun _ _ _ _ st hQ => wpAny_pyIter_tupleiter st.1.1 hQ

theorem iter_tup1 {env : Env} {x : PySem.Str} {body : List Stmt} {Q : Flow → Shared → Prop} {D : Addr} {lo : Obj} {v : Value} {n : Nat} {m₀ : PySem.Str → Option Value}
    (H : HN A.handled news) (F : Fr h₀ env.locals s.heap m₀) (N : News h₀ env.locals s.heap news) (hm : (D, lo) ∈ news) (hc : lo.cls = .type "tuple") (hd : lo.data = .seq #[v] n)
    (turn : ∀ own h tk, Fr h₀ env.locals h (fun y => if y = x then some v else m₀ y) → News h₀ env.locals h (own ++ news) →
      wpAny (model prog w) A (execs body env) (fun f s₂ => f = .next ∧ ∃ h' tk', s₂ = { s with heap := h', toks := tk' } ∧ Fr h₀ env.locals h' (fun y => if y = x then some v else m₀ y) ∧ News h₀ env.locals h' (own ++ news)) E { s with heap := h, toks := tk })
    (done : ∀ h tk, Fr h₀ env.locals h (fun y => if y = x then some v else m₀ y) → News h₀ env.locals h news → Q .next { s with heap := h, toks := tk }) :
    wpAny (model prog w) A (pyIter (.ref D)) (fun it s₂ => LoopAtV prog w A h₀ env x body Q E it s₂) E s := by
  have hax := N _ hm
  have hl : s.heap.IsTuple D #[v] := ⟨lo, hax.1, hc, n, hd⟩
  have hlt : D < s.heap.objs.size := Heap.lt_size hax.1
  have hne : D ≠ s.heap.objs.size := Nat.ne_of_lt hlt
  have hex := H.ne N
  have hI : s.heap.objs.size ∉ hAddr A.handled := fun hb => by
    obtain ⟨_, o, ho, _⟩ := hex _ hb
    exact absurd (Heap.lt_size ho) (Nat.lt_irrefl _)
  refine wpAny_pyIter_tuple hl ?_
  refine ⟨s.heap.objs.size, _, _, _, _, _, m₀, news, fun i m₁ n₁ => n₁ = news ∧ (i = 0 → m₁ = m₀) ∧ (0 < i → m₁ = fun y => if y = x then some v else m₀ y), rfl, walks_tupleH A.handled rfl s.heap.objs.size D hne hI #[v], ?_, ?_, ?_, ?_, F.push _, (fun p hp => ⟨Heap.get?_push_of_some _ (N p hp).1, (N p hp).2⟩), ⟨rfl, fun _ => rfl, fun h => absurd h (Nat.lt_irrefl _)⟩, ?_, ?_⟩
  · intro hb
    rcases List.mem_cons.mp hb with e | hb
    · exact absurd F.ns.lt (e ▸ Nat.lt_irrefl _)
    · rcases List.mem_cons.mp hb with e | hb
      · exact hax.2.1 e.symm
      · exact (hex _ hb).1 rfl
  · intro b hb
    rw [List.mem_singleton.mp hb]
    exact next_is_new F
  · intro p hp hb
    exact absurd (Heap.lt_size (N p hp).1) ((List.mem_singleton.mp hb) ▸ Nat.lt_irrefl _)
  · exact ⟨⟨⟨_, Heap.get?_push_size _ rfl, rfl, rfl⟩, hl.at fun o e => Heap.get?_push_of_some _ e⟩, (H.at N).keep fun b o e => Heap.get?_push_of_some _ e⟩
  · rintro i v' m₁ n₁ s₁ own ⟨h, tk, rfl⟩ hi hP ⟨rfl, hm0, _⟩ hoff _ _ _ _ F₁ N₁
    have hi' : i = 0 := by simpa using hi
    subst hi'
    have hv : v' = v := by
      have : (#[v] : Array Value)[0]? = some v' := hP
      simpa using this.symm
    subst hv
    rw [hm0 rfl] at F₁
    refine wpAny_mono (turn own h tk F₁ N₁) (fun f s₂ p => ?_) fun _ _ e => e
    obtain ⟨rfl, h', tk', rfl, F₂, N₂⟩ := p
    exact .next ⟨rfl, h', tk', _, n₁, rfl, F₂, N₂, hoff, rfl, fun e => absurd e (by simp), fun _ => rfl⟩
  · rintro h' tk m' n' F' N' _ ⟨rfl, _, hm1⟩
    have : m' = fun y => if y = x then some v else m₀ y := hm1 (by simp)
    subst this
    exact done h' tk F' N'
end
end Mine
end
section
open PySem PySem.W PyProof.Rows PySem.Calls
set_option maxRecDepth 100000
set_option maxHeartbeats 1000000
namespace Mine
section
variable {prog : Program} {w : World} {A : Around} {E : Value → Shared → Prop} {s : Shared} {K : Frag} {h₀ : Heap} {L : Addr} {m : PySem.Str → Option Value} {news : List (Addr × Obj)}

theorem list_endH {it l : Addr} {i : Nat} {items} {Q : Option Value → Shared → Prop} (H : HAt A.handled s.heap)
    (hit : s.heap.IsListIter it l i) (hl : s.heap.IsList l items) (hx : items[i]? = none)
    (hQ : ∀ h', (∀ b o, b ≠ it → s.heap.get? b = some o → h'.get? b = some o) → Q none { s with heap := h' }) : wpAny (model prog w) A (pyNext (.ref it)) Q E s := by
  obtain ⟨o, ho, hc, hd⟩ := id hit
  obtain ⟨ol, hol, _, nl, hdl⟩ := hl
  unfold pyNext
  refine wpAny_bind (wpAny_attempt (wpAny_callSpecial?_slot (name := PySem.Str.ofString "__next__") hit.typeIs slot_listiter_next
    (wpAny_call_entry slot_listiter_next hit.typeIs entry_listiter_next ?_ (args_listiter_next _))))
  show wpAny _ _ (field (.ref it) 0 >>= _) _ _ s
  refine wpAny_bind (wpAny_field ho hd (x := .ref l) rfl ?_)
  show wpAny _ _ (if (Value.ref l == Value.none) = true then _ else _) _ _ s
  rw [if_neg (show ¬ ((Value.ref l == Value.none) = true) from Bool.false_ne_true)]
  show wpAny _ _ (field (.ref it) 1 >>= _) _ _ s
  refine wpAny_bind (wpAny_field ho hd (x := .int i 0) rfl ?_)
  show wpAny _ _ (seqItems? (.ref l) >>= _) _ _ s
  refine wpAny_bind (wpAny_seqItems hol hdl ?_)
  simp only [Int.toNat_natCast, hx]
  refine wpAny_bind (wpAny_rule (wpAny_bind (wpAny_setField ho hd (by simp) ?_)))
  have k0 : ∀ b o', b ≠ it → s.heap.get? b = some o' → (s.heap.update it (Obj.mapFields (·.setIfInBounds 0 Value.none))).get? b = some o' := fun b o' hb e => (Heap.get?_update_other _ _ (Ne.symm hb)).trans e
  refine stop_raise (H.keepBut ho (fun fs e => ?_) k0) fun h' a hk ha => ?_
  · rw [hd] at e
    cases e
    intro q
    cases q
  · obtain ⟨oa, hoa, hca⟩ := ha
    refine wpAny_bind (wpAny_isInstance (T := "StopIteration") (b := true) ⟨oa, hoa, hca⟩ isSubtype_stop ?_)
    exact wpAny_pure (hQ _ fun b o' hb e => hk b o' (k0 b o' hb e))

theorem HAt.notFields {hv : Option Value} {h : Heap} {I : Addr} {oI : Obj} (hI : h.get? I = some oI) (hx : ∀ fs, oI.data = .fields fs → fs[2]? ≠ some .none) (H : HAt hv h) : I ∉ hAddr hv := by
  rcases H with rfl | ⟨e, oe, fs, rfl, b, c, d⟩
  · exact fun q => nomatch q
  · intro q
    rw [List.mem_singleton.mp q, b] at hI
    cases hI
    exact hx fs c d

/-- one turn and the end of bytes([n])'s inner loop -/
theorem b1_end {R : Result → Shared → Prop} {l I S : Addr} {n : Int} {t : Tok} (H : HAt A.handled s.heap) (hIS : I ≠ S)
    (hl : s.heap.IsList l #[.int n t]) (hit : s.heap.IsListIter I l 1) (hS : s.heap.get? S = some { cls := .type "bytearray", data := .bytearray #[n.toNat.toUInt8] })
    (hR : ∀ h' t' k', (∀ b o, b ≠ I → s.heap.get? b = some o → h'.get? b = some o) → R (.ok (.ret (.bytes #[n.toNat.toUInt8] t'))) { s with heap := h', toks := k' }) :
    codeAny (model prog w) A (.builtin "bytes.__new__.loop" ⟨[.type "bytes", .ref I, .ref S], []⟩) R s := by
  refine codeAny_builtin F.bm_entry_loop ?_
  rw [Around.under_plainId F.bm_plain_loop _]
  show wpAny _ A.in1 (pyNext (.ref I) >>= _) _ _ s
  refine wpAny_bind (list_endH H hit hl (by simp) fun h' he => ?_)
  have hS' := he S _ (Ne.symm hIS) hS
  refine wpAny_bind ?_
  unfold Builtin.Bytes.payload Builtin.Bytes.payload?
  refine wpAny_bind (wpAny_bind (wpAny_load hS' ?_))
  refine wpAny_pure (wpAny_pure ?_)
  refine wpAny_bind (wpAny_mkBytes ?_ (by rw [sizeLine_eq]; exact (by decide : 1 ≤ 16777216)))
  show wpAny _ _ (if (Value.type "bytes" == Value.type "bytes") = true then _ else _) _ _ _
  refine bm_if_true (by decide) ?_
  first
    | exact wpAny_pure (hR h' _ _ fun b o hb e => he b o hb e)
    | exact wpAny_bind (wpAny_pure (wpAny_pure (hR h' _ _ fun b o hb e => he b o hb e)))

theorem b1_loop {R : Result → Shared → Prop} {l I S : Addr} {n : Int} {t : Tok} (H : HAt A.handled s.heap) (h0 : 0 ≤ n) (h1 : n < 256) (hIS : I ≠ S) (hlI : l ≠ I) (hlS : l ≠ S)
    (hl : s.heap.IsList l #[.int n t]) (hit : s.heap.IsListIter I l 0) (hS : s.heap.get? S = some { cls := .type "bytearray", data := .bytearray #[] })
    (hR : ∀ h' t' k', (∀ b o, b ≠ I → b ≠ S → s.heap.get? b = some o → h'.get? b = some o) → R (.ok (.ret (.bytes #[n.toNat.toUInt8] t'))) { s with heap := h', toks := k' }) :
    codeAny (model prog w) A (.builtin "bytes.__new__.loop" ⟨[.type "bytes", .ref I, .ref S], []⟩) R s := by
  have nI : I ∉ hAddr A.handled := by
    obtain ⟨o, ho, _, hd⟩ := id hit
    exact HAt.notFields ho (fun fs e => by rw [hd] at e; cases e; intro q; cases q) H
  have nS : S ∉ hAddr A.handled := HAt.notFields hS (fun fs e => nomatch e) H
  refine codeAny_builtin F.bm_entry_loop ?_
  rw [Around.under_plainId F.bm_plain_loop _]
  show wpAny _ A.in1 (pyNext (.ref I) >>= _) _ _ s
  refine wpAny_bind (wpAny_pyNext_list_item (x := .int n t) hit hl (by simp) fun h' hit' hs => ?_)
  have hS' : h'.get? S = some { cls := .type "bytearray", data := .bytearray #[] } := (hs.2 S (Ne.symm hIS)).trans hS
  refine wpAny_bind (wpAny_holding (wpAny_of_eq (rfl : asIndex (.int n t) = pure n) ?_))
  refine wpAny_bind (wpAny_letGo ?_)
  refine bm_if_false (by simp only [Bool.or_eq_false_iff, decide_eq_false_iff_not]; omega) ?_
  refine wpAny_bind ?_
  show wpAny _ _ (updateBytearray S (·.push n.toNat.toUInt8)) _ _ _
  unfold updateBytearray
  refine wpAny_bind (wpAny_load hS' ?_)
  show wpAny _ _ (update S (Obj.mapBytearray (·.push n.toNat.toUInt8)) >>= fun _ => lookBehind S) _ _ _
  refine wpAny_bind (wpAny_update hS' ?_)
  have hS₂ : (h'.update S (Obj.mapBytearray (·.push n.toNat.toUInt8))).get? S = some { cls := .type "bytearray", data := .bytearray #[n.toNat.toUInt8] } :=
    Heap.get?_update_self (Obj.mapBytearray (·.push n.toNat.toUInt8)) hS' rfl
  have k1 : ∀ b o, b ≠ I → b ≠ S → s.heap.get? b = some o → (h'.update S (Obj.mapBytearray (·.push n.toNat.toUInt8))).get? b = some o :=
    fun b o hbI hbS e => (Heap.get?_update_other _ _ (Ne.symm hbS)).trans (hs.extBut b o hbI e)
  refine wpAny_lookBehind hS₂ ?_ ?_
  · show (if (#[n.toNat.toUInt8] : Array UInt8).size > sizeLine then some "bytearray:memory" else none) = none
    rw [if_neg]
    rw [sizeLine_eq]
    exact (by decide : ¬ (1 > 16777216))
  · refine wpAny_pure ⟨plainId_quiet F.bm_plain_loop _, b1_end (s := { s with heap := h'.update S (Obj.mapBytearray (·.push n.toNat.toUInt8)) }) (l := l) (n := n) (t := t) ?_ hIS ?_ ?_ hS₂ fun h3 t' k' hk3 => ?_⟩
    · exact H.frame fun b hb o e => k1 b o (fun q => nI (q ▸ hb)) (fun q => nS (q ▸ hb)) e
    · exact (hl.extBut hs.extBut hlI).extBut (Heap.SameBut.update ..).extBut hlS
    · exact hit'.extBut (Heap.SameBut.update ..).extBut hIS
    · exact hR h3 t' k' fun b o hbI hbS e => hk3 b o hbI (k1 b o hbI hbS e)

theorem b1_new {l : Addr} {n : Int} {t : Tok} {Q : Value → Shared → Prop} (H : HAt A.handled s.heap) (hl : s.heap.IsList l #[.int n t]) (h0 : 0 ≤ n) (h1 : n < 256)
    (hQ : ∀ h' t k, (∀ b o, s.heap.get? b = some o → h'.get? b = some o) → Q (.bytes #[n.toNat.toUInt8] t) { s with heap := h', toks := k }) :
    codeAny (model prog w) A (.call (.builtin "bytes.__new__") ⟨[.type "bytes", .ref l], []⟩) (wants Q E) s := by
  refine codeAny_of_tree ?_
  show wpAny _ A.in1 (do checkBuiltinCall "bytes.__new__" ⟨[.type "bytes", .ref l], []⟩; again (.builtin "bytes.__new__" ⟨[.type "bytes", .ref l], []⟩)) _ _ s
  refine wpAny_bind (wpAny_of_eq (F.bm_newCall _) (wpAny_pure ⟨plainId_quiet F.bm_plain _, codeAny_builtin F.bm_entry ?_⟩))
  rw [Around.under_plainId F.bm_plain _]
  have hT : s.TypeIs (.ref l) "list" := hl.typeIs
  obtain ⟨ol, hol, hoc, nl, hod⟩ := id hl
  unfold Builtin.«bytes.__new__»
  refine wpAny_bind (wpAny_of_eq (a := true) rfl ?_)
  refine bm_if_false rfl ?_
  refine wpAny_bind (wpAny_of_eq F.bm_sub ?_)
  refine bm_if_false rfl ?_
  refine wpAny_bind (wpAny_of_eq (F.bm_bind _) ?_)
  refine wpAny_bind (wpAny_of_eq (a := ()) rfl ?_)
  refine wpAny_bind (wpAny_of_eq (a := ()) rfl ?_)
  refine bm_if_false rfl ?_
  refine wpAny_bind (wpAny_specialOf hT F.bm_no_bytes ?_)
  refine wpAny_bind (wpAny_bind ?_)
  show wpAny _ _ (load l >>= _) _ _ _
  refine wpAny_bind (wpAny_load hol ?_)
  rw [hod]
  refine wpAny_pure (wpAny_pure ?_)
  refine bm_if_false rfl ?_
  refine wpAny_bind (wpAny_specialOf hT F.bm_no_index ?_)
  refine bm_if_true rfl ?_
  first
    | show wpAny _ _ (Builtin.Bytes.buffer? "bytes.__new__" (.ref l) true >>= _) _ _ _
    | (refine wpAny_bind ?_; show wpAny _ _ (Builtin.Bytes.buffer? "bytes.__new__" (.ref l) true >>= _) _ _ _)
  refine wpAny_bind ?_
  unfold Builtin.Bytes.buffer?
  refine wpAny_bind (wpAny_specialOf hT F.bm_no_buffer ?_)
  refine wpAny_bind (wpAny_specialOf hT F.bm_no_buffer ?_)
  refine wpAny_pure ?_
  refine wpAny_bind (wpAny_tryCatch (wpAny_pyIter_list hl ?_))
  have hl₁ : (s.heap.push { cls := .type "list_iterator", data := .fields #[.ref l, .int 0 0] }).IsList l #[.int n t] := hl.push _
  have hT₁ : ({ s with heap := s.heap.push { cls := .type "list_iterator", data := .fields #[.ref l, .int 0 0] } } : Shared).TypeIs (.ref l) "list" := Heap.IsList.typeIs (s := { s with heap := s.heap.push { cls := .type "list_iterator", data := .fields #[.ref l, .int 0 0] } }) hl₁
  refine wpAny_bind (wpAny_holding ?_)
  unfold Builtin.Bytes.lengthHint
  refine wpAny_bind (wpAny_specialOf hT₁ slot_list_len.lookup ?_)
  dsimp only
  rw [F.bm_split]
  dsimp only
  refine wpAny_bind (wpAny_isInstance hT₁ F.bm_sub_list ?_)
  refine bm_if_false rfl ?_
  refine bm_if_true (by decide +kernel) ?_
  refine wpAny_pure ?_
  refine wpAny_bind ?_
  unfold Builtin.Bytes.newBytearray
  refine wpAny_newObj_type ?_ (Nat.zero_le _)
  have hI : ((s.heap.push { cls := .type "list_iterator", data := .fields #[.ref l, .int 0 0] }).push { cls := .type "bytearray", data := .bytearray #[] }).IsListIter s.heap.objs.size l 0 :=
    ⟨_, Heap.get?_push_of_some _ (Heap.get?_push_size _ rfl), rfl, rfl⟩
  have hlt : l < s.heap.objs.size := Heap.lt_size hol
  have hsz : (s.heap.push { cls := .type "list_iterator", data := .fields #[.ref l, .int 0 0] }).objs.size = s.heap.objs.size + 1 := Heap.size_push _ _
  have H2 : HAt A.handled ((s.heap.push { cls := .type "list_iterator", data := .fields #[.ref l, .int 0 0] }).push { cls := .type "bytearray", data := .bytearray #[] }) := H.keep fun b o e => Heap.get?_push_of_some _ (Heap.get?_push_of_some _ e)
  have main := b1_loop (prog := prog) (w := w) (A := A) (R := wants Q E) (l := l) (n := n) (t := t) (I := s.heap.objs.size) (S := (s.heap.push { cls := .type "list_iterator", data := .fields #[.ref l, .int 0 0] }).objs.size)
    (s := { s with heap := (s.heap.push { cls := .type "list_iterator", data := .fields #[.ref l, .int 0 0] }).push { cls := .type "bytearray", data := .bytearray #[] } }) H2 h0 h1
    (by rw [hsz]; exact Nat.ne_of_lt (Nat.lt_succ_self _)) (Nat.ne_of_lt hlt) (by rw [hsz]; exact Nat.ne_of_lt (Nat.lt_succ_of_lt hlt)) (hl₁.push _) hI (Heap.get?_push_size _ rfl)
    fun h' t k hk => hQ h' t k fun b o e => hk b o (Nat.ne_of_lt (Heap.lt_size e)) (by rw [hsz]; exact Nat.ne_of_lt (Nat.lt_succ_of_lt (Heap.lt_size e))) (Heap.get?_push_of_some _ (Heap.get?_push_of_some _ e))
  first
    | exact wpAny_pure ⟨plainId_quiet F.bm_plain_loop _, main⟩
    | exact wpAny_pure (wpAny_pure ⟨plainId_quiet F.bm_plain_loop _, main⟩)

theorem b1_ints {n : Int} (h0 : 0 ≤ n) (h1 : n < 256) : KBw.bInts #[n.toNat.toUInt8] = [n] := by
  have := KBa.ints_make (ns := [n]) (fun k hk => by rw [List.mem_singleton.mp hk]; exact ⟨h0, h1⟩)
  exact this

/-- bytes([n]) -/
theorem call_b1 {D : Addr} {n : Int} {t : Tok} {k : Nat} {Q : Value → Shared → Prop} (H : HN A.handled news) (F' : Fr h₀ L s.heap m) (N : News h₀ L s.heap news) (hm : (D, listOf #[.int n t] k) ∈ news) (h0 : 0 ≤ n) (h1 : n < 256)
    (h : ∀ (b : Array UInt8) h' t' k', Fr h₀ L h' m → News h₀ L h' news → KBw.bInts b = [n] → Q (.bytes b t') { s with heap := h', toks := k' }) :
    wpAny (model prog w) A (call (.type "bytes") [.ref D]) Q E s := by
  have hl : s.heap.IsList D #[.int n t] := ⟨_, (N _ hm).1, rfl, _, rfl⟩
  refine callType_codes (Q₁ := fun obj s₁ => s₁.TypeIs obj "bytes" ∧ Q obj s₁) F.bm_called (F.bm_typeCall _) F.entry_object_init
    (b1_new (H.at N) hl h0 h1 fun h' t k hk => ⟨PySem.W.typeIs_bytes _ _ _, h _ _ _ _ (F'.keeps hk) (fun q hq => ⟨hk _ _ (N q hq).1, (N q hq).2⟩) (b1_ints h0 h1)⟩) fun obj s₁ h₁ => ?_
  exact ⟨h₁.1, F.args_object_init_2 obj _, object_init_meets F.bm_called.init.lookup F.bm_called.made (by decide) prog w A.in1 _ s₁ ⟨h₁.1, rfl, h₁.2⟩⟩

/-- one byte and three -/
theorem cat13 {b c : Array UInt8} {t u : Tok} {e x y z : Int} {Q : Value → Shared → Prop} (hb : KBw.bInts b = [e]) (hc : KBw.bInts c = [x, y, z]) (h : ∀ (d : Array UInt8) t' k, KBw.bInts d = [e, x, y, z] → Q (.bytes d t') { s with toks := k }) :
    wpAny (model prog w) A (binaryOp .Add (.bytes b t) (.bytes c u)) Q E s :=
  KBa.add_K hb hc (by simp) fun t' k hd => h _ t' k hd
end
end Mine
end
section
open PySem PySem.W PyProof.Rows PySem.Calls
set_option maxRecDepth 100000
set_option maxHeartbeats 1000000
namespace Mine
def hexStep (out : Array Nat) (p : UInt8 × Nat) : Array Nat := (out.push (Builtin.Bytes.hexDigit (p.1.toNat / 16))).push (Builtin.Bytes.hexDigit (p.1.toNat % 16))
def hexText (b : Array UInt8) : PySem.Str := ⟨b.toList.zipIdx.foldl hexStep #[]⟩
theorem hex_size : ∀ (l : List (UInt8 × Nat)) (a : Array Nat), (l.foldl hexStep a).size = a.size + 2 * l.length
  | [], a => by simp
  | p :: r, a => by
    rw [List.foldl_cons, hex_size r, List.length_cons]
    simp only [hexStep, Array.size_push]
    omega
theorem hex_length (b : Array UInt8) : (hexText b).length = 2 * b.size := by
  show (b.toList.zipIdx.foldl hexStep #[]).size = _
  rw [hex_size]
  simp
section
variable {prog : Program} {w : World} {A : Around} {E : Value → Shared → Prop} {s : Shared} {K : Frag} {h₀ : Heap} {L : Addr} {m : PySem.Str → Option Value} {news : List (Addr × Obj)}
theorem hex_method {M : Model} {b : Array UInt8} {t : Tok} {pl : Sem Bool} {Q : Value × List Value → Shared → Prop} (h : Q (.builtin "bytes.hex", [.bytes b t]) s) : wpAny M A (getMethod (.bytes b t) "hex" pl) Q E s :=
  KBd.method_of (.bytes b t) (PySem.W.typeIs_bytes _ _ _) FB.slot_bytes_hex FB.type_bytes_hex KBd.noRef h
theorem hex_call {b : Array UInt8} {t : Tok} {Q : Value → Shared → Prop} (hb : b.size ≤ 1000) (h : ∀ t' k, (hexText b).length = 2 * b.size → Q (.str (hexText b) t') { s with toks := k }) :
    wpAny (model prog w) A (call (.builtin "bytes.hex") [.bytes b t]) Q E s := by
  refine wpAny_call_entry FB.slot_bytes_hex (PySem.W.typeIs_bytes _ _ _) FB.entry_bytes_hex ?_ (FB.args_bytes_hex_1 _)
  unfold Builtin.«bytes.hex» Builtin.Bytes.hexM Builtin.Bytes.hexOf
  refine wpAny_bind (wpAny_of_eq (a := [none, none]) (by kernel_rfl) ?_)
  refine wpAny_bind (wpAny_of_eq (a := (1 : Int)) rfl ?_)
  refine wpAny_bind (wpAny_of_eq (a := ()) rfl ?_)
  refine wpAny_bind (wpAny_of_eq (a := (none : Option Nat)) rfl ?_)
  refine wpAny_bind (wpAny_of_eq (a := b) rfl ?_)
  show wpAny _ _ (mkStr (hexText b) >>= fun v => ret v) _ _ _
  refine wpAny_bind (wpAny_mkStr (wpAny_pure ⟨_, rfl, h _ _ (hex_length b)⟩) ?_)
  rw [hex_length, sizeLine_eq]
  omega
end
end Mine
end
section
open PySem PySem.W PyProof.Rows PySem.Calls
set_option maxRecDepth 100000
set_option maxHeartbeats 1000000
namespace Mine
def valI (e n : Int) : Int := if e < 3 then (n % 8388608).fdiv (2 ^ (8 * (3 - e)).toNat) else (n % 8388608) * 2 ^ (8 * (e - 3)).toNat
theorem valI_lo {e n : Int} (h : e < 3) : (n % 8388608).fdiv (2 ^ (8 * (3 - e)).toNat) = valI e n := by unfold valI; rw [if_pos h]
theorem valI_hi {e n : Int} (h : ¬ e < 3) : (n % 8388608) * 2 ^ (8 * (e - 3)).toNat = valI e n := by unfold valI; rw [if_neg h]
theorem and_mask (x : Int) : Builtin.bitAnd x 8388607 = x % 8388608 := kbt_mask x 23
theorem and_sign (x : Int) : Builtin.bitAnd x 8388608 = (x / 8388608 % 2) * 8388608 := kbt_bit x 23
theorem or_128 {x : Int} (h0 : 0 ≤ x) (h1 : x < 128) : Builtin.bitOr x 128 = x + 128 := by
  have h : ∀ n : Fin 128, Builtin.bitOr ((n.val : Nat) : Int) 128 = ((n.val : Nat) : Int) + 128 := by decide +kernel
  have := h ⟨x.toNat, by omega⟩
  simp only [Int.toNat_of_nonneg h0] at this
  exact this
section
variable {prog : Program} {w : World} {A : Around} {E : Value → Shared → Prop} {s : Shared} {t u : Tok}
theorem mask_int {x : Int} {Q : Value → Shared → Prop} (h : Q (.int (x % 8388608) s.toks) { s with toks := s.toks + 1 }) : wpAny (model prog w) A (binaryOp .BitAnd (.int x t) (.int 8388607 u)) Q E s :=
  and_int (by rw [and_mask]; exact h)
theorem sign_int {x : Int} {Q : Value → Shared → Prop} (h : Q (.int ((x / 8388608 % 2) * 8388608) s.toks) { s with toks := s.toks + 1 }) : wpAny (model prog w) A (binaryOp .BitAnd (.int x t) (.int 8388608 u)) Q E s :=
  and_int (by rw [and_sign]; exact h)
theorem shl_mask {x n : Int} {Q : Value → Shared → Prop} (h0 : 0 ≤ n) (h1 : n ≤ 100000) (h : Q (.int ((x % 8388608) * 2 ^ n.toNat) s.toks) { s with toks := s.toks + 1 }) : wpAny (model prog w) A (binaryOp .LShift (.int (x % 8388608) t) (.int n u)) Q E s :=
  lshift_int_small h0 (by omega) (by omega) h
theorem bit_or_128 {x : Int} {Q : Value → Shared → Prop} (h0 : 0 ≤ x) (h1 : x < 128) (h : Q (.int (x + 128) s.toks) { s with toks := s.toks + 1 }) : wpAny (model prog w) A (binaryOp .BitOr (.int x t) (.int 128 u)) Q E s :=
  or_int (by rw [or_128 h0 h1]; exact h)
end
end Mine
end
section
open PySem PySem.W PyProof.Rows PySem.Calls
set_option maxRecDepth 100000
set_option maxHeartbeats 1000000
namespace Mine
theorem tell_use {w : World} {mean : ExcName → Option Value} {mg mb : PySem.Str → Option Value} {D U : Nat} {hv : Option Value} {f : Addr} {vs : List Value} {news news' : List (Addr × Obj)} {Post : Value → Prop}
    {dp un : Nat} {gd : Option (List Code)} {cn : PySem.Str} {cs : Scope} {a : Addr} {ccd : Value} {cl : List (PySem.Str × Addr)} {outer : List Env} {A₀ : Around} {base h₀ : Heap} {L : Addr} {m : PySem.Str → Option Value} {s : Shared} {Q E : Value → Shared → Prop}
    (C : Tell w mean mg mb D U hv f vs news news' Post) (B : Below A₀ base outer h₀) (F : Fr h₀ L s.heap m) (X : (hd.heap_39 w.params).In h₀) (N : News h₀ L s.heap news) (T : Top hd.view_39 LOO mean mg mb h₀) (hk : cs.kind = .function)
    (hd : dp + D < recursionLimit) (hu : un + U < cLine) (ret : ∀ r h' tk', Fr h₀ L h' m → News h₀ L h' news' → Post r → Q r { s with heap := h', toks := tk' }) :
    wpAny (model PR w) (ktrH hv dp un gd cn cs L a ccd cl outer) (call (.ref f) vs) Q E s :=
  C dp un gd cn cs a ccd cl outer A₀ base h₀ L m s Q E B F X N T hk hd hu ret
end Mine
end
section
open PySem PySem.W PyProof.Rows
set_option maxHeartbeats 1000000
namespace Mine
open Builtin.Int (intBits)
def exI (v : Int) : Int := ((intBits v : Int) + 7).fdiv 8
def sgI (v : Int) : Int := if exI v ≤ 3 then v * 2 ^ (8 * (3 - exI v)).toNat else v.fdiv (2 ^ (8 * (exI v - 3)).toNat)
def ownE (v : Int) : Int := if sgI v / 8388608 % 2 * 8388608 ≠ 0 then exI v + 1 else exI v
def ownS (v : Int) : Int := if sgI v / 8388608 % 2 * 8388608 ≠ 0 then (sgI v).fdiv (2 ^ Int.toNat 8) else sgI v

theorem bits_up (N : Nat) : N < 2 ^ intBits (N : Int) := by
  have := intBits_le_iff.mp (Nat.le_refl (intBits (N : Int)))
  simpa using this
theorem bits_dn (N : Nat) (h : 0 < N) : 1 ≤ intBits (N : Int) ∧ 2 ^ (intBits (N : Int) - 1) ≤ N := by
  have h1 : 1 ≤ intBits (N : Int) := by
    rcases Nat.lt_or_ge (intBits (N : Int)) 1 with c | c
    · have := intBits_le_iff.mp (Nat.le_of_lt_succ c)
      simp at this
      omega
    · exact c
  refine ⟨h1, ?_⟩
  rcases Nat.lt_or_ge N (2 ^ (intBits (N : Int) - 1)) with c | c
  · have : intBits (N : Int) ≤ intBits (N : Int) - 1 := intBits_le_iff.mpr (by simpa using c)
    omega
  · exact c
theorem bits_le {N m : Nat} (h : N < 2 ^ m) : intBits (N : Int) ≤ m := intBits_le_iff.mpr (by simpa using h)

theorem cast_pow2 (a : Nat) : ((2 : Int) ^ a) = ((2 ^ a : Nat) : Int) := by rw [Int.natCast_pow]; rfl
theorem fdiv_pow (N a : Nat) : ((N : Int)).fdiv (2 ^ a) = ((N / 2 ^ a : Nat) : Int) := by
  rw [cast_pow2, Int.fdiv_eq_ediv_of_nonneg _ (Int.natCast_nonneg _), Int.natCast_ediv]
theorem p8 (a : Nat) : 2 ^ (8 * a) = 256 ^ a := by rw [Nat.pow_mul]

theorem ex_nat (N : Nat) : exI (N : Int) = (((intBits (N : Int) + 7) / 8 : Nat) : Int) := by
  unfold exI
  rw [Int.fdiv_eq_ediv_of_nonneg _ (by decide)]
  omega
theorem sg_lo {N k : Nat} (hk : exI (N : Int) = (k : Int)) (h : k ≤ 3) : sgI (N : Int) = ((N * 256 ^ (3 - k) : Nat) : Int) := by
  unfold sgI
  rw [hk, if_pos (by omega)]
  have e : (8 * (3 - (k : Int))).toNat = 8 * (3 - k) := by omega
  rw [e, cast_pow2, p8, Int.natCast_mul]
theorem sg_hi {N k : Nat} (hk : exI (N : Int) = (k : Int)) (h : 3 < k) : sgI (N : Int) = ((N / 256 ^ (k - 3) : Nat) : Int) := by
  unfold sgI
  rw [hk, if_neg (by omega)]
  have e : (8 * ((k : Int) - 3)).toNat = 8 * (k - 3) := by omega
  rw [e, fdiv_pow, p8]

/-- the significand before the sign is looked at, in bounds -/
theorem sg_bounds {N : Nat} (h0 : 0 < N) (h1 : N < 2 ^ 256) : ∃ k t sg : Nat, exI (N : Int) = (k : Int) ∧ sgI (N : Int) = (sg : Int) ∧ 1 ≤ k ∧ k ≤ 32 ∧ 1 ≤ t ∧ t ≤ 8 ∧ 2 ^ (15 + t) ≤ sg ∧ sg < 2 ^ (16 + t) ∧
    ((k ≤ 3 ∧ sg = N * 256 ^ (3 - k)) ∨ (3 < k ∧ sg = N / 256 ^ (k - 3))) := by
  have hu := bits_up N
  obtain ⟨hb, hd⟩ := bits_dn N h0
  have hle := bits_le h1
  have hk := ex_nat N
  generalize intBits (N : Int) = bl at *
  obtain ⟨k, hk'⟩ : ∃ k, k = (bl + 7) / 8 := ⟨_, rfl⟩
  rw [← hk'] at hk
  have ht : bl = 8 * (k - 1) + (bl - 8 * (k - 1)) := by omega
  obtain ⟨t, hte⟩ : ∃ t, t = bl - 8 * (k - 1) := ⟨_, rfl⟩
  have ht1 : 1 ≤ t := by omega
  have ht8 : t ≤ 8 := by omega
  by_cases h3 : k ≤ 3
  · refine ⟨k, t, N * 256 ^ (3 - k), hk, sg_lo hk h3, by omega, by omega, ht1, ht8, ?_, ?_, .inl ⟨h3, rfl⟩⟩
    · have e : 2 ^ (15 + t) = 2 ^ (bl - 1) * 256 ^ (3 - k) := by rw [← p8, ← Nat.pow_add]; congr 1; omega
      rw [e]
      exact Nat.mul_le_mul_right _ hd
    · have e : 2 ^ (16 + t) = 2 ^ bl * 256 ^ (3 - k) := by rw [← p8, ← Nat.pow_add]; congr 1; omega
      rw [e]
      exact Nat.mul_lt_mul_of_pos_right hu (Nat.pow_pos (by decide))
  · have h3' : 3 < k := by omega
    have hp : 0 < 256 ^ (k - 3) := Nat.pow_pos (by decide)
    refine ⟨k, t, N / 256 ^ (k - 3), hk, sg_hi hk h3', by omega, by omega, ht1, ht8, ?_, ?_, .inr ⟨h3', rfl⟩⟩
    · rw [Nat.le_div_iff_mul_le hp]
      have e : 2 ^ (15 + t) * 256 ^ (k - 3) = 2 ^ (bl - 1) := by rw [← p8, ← Nat.pow_add]; congr 1; omega
      rw [e]
      exact hd
    · rw [Nat.div_lt_iff_lt_mul hp]
      have e : 2 ^ (16 + t) * 256 ^ (k - 3) = 2 ^ bl := by rw [← p8, ← Nat.pow_add]; congr 1; omega
      rw [e]
      exact hu

theorem sg_lt {N : Nat} (h1 : N < 2 ^ 256) : ∃ k sg : Nat, exI (N : Int) = (k : Int) ∧ sgI (N : Int) = (sg : Int) ∧ k ≤ 32 ∧ sg < 16777216 := by
  rcases Nat.eq_zero_or_pos N with rfl | h0
  · refine ⟨0, 0, by decide, by decide, by decide, by decide⟩
  · obtain ⟨k, t, sg, a, b, c, d, e, f, g, h, i⟩ := sg_bounds h0 h1
    refine ⟨k, sg, a, b, d, Nat.lt_of_lt_of_le h ?_⟩
    exact Nat.pow_le_pow_right (by decide) (by omega : 16 + t ≤ 24)

theorem own_zero : ownE 0 = 0 ∧ ownS 0 = 0 := by decide

theorem own_char {N : Nat} (h0 : 0 < N) (h1 : N < 2 ^ 256) : ∃ E S : Nat, ownE (N : Int) = (E : Int) ∧ ownS (N : Int) = (S : Int) ∧ 1 ≤ E ∧ E ≤ 33 ∧ S < 8388608 ∧
    ((E ≤ 3 ∧ S = N * 256 ^ (3 - E)) ∨ (3 < E ∧ S = N / 256 ^ (E - 3) ∧ 32768 ≤ S)) := by
  obtain ⟨k, t, sg, hk, hs, hk1, hk32, ht1, ht8, hlo, hhi, hf⟩ := sg_bounds h0 h1
  by_cases ht : t = 8
  · subst ht
    have l : 8388608 ≤ sg := hlo
    have u : sg < 16777216 := hhi
    have hc : (sg : Int) / 8388608 % 2 * 8388608 ≠ 0 := by omega
    have e8 : (2 : Nat) ^ Int.toNat 8 = 256 := by decide
    refine ⟨k + 1, sg / 256, ?_, ?_, by omega, by omega, by omega, ?_⟩
    · unfold ownE; rw [hs, if_pos hc, hk]; rfl
    · unfold ownS; rw [hs, if_pos hc, fdiv_pow, e8]
    · rcases hf with ⟨a, b⟩ | ⟨a, b⟩
      · by_cases h2 : k ≤ 2
        · refine .inl ⟨by omega, ?_⟩
          have e : 256 ^ (3 - k) = 256 ^ (3 - (k + 1)) * 256 := by rw [← Nat.pow_succ]; congr 1; omega
          rw [b, e, ← Nat.mul_assoc, Nat.mul_div_cancel _ (by decide)]
        · have h3 : k = 3 := by omega
          subst h3
          refine .inr ⟨by omega, ?_, by omega⟩
          rw [b]
          simp
      · refine .inr ⟨by omega, ?_, by omega⟩
        have e : 256 ^ (k + 1 - 3) = 256 ^ (k - 3) * 256 := by rw [← Nat.pow_succ]; congr 1; omega
        rw [b, e, Nat.div_div_eq_div_mul]
  · have u : sg < 8388608 := Nat.lt_of_lt_of_le hhi (Nat.pow_le_pow_right (by decide) (by omega : 16 + t ≤ 23))
    have l : 65536 ≤ sg := Nat.le_trans (Nat.pow_le_pow_right (by decide : 0 < 2) (by omega : 16 ≤ 15 + t)) hlo
    have hc : ¬ ((sg : Int) / 8388608 % 2 * 8388608 ≠ 0) := by omega
    refine ⟨k, sg, ?_, ?_, hk1, by omega, u, ?_⟩
    · unfold ownE; rw [hs, if_neg hc, hk]
    · unfold ownS; rw [hs, if_neg hc]
    · rcases hf with ⟨a, b⟩ | ⟨a, b⟩
      · exact .inl ⟨a, b⟩
      · exact .inr ⟨a, b, by omega⟩

theorem valI_nat_lo {e n : Nat} (h : e < 3) (hn : n < 8388608) : valI (e : Int) (n : Int) = ((n / 256 ^ (3 - e) : Nat) : Int) := by
  unfold valI
  rw [if_pos (by omega)]
  have e1 : (8 * (3 - (e : Int))).toNat = 8 * (3 - e) := by omega
  have e2 : (n : Int) % 8388608 = (n : Int) := by omega
  rw [e1, e2, fdiv_pow, p8]
theorem valI_nat_hi {e n : Nat} (h : 3 ≤ e) (hn : n < 8388608) : valI (e : Int) (n : Int) = ((n * 256 ^ (e - 3) : Nat) : Int) := by
  unfold valI
  rw [if_neg (by omega)]
  have e1 : (8 * ((e : Int) - 3)).toNat = 8 * (e - 3) := by omega
  have e2 : (n : Int) % 8388608 = (n : Int) := by omega
  rw [e1, e2, cast_pow2, p8, Int.natCast_mul]

/-- a form's value, as n' * 256^i with n' of 23 bits -/
theorem form_shape {e n : Nat} (hn : n < 8388608) : ∃ n' i : Nat, valI (e : Int) (n : Int) = ((n' * 256 ^ i : Nat) : Int) ∧ n' < 8388608 := by
  by_cases h : e < 3
  · exact ⟨n / 256 ^ (3 - e), 0, by rw [valI_nat_lo h hn]; simp, Nat.lt_of_le_of_lt (Nat.div_le_self _ _) hn⟩
  · exact ⟨n, e - 3, valI_nat_hi (by omega) hn, hn⟩

def nearI (v : Int) : Int := valI (ownE v) (ownS v)

/-- what the own form of a target stands for -/
theorem near_char {N : Nat} (h1 : N < 2 ^ 256) : ∃ M : Nat, nearI (N : Int) = (M : Int) ∧ M ≤ N ∧
    (M = N ∨ ∃ j S : Nat, 1 ≤ j ∧ M = S * 256 ^ j ∧ S = N / 256 ^ j ∧ 32768 ≤ S ∧ S < 8388608 ∧ ownE (N : Int) = ((j + 3 : Nat) : Int) ∧ ownS (N : Int) = (S : Int)) := by
  rcases Nat.eq_zero_or_pos N with rfl | h0
  · exact ⟨0, by decide, Nat.le_refl _, .inl rfl⟩
  · obtain ⟨E, S, hE, hS, hE1, hE33, hS23, hf⟩ := own_char h0 h1
    unfold nearI
    rw [hE, hS]
    rcases hf with ⟨a, b⟩ | ⟨a, b, c⟩
    · refine ⟨N, ?_, Nat.le_refl _, .inl rfl⟩
      by_cases h3 : E = 3
      · subst h3
        rw [valI_nat_hi (Nat.le_refl _) hS23, b]
        simp
      · rw [valI_nat_lo (by omega) hS23, b, Nat.mul_div_cancel _ (Nat.pow_pos (by decide))]
    · refine ⟨S * 256 ^ (E - 3), valI_nat_hi (by omega) hS23, ?_, .inr ⟨E - 3, S, by omega, rfl, b, c, hS23, ?_, rfl⟩⟩
      · rw [b]; exact Nat.div_mul_le_self _ _
      · omega

/-- of all forms, just those are at most a target that are at most what its own form stands for -/
theorem near_greatest {N e n : Nat} (h1 : N < 2 ^ 256) (hn : n < 8388608) : valI (e : Int) (n : Int) ≤ (N : Int) ↔ valI (e : Int) (n : Int) ≤ nearI (N : Int) := by
  obtain ⟨M, hM, hMN, hf⟩ := near_char h1
  obtain ⟨n', i, hP, hn'⟩ := form_shape (e := e) hn
  rw [hM, hP]
  constructor
  · intro h
    have h : n' * 256 ^ i ≤ N := Int.ofNat_le.mp h
    refine Int.ofNat_le.mpr ?_
    rcases hf with rfl | ⟨j, S, hj, rfl, hS, hlo, hhi, _, _⟩
    · exact h
    · by_cases hij : j ≤ i
      · have e : 256 ^ i = 256 ^ (i - j) * 256 ^ j := by rw [← Nat.pow_add]; congr 1; omega
        rw [e, ← Nat.mul_assoc] at h ⊢
        refine Nat.mul_le_mul_right _ ?_
        rw [hS]
        exact (Nat.le_div_iff_mul_le (Nat.pow_pos (by decide))).mpr h
      · have e : 256 ^ j = 256 ^ (j - 1 - i) * (256 ^ i * 256) := by rw [← Nat.pow_succ, ← Nat.pow_add]; congr 1; omega
        have p : 1 ≤ 256 ^ (j - 1 - i) := Nat.pow_pos (by decide)
        calc n' * 256 ^ i ≤ 8388608 * 256 ^ i := Nat.mul_le_mul_right _ (Nat.le_of_lt hn')
          _ = 32768 * (256 ^ i * 256) := by omega
          _ = 32768 * (1 * (256 ^ i * 256)) := by rw [Nat.one_mul]
          _ ≤ 32768 * (256 ^ (j - 1 - i) * (256 ^ i * 256)) := Nat.mul_le_mul_left _ (Nat.mul_le_mul_right _ p)
          _ = 32768 * 256 ^ j := by rw [e]
          _ ≤ S * 256 ^ j := Nat.mul_le_mul_right _ hlo
  · intro h
    exact Int.le_trans h (Int.ofNat_le.mpr hMN)

/-- the own form of what the own form stands for -/
theorem near_own {N : Nat} (h1 : N < 2 ^ 256) : ownE (nearI (N : Int)) = ownE (N : Int) ∧ ownS (nearI (N : Int)) = ownS (N : Int) := by
  obtain ⟨M, hM, hMN, hf⟩ := near_char h1
  rw [hM]
  rcases hf with rfl | ⟨j, S, hj, hMS, hS, hlo, hhi, hE, hO⟩
  · exact ⟨rfl, rfl⟩
  · have hpj : 0 < 256 ^ j := Nat.pow_pos (by decide)
    have h256 : 256 ≤ 256 ^ j := by
      have := Nat.pow_le_pow_right (n := 256) (by decide) hj
      simpa using this
    have hMbig : 8388608 ≤ M := by
      rw [hMS]
      exact Nat.le_trans (by decide : 8388608 ≤ 32768 * 256) (Nat.mul_le_mul hlo h256)
    obtain ⟨E, T, hE', hT', _, _, hT23, hg⟩ := own_char (N := M) (by omega) (Nat.lt_of_le_of_lt hMN h1)
    rcases hg with ⟨a, b⟩ | ⟨a, b, c⟩
    · have : M ≤ T := by rw [b]; exact Nat.le_mul_of_pos_right _ (Nat.pow_pos (by decide))
      omega
    · have hpE : 0 < 256 ^ (E - 3) := Nat.pow_pos (by decide)
      have hMS' : M / 256 ^ j = S := by rw [hMS, Nat.mul_div_cancel _ hpj]
      have l1 : 32768 * 256 ^ (E - 3) ≤ M := (Nat.le_div_iff_mul_le hpE).mp (b ▸ c)
      have u1 : M < 8388608 * 256 ^ (E - 3) := (Nat.div_lt_iff_lt_mul hpE).mp (b ▸ hT23)
      have l2 : 32768 * 256 ^ j ≤ M := by rw [hMS]; exact Nat.mul_le_mul_right _ hlo
      have u2 : M < 8388608 * 256 ^ j := by rw [hMS]; exact Nat.mul_lt_mul_of_pos_right hhi hpj
      have key : ∀ x y : Nat, x < y → M < 8388608 * 256 ^ x → 32768 * 256 ^ y ≤ M → False := by
        intro x y hxy hx hy
        have e : 256 ^ y = 256 ^ (y - 1 - x) * (256 ^ x * 256) := by rw [← Nat.pow_succ, ← Nat.pow_add]; congr 1; omega
        have p : 1 ≤ 256 ^ (y - 1 - x) := Nat.pow_pos (by decide)
        have q : 256 ^ x * 256 ≤ 256 ^ y := by rw [e]; exact Nat.le_mul_of_pos_left _ p
        omega
      have hj' : E - 3 = j := by
        rcases Nat.lt_trichotomy (E - 3) j with c1 | c1 | c1
        · exact (key _ _ c1 u1 l2).elim
        · exact c1
        · exact (key _ _ c1 u2 l1).elim
      rw [hE', hT', hE, hO]
      rw [hj', hMS'] at b
      exact ⟨by omega, by rw [b]⟩
end Mine
end
section
open PySem PySem.W PyProof.Rows
set_option maxHeartbeats 1000000
namespace Mine
open Builtin.Int (intBits)
section
variable {v : Int} (h0 : 0 ≤ v) (h1 : v < 2 ^ 256)
include h0 h1
theorem nat_of : ∃ N : Nat, v = (N : Int) ∧ N < 2 ^ 256 := by
  obtain ⟨N, rfl⟩ := Int.eq_ofNat_of_zero_le h0
  refine ⟨N, rfl, ?_⟩
  have e : ((2 : Int) ^ 256) = ((2 ^ 256 : Nat) : Int) := cast_pow2 256
  rw [e] at h1
  exact Int.ofNat_lt.mp h1
theorem bits256 : intBits v ≤ 256 := by
  obtain ⟨N, rfl, h⟩ := nat_of h0 h1
  exact bits_le h
theorem ex_bounds : 0 ≤ ((intBits v : Int) + 7).fdiv 8 ∧ ((intBits v : Int) + 7).fdiv 8 ≤ 32 := by
  have := bits256 h0 h1
  rw [Int.fdiv_eq_ediv_of_nonneg _ (by decide)]
  omega
theorem sgLo (h : ((intBits v : Int) + 7).fdiv 8 ≤ 3) : sgI v = v * 2 ^ (8 * (3 - ((intBits v : Int) + 7).fdiv 8)).toNat ∧ 0 ≤ v * 2 ^ (8 * (3 - ((intBits v : Int) + 7).fdiv 8)).toNat ∧ v * 2 ^ (8 * (3 - ((intBits v : Int) + 7).fdiv 8)).toNat < 16777216 := by
  have e : sgI v = v * 2 ^ (8 * (3 - ((intBits v : Int) + 7).fdiv 8)).toNat := by
    unfold sgI exI
    rw [if_pos h]
  obtain ⟨N, rfl, hN⟩ := nat_of h0 h1
  obtain ⟨k, sg, _, hs, _, hb⟩ := sg_lt hN
  rw [← e, hs]
  exact ⟨rfl, by omega, by omega⟩
theorem sgHi (h : ¬ ((intBits v : Int) + 7).fdiv 8 ≤ 3) : sgI v = v.fdiv (2 ^ (8 * (((intBits v : Int) + 7).fdiv 8 - 3)).toNat) ∧ 0 ≤ v.fdiv (2 ^ (8 * (((intBits v : Int) + 7).fdiv 8 - 3)).toNat) ∧ v.fdiv (2 ^ (8 * (((intBits v : Int) + 7).fdiv 8 - 3)).toNat) < 16777216 := by
  have e : sgI v = v.fdiv (2 ^ (8 * (((intBits v : Int) + 7).fdiv 8 - 3)).toNat) := by
    unfold sgI exI
    rw [if_neg h]
  obtain ⟨N, rfl, hN⟩ := nat_of h0 h1
  obtain ⟨k, sg, _, hs, _, hb⟩ := sg_lt hN
  rw [← e, hs]
  exact ⟨rfl, by omega, by omega⟩
theorem own_bounds : 0 ≤ ownE v ∧ ownE v ≤ 33 ∧ 0 ≤ ownS v ∧ ownS v < 8388608 := by
  obtain ⟨N, rfl, hN⟩ := nat_of h0 h1
  rcases Nat.eq_zero_or_pos N with rfl | hp
  · decide
  · obtain ⟨E, S, hE, hS, a, b, c, _⟩ := own_char hp hN
    rw [hE, hS]
    omega
theorem near_bounds : 0 ≤ nearI v ∧ nearI v ≤ v := by
  obtain ⟨N, rfl, hN⟩ := nat_of h0 h1
  obtain ⟨M, hM, hMN, _⟩ := near_char hN
  rw [hM]
  omega
theorem near_lt : nearI v < 2 ^ 256 := Int.lt_of_le_of_lt (near_bounds h0 h1).2 h1
theorem near_same : ownE (nearI v) = ownE v ∧ ownS (nearI v) = ownS v := by
  obtain ⟨N, rfl, hN⟩ := nat_of h0 h1
  exact near_own hN
theorem near_great {e n : Int} (he : 0 ≤ e) (hn0 : 0 ≤ n) (hn : n < 8388608) : valI e n ≤ v ↔ valI e n ≤ nearI v := by
  obtain ⟨N, rfl, hN⟩ := nat_of h0 h1
  obtain ⟨e', rfl⟩ := Int.eq_ofNat_of_zero_le he
  obtain ⟨n', rfl⟩ := Int.eq_ofNat_of_zero_le hn0
  exact near_greatest hN (by omega)
/-- smaller targets' own forms stand for no more -/
theorem near_mono {u : Int} (hu0 : 0 ≤ u) (hu1 : u < 2 ^ 256) (h : u ≤ v) : nearI u ≤ nearI v := by
  have b := own_bounds hu0 hu1
  have := (near_great (v := v) h0 h1 b.1 b.2.2.1 b.2.2.2).mp (Int.le_trans (near_bounds hu0 hu1).2 h)
  exact this
end
theorem valI_nonneg {e n : Int} (he : 0 ≤ e) (hn0 : 0 ≤ n) (hn : n < 8388608) : 0 ≤ valI e n := by
  obtain ⟨e', rfl⟩ := Int.eq_ofNat_of_zero_le he
  obtain ⟨n', rfl⟩ := Int.eq_ofNat_of_zero_le hn0
  obtain ⟨a, i, h, _⟩ := form_shape (e := e') (n := n') (by omega)
  rw [h]
  exact Int.natCast_nonneg _
/-- a form's value has a form for the same -/
theorem near_form {e n : Int} (he : 0 ≤ e) (hn0 : 0 ≤ n) (hn : n < 8388608) (hv : valI e n < 2 ^ 256) : nearI (valI e n) = valI e n := by
  have h0 := valI_nonneg he hn0 hn
  have a := (near_great h0 hv he hn0 hn).mp (Int.le_refl _)
  have b := (near_bounds h0 hv).2
  omega
/-- the value as the law reckons it -/
theorem plain_eq {e n : Int} (he : 0 ≤ e) (hn0 : 0 ≤ n) (hn : n < 8388608) : (n * 256 ^ (max 0 (e - 3)).toNat).fdiv (256 ^ (max 0 (3 - e)).toNat) = valI e n := by
  obtain ⟨e', rfl⟩ := Int.eq_ofNat_of_zero_le he
  obtain ⟨n', rfl⟩ := Int.eq_ofNat_of_zero_le hn0
  have hn' : n' < 8388608 := by omega
  have c : ∀ a : Nat, ((256 : Int) ^ a) = ((256 ^ a : Nat) : Int) := fun a => by rw [Int.natCast_pow]; rfl
  by_cases h : e' < 3
  · have e1 : (max 0 ((e' : Int) - 3)).toNat = 0 := by omega
    have e2 : (max 0 (3 - (e' : Int))).toNat = 3 - e' := by omega
    rw [valI_nat_lo h hn', e1, e2, Int.pow_zero, Int.mul_one, c, Int.fdiv_eq_ediv_of_nonneg _ (Int.natCast_nonneg _), Int.natCast_ediv]
  · have e1 : (max 0 ((e' : Int) - 3)).toNat = e' - 3 := by omega
    have e2 : (max 0 (3 - (e' : Int))).toNat = 0 := by omega
    rw [valI_nat_hi (by omega) hn', e1, e2, Int.pow_zero, c, Int.fdiv_eq_ediv_of_nonneg _ (by decide), Int.ediv_one, Int.natCast_mul]
theorem valI_sign {e n : Int} : valI e (n + 8388608) = valI e n := by
  unfold valI
  have : (n + 8388608) % 8388608 = n % 8388608 := by omega
  rw [this]
/-- the significand's three bytes, and back -/
theorem bytes3 {S : Int} (h0 : 0 ≤ S) (h1 : S < 16777216) : (S / 256 / 256 % 256 * 256 + S / 256 % 256) * 256 + S % 256 = S := by omega
end Mine
end
section
open PySem PySem.W PyProof.Rows
set_option maxHeartbeats 1000000
namespace Mine
open Builtin.Int (intBits)
def formB (e n : Int) : List Int := [e, n / 256 / 256 % 256, n / 256 % 256, n % 256]
def ownB (v : Int) : List Int := formB (ownE v) (ownS v)
theorem shr8 {X : Int} (h0 : 0 ≤ X) (h1 : X < 16777216) : 0 ≤ X.fdiv (2 ^ Int.toNat 8) ∧ X.fdiv (2 ^ Int.toNat 8) < 16777216 := by
  have e8 : (2 : Int) ^ Int.toNat 8 = 256 := by decide
  rw [e8, Int.fdiv_eq_ediv_of_nonneg _ (by decide)]
  omega
section
variable {v X : Int} {b : Array UInt8}
theorem own_sign {x : Int} (hs : sgI v = X) (hx : ((intBits v : Int) + 7).fdiv 8 = x) (c : X / 8388608 % 2 * 8388608 ≠ 0) (h : KBw.bInts b = formB (x + 1) (X.fdiv (2 ^ Int.toNat 8))) : KBw.bInts b = ownB v := by
  rw [h]
  unfold ownB ownE ownS exI
  rw [hs, if_pos c, if_pos c, hx]
theorem own_plain {x : Int} (hs : sgI v = X) (hx : ((intBits v : Int) + 7).fdiv 8 = x) (c : X / 8388608 % 2 * 8388608 = 0) (h : KBw.bInts b = formB x X) : KBw.bInts b = ownB v := by
  rw [h]
  unfold ownB ownE ownS exI
  rw [hs, if_neg (fun h => h c), if_neg (fun h => h c), hx]
end
theorem neg_yes {x y z V : Int} (hx : 0 ≤ x ∧ x < 256) (hy : 0 ≤ y ∧ y < 256) (hz : 0 ≤ z ∧ z < 256) (h : ((x * 256 + y) * 256 + z) / 8388608 % 2 * 8388608 ≠ 0) : Value.bool (V != 0) = Value.bool (decide (128 ≤ x ∧ V ≠ 0)) := by
  have hx' : 128 ≤ x := by omega
  congr 1
  by_cases hv : V = 0 <;> simp [hv, hx']
theorem neg_no {x y z V : Int} (hx : 0 ≤ x ∧ x < 256) (hy : 0 ≤ y ∧ y < 256) (hz : 0 ≤ z ∧ z < 256) (h : ((x * 256 + y) * 256 + z) / 8388608 % 2 * 8388608 = 0) : Value.bool (((x * 256 + y) * 256 + z) / 8388608 % 2 * 8388608 != 0) = Value.bool (decide (128 ≤ x ∧ V ≠ 0)) := by
  have hx' : ¬ 128 ≤ x := by omega
  rw [h]
  congr 1
  simp [hx']
theorem Be32.bits {b : Array UInt8} {v : Int} (h : Be32 b v) : intBits v ≤ 256 := bits256 h.lo h.hi
theorem Be32.ex {b : Array UInt8} {v : Int} (h : Be32 b v) : 0 ≤ ((intBits v : Int) + 7).fdiv 8 ∧ ((intBits v : Int) + 7).fdiv 8 ≤ 32 := ex_bounds h.lo h.hi
end Mine
end
section
open PySem PySem.W PyProof.Rows PySem.Calls
set_option maxRecDepth 100000
set_option maxHeartbeats 1000000
namespace Mine
section
variable {prog : Program} {w : World} {A : Around} {E : Value → Shared → Prop} {s : Shared} {t u v : Tok}
theorem pow_256_32 {Q : Value → Shared → Prop} (h : Q (.int (2 ^ 256) s.toks) { s with toks := s.toks + 1 }) : wpAny (model prog w) A (binaryOp .Pow (.int 256 t) (.int 32 u)) Q E s := by
  refine pow_int_small (by decide) (by decide) (by decide) ?_
  have e : (256 : Int) ^ Int.toNat 32 = 2 ^ 256 := by decide
  rw [e]
  exact h
theorem pow_2_256 {Q : Value → Shared → Prop} (h : Q (.int (2 ^ 256) s.toks) { s with toks := s.toks + 1 }) : wpAny (model prog w) A (binaryOp .Pow (.int 2 t) (.int 256 u)) Q E s := by
  refine pow_int_small (by decide) (by decide) (by decide) ?_
  have e : (2 : Int) ^ Int.toNat 256 = 2 ^ 256 := by decide
  rw [e]
  exact h
theorem pow_2_23 {Q : Value → Shared → Prop} (h : Q (.int 8388608 s.toks) { s with toks := s.toks + 1 }) : wpAny (model prog w) A (binaryOp .Pow (.int 2 t) (.int 23 u)) Q E s := by
  refine pow_int_small (by decide) (by decide) (by decide) ?_
  have e : (2 : Int) ^ Int.toNat 23 = 8388608 := by decide
  rw [e]
  exact h
theorem p256_32 : (256 : Int) ^ 32 = 2 ^ 256 := by decide
theorem tb32k {x : Int} {Q : Value → Shared → Prop} (h0 : 0 ≤ x) (h1 : x < 2 ^ 256) (h : ∀ (b : Array UInt8) t' k', Be32 b x → Q (.bytes b t') { s with toks := k' }) :
    wpAny (model prog w) A (call (.builtin "int.to_bytes") [.int x t, .int 32 u, .str (PySem.Str.ofString "big") v] [(PySem.Str.ofString "signed", .bool false)]) Q E s :=
  tb_call2 (k := 32) (by decide) h0 (by rw [p256_32]; exact h1) fun b t' k' hb => h b t' k' (Be32.of hb h0 h1)
theorem tb32 {x : Int} {Q : Value → Shared → Prop} (h0 : 0 ≤ x) (h1 : x < 2 ^ 256) (h : ∀ (b : Array UInt8) t' k', Be32 b x → Q (.bytes b t') { s with toks := k' }) :
    wpAny (model prog w) A (call (.builtin "int.to_bytes") [.int x t, .int 32 u, .str (PySem.Str.ofString "big") v]) Q E s :=
  tb_call1 (k := 32) (by decide) h0 (by rw [p256_32]; exact h1) fun b t' k' hb => h b t' k' (Be32.of hb h0 h1)
theorem tb3 {x : Int} {Q : Value → Shared → Prop} (h0 : 0 ≤ x) (h1 : x < 16777216) (h : ∀ (b : Array UInt8) t' k', KBw.bInts b = [x / 256 / 256 % 256, x / 256 % 256, x % 256] → Q (.bytes b t') { s with toks := k' }) :
    wpAny (model prog w) A (call (.builtin "int.to_bytes") [.int x t, .int 3 u, .str (PySem.Str.ofString "big") v]) Q E s :=
  tb_call1 (k := 3) (by decide) h0 h1 fun b t' k' hb => h b t' k' (hb.trans (little3 x))
end
section
variable {prog : Program} {w : World} {A : Around} {E : Value → Shared → Prop} {s : Shared}
theorem hex4 {b : Array UInt8} {t : Tok} {e x y z : Int} {Q : Value → Shared → Prop} (hb : KBw.bInts b = [e, x, y, z]) (h : ∀ (u : PySem.Str) t' k, u.length ≤ 8 → Q (.str u t') { s with toks := k }) :
    wpAny (model prog w) A (call (.builtin "bytes.hex") [.bytes b t]) Q E s :=
  hex_call (by rw [size4 hb]; decide) fun t' k hl => h _ t' k (by rw [hl, size4 hb]; decide)
theorem fmt8 {M : Model} {u : PySem.Str} {t : Tok} {Q : Value → Shared → Prop} (hu : u.length ≤ 8) (h : ∀ t' tk, Q (.str u t') { s with toks := tk }) : wpAny M A (formatField (.str u t) PySem.Str.empty) Q E s :=
  formatField_str h (by rw [sizeLine_eq]; omega)
end
theorem valI_nn {e n : Int} (he : 0 ≤ e) : 0 ≤ valI e n := by
  have h := valI_nonneg (e := e) (n := n % 8388608) he (by omega) (by omega)
  have e1 : valI e (n % 8388608) = valI e n := by
    unfold valI
    rw [Int.emod_emod_of_dvd n (Int.dvd_refl 8388608)]
  rw [← e1]
  exact h
end Mine
end
section
open PySem PySem.W PyProof.Rows PySem.Calls
set_option maxRecDepth 100000
set_option maxHeartbeats 8000000
namespace Mine
local macro_rules | `(tactic| cell_enter) => `(tactic| (refine' code_def ?k1 ?k2 ?k3 ?k4 ?k5 ?kA ?kF ?kK ?k6 ?k7 ?k8 ?k9 ?kB ?_ ?c2 ?c3 ?c4 ?c5; (case kA => exact rfl); (case kF => exact rfl); (case kK => first | exact rfl | assumption); (case k1 => k_asm); (case k2 => k_asm); (case k3 => k_asm); (case k4 => k_asm); (case k5 => k_asm); (case k6 => k_is); (case k7 => k_is); (case k8 => ktr_room); (case k9 => first | exact BindsTo.of_eq rfl | exact binds_K (by k_in) rfl (by k_is) rfl rfl rfl); (case c5 => decide); (case kB => exact locs rfl); (case c2 => exact rfl); (case c3 => exact rfl); (case c4 => exact rfl); k_whole; intro g' L' h' FG' F' N' B' X' T'; (try dsimp only); (try k_lift B'); (try k_fold)))
local macro_rules | `(tactic| walk_at "call ref") => `(tactic| (k_here; (refine wpAny_call ?_); k_dflt cell_enter))
local macro_rules | `(tactic| walk_at "callWith ref") => `(tactic| (k_here; (with_reducible show wpAny _ _ (callWith _ (Value.ref _) _ (backTo _ (starEach (_ :: _) _)) (backToKw _ (keywordEach (_ :: _) _))) _ _ _); kfb_any; k_dflt (refine' callWith_bound_kw ?kfbN ?kfbM ?_; (case kfbN => k_asm); (case kfbM => k_mem); k_whole)))
local macro_rules | `(tactic| walk_at "callWith") => `(tactic| (k_here; (with_reducible show wpAny _ _ (callWith _ (Value.builtin _) (_ :: _) (backTo _ (starEach (_ :: _) _)) (backToKw _ (keywordEach (_ :: _) _))) _ _ _); k_dflt (refine callWith_method_kw ?_)))
local macro_rules | `(tactic| walk_at "call ref") => `(tactic| (k_here; (with_reducible show wpAny _ _ (call (Value.ref _) (Value.bytes _ _ :: _) _) _ _ _); kfb_any; k_dflt (first
  | (refine fb_call2 (by k_asm) (by k_mem) (by first | exact fb3 (by assumption) | exact Be32.val (by assumption)) (by first | exact fb3s (by assumption) | exact Be32.size64 (by assumption)) ?_)
  | (refine fb_call3 (by k_asm) (by k_mem) (by first | exact fb3 (by assumption) | exact Be32.val (by assumption)) (by first | exact fb3s (by assumption) | exact Be32.size64 (by assumption)) ?_)
  | (refine fb_call1 (by k_asm) (by k_mem) (by first | exact fb3 (by assumption) | exact Be32.val (by assumption)) (by first | exact fb3s (by assumption) | exact Be32.size64 (by assumption)) ?_)); intro _ _))
local macro_rules | `(tactic| walk_at "call type:bytes") => `(tactic| (k_here; (with_reducible show wpAny _ _ (call (Value.type _) [Value.bytes _ _]) _ _ _); (refine call_bytes_bytes ?_)))
local macro_rules | `(tactic| walk_at "call builtin:len") => `(tactic| (k_here; (with_reducible show wpAny _ _ (call (Value.builtin "len") [Value.bytes _ _]) _ _ _); first | (refine len4 (by assumption) ?_) | (refine Be32.len (by assumption) ?_)))
local macro_rules | `(tactic| walk_at "subscriptTail") => `(tactic| (k_here; (with_reducible show wpAny _ _ (subscriptTail _ _ (Value.bytes _ _) (Value.int _ _)) _ _ _); (first | refine item4_0 (by assumption) ?_ | refine item4_1 (by assumption) ?_); intro _ _))
local macro_rules | `(tactic| walk_at "subscriptTail") => `(tactic| (k_here; (with_reducible show wpAny _ _ (subscriptTail _ (Expr.Slice _ _ none _) (Value.bytes _ _) (Value.ref _)) _ _ _); (with_reducible rename Fr _ _ _ _ => F'); (with_reducible rename News _ _ _ _ => N'); (first | refine slice4_1 (s := ⟨_, _, _, _, _⟩) F' N' (by assumption) ?_ | refine slice4_2 (s := ⟨_, _, _, _, _⟩) F' N' (by assumption) ?_); intro _ _ _ _ _ _ kbcK))
local macro_rules | `(tactic| walk_at "binaryOp BitAnd int int") => `(tactic| (k_here; (first | (with_reducible refine mask_int ?_) | (with_reducible refine sign_int ?_))))
local macro_rules | `(tactic| walk_at "binaryOp LShift int int") => `(tactic| (k_here; (with_reducible refine shl_mask ?kb1 ?kb2 ?_); (case kb1 => omega); (case kb2 => omega)))
local macro_rules | `(tactic| k_mem) => `(tactic| assumption)
local macro_rules | `(tactic| k_all) => `(tactic| assumption)
local macro_rules | `(tactic| walk_at "call type:bytes") => `(tactic| (k_here; (with_reducible show wpAny _ _ (call (Value.type _) [Value.ref _]) _ _ _); k_dflt (refine' call_b1 ?bH ?bF ?bN ?bm ?b0 ?b1 ?_; (case bF => k_asm); (case bN => k_asm); (case bm => k_mem); (case bH => first | exact HN.none | exact HN.more (by assumption) (by intro p hp; repeat' (first | exact hp | refine List.Mem.tail _ ?_ | refine List.mem_append.mpr (Or.inr ?_)))); (case b0 => omega); (case b1 => omega)); intro _ _ _ _ F' N' hb1'))
local macro_rules | `(tactic| walk_at "binaryOp Add bytes bytes") => `(tactic| (k_here; (refine cat13 (by assumption) (by first | assumption | exact Eq.trans (by assumption) (little3 _)) ?_); intro _ _ _ hcat'))
local macro_rules | `(tactic| walk_at "getMethod bytes") => `(tactic| (k_here; (refine hex_method ?_)))
local macro_rules | `(tactic| walk_at "pyIter ref") => `(tactic| (k_here; (with_reducible show wpAny _ _ (pyIter (Value.ref _)) (fun it s₂ => LoopAtV _ _ _ _ _ _ _ _ _ it s₂) _ _); (with_unfolding_all refine' iter_tup1 ?tH ?tF ?tN ?tm ?tc ?td (fun own' h' tk' F' N' => ?_) (fun h' tk' F' N' => ?_); (case tF => k_asm); (case tN => k_asm); (case tm => k_mem); (case tc => exact rfl); (case td => exact rfl); (case tH => first | exact HN.none | exact HN.more (by assumption) (by intro p hp; repeat' (first | exact hp | refine List.Mem.tail _ ?_ | refine List.mem_append.mpr (Or.inr ?_))))); (all_goals (try k_fold))))
local macro_rules | `(tactic| walk_at "exec For Name Name cons nil") => `(tactic| (k_here; (rename Fr _ _ _ _ => lF'); (with_unfolding_all refine' For_invVF lF' ?k1 ?k2 ?_; (case k1 => exact rfl); (case k2 => exact rfl); k_whole)))
theorem value_tell (w mean mg mb hv news) (b : Array UInt8) (t : Tok) (e x y z : Int) (hb : KBw.bInts b = [e, x, y, z]) :
  Tell w mean mg mb 1 8 hv 80 [.bytes b t] news news (fun r => ∃ t', r = .int (valI e ((x * 256 + y) * 256 + z)) t') := by
  intro dp un gd cn cs a ccd cl outer A₀ base h₀ L m s Q E B F X N T hk hd hu hret
  have hin := in4 hb
  refine wpAny_call ?_
  k_dflt cell_enter
  k_steps
  · exact hret _ _ _ (by assumption) (cb_drop (by assumption) (by kcj_all)) ⟨_, congrArg (Value.int · _) (valI_lo (by assumption))⟩
  · exact hret _ _ _ (by assumption) (cb_drop (by assumption) (by kcj_all)) ⟨_, congrArg (Value.int · _) (valI_hi (by assumption))⟩
theorem bfo4_tell (w mean mg mb news hv) (H : HN hv news) (b : Array UInt8) (t t2 : Tok) (e x y z : Int) (hb : KBw.bInts b = [e, x, y, z]) :
  Tell w mean mg mb 2 16 hv 59 [.bytes b t, .int 4 t2] news news (fun r => r = .bytes b t) := by
  intro dp un gd cn cs a ccd cl outer A₀ base h₀ L m s Q E B F X N T hk hd hu hret
  refine wpAny_call ?_
  k_dflt cell_enter
  k_steps
  · k_asm
  · k_asm
  · exact hret _ _ _ (by assumption) (cb_drop (by assumption) (by kcj_all)) rfl
theorem bfo_tell (w mean mg mb news hv) (b : Array UInt8) (t : Tok) :
  Tell w mean mg mb 2 16 hv 59 [.bytes b t] news news (fun r => r = .bytes b t) := by
  intro dp un gd cn cs a ccd cl outer A₀ base h₀ L m s Q E B F X N T hk hd hu hret
  refine wpAny_call ?_
  k_dflt cell_enter
  k_steps
  · exact hret _ _ _ (by assumption) (cb_drop (by assumption) (by kcj_all)) rfl
end Mine
end
section
open PySem PySem.W PyProof.Rows PySem.Calls
set_option maxRecDepth 100000
set_option maxHeartbeats 8000000
namespace Mine
local macro_rules | `(tactic| cell_enter) => `(tactic| (refine' code_def ?k1 ?k2 ?k3 ?k4 ?k5 ?kA ?kF ?kK ?k6 ?k7 ?k8 ?k9 ?kB ?_ ?c2 ?c3 ?c4 ?c5; (case kA => exact rfl); (case kF => exact rfl); (case kK => first | exact rfl | assumption); (case k1 => k_asm); (case k2 => k_asm); (case k3 => k_asm); (case k4 => k_asm); (case k5 => k_asm); (case k6 => k_is); (case k7 => k_is); (case k8 => ktr_room); (case k9 => first | exact BindsTo.of_eq rfl | exact binds_K (by k_in) rfl (by k_is) rfl rfl rfl); (case c5 => decide); (case kB => exact locs rfl); (case c2 => exact rfl); (case c3 => exact rfl); (case c4 => exact rfl); k_whole; intro g' L' h' FG' F' N' B' X' T'; (try dsimp only); (try k_lift B'); (try k_fold)))
local macro_rules | `(tactic| walk_at "call ref") => `(tactic| (k_here; (refine wpAny_call ?_); k_dflt cell_enter))
local macro_rules | `(tactic| walk_at "callWith ref") => `(tactic| (k_here; (with_reducible show wpAny _ _ (callWith _ (Value.ref _) _ (backTo _ (starEach (_ :: _) _)) (backToKw _ (keywordEach (_ :: _) _))) _ _ _); kfb_any; k_dflt (refine' callWith_bound_kw ?kfbN ?kfbM ?_; (case kfbN => k_asm); (case kfbM => k_mem); k_whole)))
local macro_rules | `(tactic| walk_at "callWith") => `(tactic| (k_here; (with_reducible show wpAny _ _ (callWith _ (Value.builtin _) (_ :: _) (backTo _ (starEach (_ :: _) _)) (backToKw _ (keywordEach (_ :: _) _))) _ _ _); k_dflt (refine callWith_method_kw ?_)))
local macro_rules | `(tactic| walk_at "call ref") => `(tactic| (k_here; (with_reducible show wpAny _ _ (call (Value.ref _) (Value.bytes _ _ :: _) _) _ _ _); kfb_any; k_dflt (first
  | (refine fb_call2 (by k_asm) (by k_mem) (by first | exact fb3 (by assumption) | exact Be32.val (by assumption)) (by first | exact fb3s (by assumption) | exact Be32.size64 (by assumption)) ?_)
  | (refine fb_call3 (by k_asm) (by k_mem) (by first | exact fb3 (by assumption) | exact Be32.val (by assumption)) (by first | exact fb3s (by assumption) | exact Be32.size64 (by assumption)) ?_)
  | (refine fb_call1 (by k_asm) (by k_mem) (by first | exact fb3 (by assumption) | exact Be32.val (by assumption)) (by first | exact fb3s (by assumption) | exact Be32.size64 (by assumption)) ?_)); intro _ _))
local macro_rules | `(tactic| walk_at "call type:bytes") => `(tactic| (k_here; (with_reducible show wpAny _ _ (call (Value.type _) [Value.bytes _ _]) _ _ _); (refine call_bytes_bytes ?_)))
local macro_rules | `(tactic| walk_at "call builtin:len") => `(tactic| (k_here; (with_reducible show wpAny _ _ (call (Value.builtin "len") [Value.bytes _ _]) _ _ _); first | (refine len4 (by assumption) ?_) | (refine Be32.len (by assumption) ?_)))
local macro_rules | `(tactic| walk_at "subscriptTail") => `(tactic| (k_here; (with_reducible show wpAny _ _ (subscriptTail _ _ (Value.bytes _ _) (Value.int _ _)) _ _ _); (first | refine item4_0 (by assumption) ?_ | refine item4_1 (by assumption) ?_); intro _ _))
local macro_rules | `(tactic| walk_at "subscriptTail") => `(tactic| (k_here; (with_reducible show wpAny _ _ (subscriptTail _ (Expr.Slice _ _ none _) (Value.bytes _ _) (Value.ref _)) _ _ _); (with_reducible rename Fr _ _ _ _ => F'); (with_reducible rename News _ _ _ _ => N'); (first | refine slice4_1 (s := ⟨_, _, _, _, _⟩) F' N' (by assumption) ?_ | refine slice4_2 (s := ⟨_, _, _, _, _⟩) F' N' (by assumption) ?_); intro _ _ _ _ _ _ kbcK))
local macro_rules | `(tactic| walk_at "binaryOp BitAnd int int") => `(tactic| (k_here; (first | (with_reducible refine mask_int ?_) | (with_reducible refine sign_int ?_))))
local macro_rules | `(tactic| walk_at "binaryOp LShift int int") => `(tactic| (k_here; (with_reducible refine shl_mask ?kb1 ?kb2 ?_); (case kb1 => omega); (case kb2 => omega)))
local macro_rules | `(tactic| k_mem) => `(tactic| assumption)
local macro_rules | `(tactic| k_all) => `(tactic| assumption)
local macro_rules | `(tactic| walk_at "call type:bytes") => `(tactic| (k_here; (with_reducible show wpAny _ _ (call (Value.type _) [Value.ref _]) _ _ _); k_dflt (refine' call_b1 ?bH ?bF ?bN ?bm ?b0 ?b1 ?_; (case bF => k_asm); (case bN => k_asm); (case bm => k_mem); (case bH => first | exact HN.none | exact HN.more (by assumption) (by intro p hp; repeat' (first | exact hp | refine List.Mem.tail _ ?_ | refine List.mem_append.mpr (Or.inr ?_)))); (case b0 => omega); (case b1 => omega)); intro _ _ _ _ F' N' hb1'))
local macro_rules | `(tactic| walk_at "binaryOp Add bytes bytes") => `(tactic| (k_here; (refine cat13 (by assumption) (by first | assumption | exact Eq.trans (by assumption) (little3 _)) ?_); intro _ _ _ hcat'))
local macro_rules | `(tactic| walk_at "getMethod bytes") => `(tactic| (k_here; (refine hex_method ?_)))
local macro_rules | `(tactic| walk_at "pyIter ref") => `(tactic| (k_here; (with_reducible show wpAny _ _ (pyIter (Value.ref _)) (fun it s₂ => LoopAtV _ _ _ _ _ _ _ _ _ it s₂) _ _); (with_unfolding_all refine' iter_tup1 ?tH ?tF ?tN ?tm ?tc ?td (fun own' h' tk' F' N' => ?_) (fun h' tk' F' N' => ?_); (case tF => k_asm); (case tN => k_asm); (case tm => k_mem); (case tc => exact rfl); (case td => exact rfl); (case tH => first | exact HN.none | exact HN.more (by assumption) (by intro p hp; repeat' (first | exact hp | refine List.Mem.tail _ ?_ | refine List.mem_append.mpr (Or.inr ?_))))); (all_goals (try k_fold))))
local macro_rules | `(tactic| walk_at "exec For Name Name cons nil") => `(tactic| (k_here; (rename Fr _ _ _ _ => lF'); (with_unfolding_all refine' For_invVF lF' ?k1 ?k2 ?_; (case k1 => exact rfl); (case k2 => exact rfl); k_whole)))
local macro_rules | `(tactic| walk_at "call ref") => `(tactic| (k_here; (with_reducible show wpAny _ _ (call (Value.ref 80) [Value.bytes _ _]) _ _ _); k_dflt (refine' tell_use (value_tell _ _ _ _ _ _ _ _ _ _ _ _ ?hb) ?k1 ?k2 ?k3 ?k4 ?k5 ?kK ?kd ?ku ?_; (case hb => assumption); (case k1 => k_asm); (case k2 => k_asm); (case k3 => k_asm); (case k4 => k_asm); (case k5 => k_asm); (case kK => first | exact rfl | assumption); (case kd => ktr_room); (case ku => ktr_units)); intro _ h' tk' F' N' hr'; obtain ⟨_, hr'⟩ := hr'; subst hr'))
local macro_rules | `(tactic| walk_at "call ref") => `(tactic| (k_here; (with_reducible show wpAny _ _ (call (Value.ref 59) [Value.bytes _ _, Value.int 4 _]) _ _ _); k_dflt (refine' tell_use (bfo4_tell _ _ _ _ _ _ ?hH _ _ _ _ _ _ _ ?hb) ?k1 ?k2 ?k3 ?k4 ?k5 ?kK ?kd ?ku ?_; (case k1 => k_asm); (case k2 => k_asm); (case k3 => k_asm); (case k4 => k_asm); (case k5 => k_asm); (case hb => assumption); (case kK => first | exact rfl | assumption); (case kd => ktr_room); (case ku => ktr_units); (case hH => first | exact HN.none | exact HN.more (by assumption) (by intro p hp; repeat' (first | exact hp | refine List.Mem.tail _ ?_ | refine List.mem_append.mpr (Or.inr ?_))))); intro _ h' tk' F' N' hr'; subst hr'))
local macro_rules | `(tactic| walk_at "call ref") => `(tactic| (k_here; (with_reducible show wpAny _ _ (call (Value.ref 59) [Value.bytes _ _]) _ _ _); k_dflt (refine' tell_use (bfo_tell _ _ _ _ _ _ _ _) ?k1 ?k2 ?k3 ?k4 ?k5 ?kK ?kd ?ku ?_; (case k1 => k_asm); (case k2 => k_asm); (case k3 => k_asm); (case k4 => k_asm); (case k5 => k_asm); (case kK => first | exact rfl | assumption); (case kd => ktr_room); (case ku => ktr_units)); intro _ h' tk' F' N' hr'; subst hr'))
section
local macro_rules | `(tactic| walk_at "binaryOp LShift int int") => `(tactic| (k_here; (with_reducible refine lshift_int ?kb1 ?kb2 ?_); (case kb1 => omega); (case kb2 => omega)))
local macro_rules | `(tactic| walk_at "call builtin:int.to_bytes") => `(tactic| (k_here; (with_unfolding_all refine tb_call2 (k := 3) (by decide) ?tb0 ?tb1 ?_); (case tb0 => first | omega | exact (sgLo (Be32.lo (by assumption)) (Be32.hi (by assumption)) (by assumption)).2.1 | exact (sgHi (Be32.lo (by assumption)) (Be32.hi (by assumption)) (by assumption)).2.1 | exact (shr8 (sgLo (Be32.lo (by assumption)) (Be32.hi (by assumption)) (by assumption)).2.1 (sgLo (Be32.lo (by assumption)) (Be32.hi (by assumption)) (by assumption)).2.2).1 | exact (shr8 (sgHi (Be32.lo (by assumption)) (Be32.hi (by assumption)) (by assumption)).2.1 (sgHi (Be32.lo (by assumption)) (Be32.hi (by assumption)) (by assumption)).2.2).1); (case tb1 => first | omega | exact (sgLo (Be32.lo (by assumption)) (Be32.hi (by assumption)) (by assumption)).2.2 | exact (sgHi (Be32.lo (by assumption)) (Be32.hi (by assumption)) (by assumption)).2.2 | exact (shr8 (sgLo (Be32.lo (by assumption)) (Be32.hi (by assumption)) (by assumption)).2.1 (sgLo (Be32.lo (by assumption)) (Be32.hi (by assumption)) (by assumption)).2.2).2 | exact (shr8 (sgHi (Be32.lo (by assumption)) (Be32.hi (by assumption)) (by assumption)).2.1 (sgHi (Be32.lo (by assumption)) (Be32.hi (by assumption)) (by assumption)).2.2).2); intro _ _ _ htb'))
theorem bits_tell (w mean mg mb news hv) (H : HN hv news) (b : Array UInt8) (t : Tok) (v : Int) (hb : Be32 b v) :
  Tell w mean mg mb 3 24 hv 101 [.bytes b t] news news (fun r => ∃ b' t', r = .bytes b' t' ∧ KBw.bInts b' = ownB v) := by
  intro dp un gd cn cs a ccd cl outer A₀ base h₀ L m s Q E B F X N T hk hd hu hret
  have hbits := hb.bits
  have hex := hb.ex
  refine wpAny_call ?_
  k_dflt cell_enter
  k_steps
  all_goals (refine hret _ _ _ (by assumption) (cb_drop (by assumption) (by kcj_all)) ⟨_, _, rfl, ?_⟩)
  all_goals first
    | exact own_sign (sgLo hb.lo hb.hi (by assumption)).1 rfl (by assumption) (by assumption)
    | exact own_plain (sgLo hb.lo hb.hi (by assumption)).1 rfl (by assumption) (by assumption)
    | exact own_sign (sgHi hb.lo hb.hi (by assumption)).1 rfl (by assumption) (by assumption)
    | exact own_plain (sgHi hb.lo hb.hi (by assumption)).1 rfl (by assumption) (by assumption)
end
theorem neg_tell (w mean mg mb news hv) (H : HN hv news) (b : Array UInt8) (t : Tok) (e x y z : Int) (hb : KBw.bInts b = [e, x, y, z]) :
  Tell w mean mg mb 3 24 hv 94 [.bytes b t] news news (fun r => r = .bool (decide (128 ≤ x ∧ valI e ((x * 256 + y) * 256 + z) ≠ 0))) := by
  intro dp un gd cn cs a ccd cl outer A₀ base h₀ L m s Q E B F X N T hk hd hu hret
  have hin := in4 hb
  refine wpAny_call ?_
  k_dflt cell_enter
  k_steps
  · exact hret _ _ _ (by assumption) (cb_drop (by assumption) (by kcj_all)) (neg_yes hin.2.1 hin.2.2.1 hin.2.2.2 (by assumption))
  · exact hret _ _ _ (by assumption) (cb_drop (by assumption) (by kcj_all)) (neg_no hin.2.1 hin.2.2.1 hin.2.2.2 (by assumption))
end Mine
end
section
open PySem PySem.W PyProof.Rows PySem.Calls
set_option maxRecDepth 100000
set_option maxHeartbeats 8000000
namespace Mine
local macro_rules | `(tactic| cell_enter) => `(tactic| (refine' code_def ?k1 ?k2 ?k3 ?k4 ?k5 ?kA ?kF ?kK ?k6 ?k7 ?k8 ?k9 ?kB ?_ ?c2 ?c3 ?c4 ?c5; (case kA => exact rfl); (case kF => exact rfl); (case kK => first | exact rfl | assumption); (case k1 => k_asm); (case k2 => k_asm); (case k3 => k_asm); (case k4 => k_asm); (case k5 => k_asm); (case k6 => k_is); (case k7 => k_is); (case k8 => ktr_room); (case k9 => first | exact BindsTo.of_eq rfl | exact binds_K (by k_in) rfl (by k_is) rfl rfl rfl); (case c5 => decide); (case kB => exact locs rfl); (case c2 => exact rfl); (case c3 => exact rfl); (case c4 => exact rfl); k_whole; intro g' L' h' FG' F' N' B' X' T'; (try dsimp only); (try k_lift B'); (try k_fold)))
local macro_rules | `(tactic| walk_at "call ref") => `(tactic| (k_here; (refine wpAny_call ?_); k_dflt cell_enter))
local macro_rules | `(tactic| walk_at "callWith ref") => `(tactic| (k_here; (with_reducible show wpAny _ _ (callWith _ (Value.ref _) _ (backTo _ (starEach (_ :: _) _)) (backToKw _ (keywordEach (_ :: _) _))) _ _ _); kfb_any; k_dflt (refine' callWith_bound_kw ?kfbN ?kfbM ?_; (case kfbN => k_asm); (case kfbM => k_mem); k_whole)))
local macro_rules | `(tactic| walk_at "callWith") => `(tactic| (k_here; (with_reducible show wpAny _ _ (callWith _ (Value.builtin _) (_ :: _) (backTo _ (starEach (_ :: _) _)) (backToKw _ (keywordEach (_ :: _) _))) _ _ _); k_dflt (refine callWith_method_kw ?_)))
local macro_rules | `(tactic| walk_at "call ref") => `(tactic| (k_here; (with_reducible show wpAny _ _ (call (Value.ref _) (Value.bytes _ _ :: _) _) _ _ _); kfb_any; k_dflt (first
  | (refine fb_call2 (by k_asm) (by k_mem) (by first | exact fb3 (by assumption) | exact Be32.val (by assumption)) (by first | exact fb3s (by assumption) | exact Be32.size64 (by assumption)) ?_)
  | (refine fb_call3 (by k_asm) (by k_mem) (by first | exact fb3 (by assumption) | exact Be32.val (by assumption)) (by first | exact fb3s (by assumption) | exact Be32.size64 (by assumption)) ?_)
  | (refine fb_call1 (by k_asm) (by k_mem) (by first | exact fb3 (by assumption) | exact Be32.val (by assumption)) (by first | exact fb3s (by assumption) | exact Be32.size64 (by assumption)) ?_)); intro _ _))
local macro_rules | `(tactic| walk_at "call type:bytes") => `(tactic| (k_here; (with_reducible show wpAny _ _ (call (Value.type _) [Value.bytes _ _]) _ _ _); (refine call_bytes_bytes ?_)))
local macro_rules | `(tactic| walk_at "call builtin:len") => `(tactic| (k_here; (with_reducible show wpAny _ _ (call (Value.builtin "len") [Value.bytes _ _]) _ _ _); first | (refine len4 (by assumption) ?_) | (refine Be32.len (by assumption) ?_)))
local macro_rules | `(tactic| walk_at "subscriptTail") => `(tactic| (k_here; (with_reducible show wpAny _ _ (subscriptTail _ _ (Value.bytes _ _) (Value.int _ _)) _ _ _); (first | refine item4_0 (by assumption) ?_ | refine item4_1 (by assumption) ?_); intro _ _))
local macro_rules | `(tactic| walk_at "subscriptTail") => `(tactic| (k_here; (with_reducible show wpAny _ _ (subscriptTail _ (Expr.Slice _ _ none _) (Value.bytes _ _) (Value.ref _)) _ _ _); (with_reducible rename Fr _ _ _ _ => F'); (with_reducible rename News _ _ _ _ => N'); (first | refine slice4_1 (s := ⟨_, _, _, _, _⟩) F' N' (by assumption) ?_ | refine slice4_2 (s := ⟨_, _, _, _, _⟩) F' N' (by assumption) ?_); intro _ _ _ _ _ _ kbcK))
local macro_rules | `(tactic| walk_at "binaryOp BitAnd int int") => `(tactic| (k_here; (first | (with_reducible refine mask_int ?_) | (with_reducible refine sign_int ?_))))
local macro_rules | `(tactic| walk_at "binaryOp LShift int int") => `(tactic| (k_here; (with_reducible refine shl_mask ?kb1 ?kb2 ?_); (case kb1 => omega); (case kb2 => omega)))
local macro_rules | `(tactic| k_mem) => `(tactic| assumption)
local macro_rules | `(tactic| k_all) => `(tactic| assumption)
local macro_rules | `(tactic| walk_at "call type:bytes") => `(tactic| (k_here; (with_reducible show wpAny _ _ (call (Value.type _) [Value.ref _]) _ _ _); k_dflt (refine' call_b1 ?bH ?bF ?bN ?bm ?b0 ?b1 ?_; (case bF => k_asm); (case bN => k_asm); (case bm => k_mem); (case bH => first | exact HN.none | exact HN.more (by assumption) (by intro p hp; repeat' (first | exact hp | refine List.Mem.tail _ ?_ | refine List.mem_append.mpr (Or.inr ?_)))); (case b0 => omega); (case b1 => omega)); intro _ _ _ _ F' N' hb1'))
local macro_rules | `(tactic| walk_at "binaryOp Add bytes bytes") => `(tactic| (k_here; (refine cat13 (by assumption) (by first | assumption | exact Eq.trans (by assumption) (little3 _)) ?_); intro _ _ _ hcat'))
local macro_rules | `(tactic| walk_at "getMethod bytes") => `(tactic| (k_here; (refine hex_method ?_)))
local macro_rules | `(tactic| walk_at "pyIter ref") => `(tactic| (k_here; (with_reducible show wpAny _ _ (pyIter (Value.ref _)) (fun it s₂ => LoopAtV _ _ _ _ _ _ _ _ _ it s₂) _ _); (with_unfolding_all refine' iter_tup1 ?tH ?tF ?tN ?tm ?tc ?td (fun own' h' tk' F' N' => ?_) (fun h' tk' F' N' => ?_); (case tF => k_asm); (case tN => k_asm); (case tm => k_mem); (case tc => exact rfl); (case td => exact rfl); (case tH => first | exact HN.none | exact HN.more (by assumption) (by intro p hp; repeat' (first | exact hp | refine List.Mem.tail _ ?_ | refine List.mem_append.mpr (Or.inr ?_))))); (all_goals (try k_fold))))
local macro_rules | `(tactic| walk_at "exec For Name Name cons nil") => `(tactic| (k_here; (rename Fr _ _ _ _ => lF'); (with_unfolding_all refine' For_invVF lF' ?k1 ?k2 ?_; (case k1 => exact rfl); (case k2 => exact rfl); k_whole)))
local macro_rules | `(tactic| walk_at "call ref") => `(tactic| (k_here; (with_reducible show wpAny _ _ (call (Value.ref 80) [Value.bytes _ _]) _ _ _); k_dflt (refine' tell_use (value_tell _ _ _ _ _ _ _ _ _ _ _ _ ?hb) ?k1 ?k2 ?k3 ?k4 ?k5 ?kK ?kd ?ku ?_; (case hb => assumption); (case k1 => k_asm); (case k2 => k_asm); (case k3 => k_asm); (case k4 => k_asm); (case k5 => k_asm); (case kK => first | exact rfl | assumption); (case kd => ktr_room); (case ku => ktr_units)); intro _ h' tk' F' N' hr'; obtain ⟨_, hr'⟩ := hr'; subst hr'))
local macro_rules | `(tactic| walk_at "call ref") => `(tactic| (k_here; (with_reducible show wpAny _ _ (call (Value.ref 59) [Value.bytes _ _, Value.int 4 _]) _ _ _); k_dflt (refine' tell_use (bfo4_tell _ _ _ _ _ _ ?hH _ _ _ _ _ _ _ ?hb) ?k1 ?k2 ?k3 ?k4 ?k5 ?kK ?kd ?ku ?_; (case k1 => k_asm); (case k2 => k_asm); (case k3 => k_asm); (case k4 => k_asm); (case k5 => k_asm); (case hb => assumption); (case kK => first | exact rfl | assumption); (case kd => ktr_room); (case ku => ktr_units); (case hH => first | exact HN.none | exact HN.more (by assumption) (by intro p hp; repeat' (first | exact hp | refine List.Mem.tail _ ?_ | refine List.mem_append.mpr (Or.inr ?_))))); intro _ h' tk' F' N' hr'; subst hr'))
local macro_rules | `(tactic| walk_at "call ref") => `(tactic| (k_here; (with_reducible show wpAny _ _ (call (Value.ref 59) [Value.bytes _ _]) _ _ _); k_dflt (refine' tell_use (bfo_tell _ _ _ _ _ _ _ _) ?k1 ?k2 ?k3 ?k4 ?k5 ?kK ?kd ?ku ?_; (case k1 => k_asm); (case k2 => k_asm); (case k3 => k_asm); (case k4 => k_asm); (case k5 => k_asm); (case kK => first | exact rfl | assumption); (case kd => ktr_room); (case ku => ktr_units)); intro _ h' tk' F' N' hr'; subst hr'))
local macro_rules | `(tactic| walk_at "binaryOp Pow int int") => `(tactic| (k_here; first | (with_reducible refine pow_256_32 ?_) | (with_reducible refine pow_2_256 ?_) | (with_reducible refine pow_2_23 ?_)))
local macro_rules | `(tactic| walk_at "call builtin:int.to_bytes") => `(tactic| (k_here; (first | (with_unfolding_all refine tb32k ?tb0 ?tb1 ?_) | (with_unfolding_all refine tb32 ?tb0 ?tb1 ?_)); (case tb0 => first | assumption | omega); (case tb1 => first | assumption | omega); intro _ _ _ htb'))
theorem target_tell (w mean mg mb news hv) (H : HN hv news) (b : Array UInt8) (t : Tok) (e x y z : Int) (hb : KBw.bInts b = [e, x, y, z]) (hval : valI e ((x * 256 + y) * 256 + z) < 2 ^ 256) :
  Tell w mean mg mb 3 24 hv 87 [.bytes b t] news news (fun r => ∃ b' t', r = .bytes b' t' ∧ Be32 b' (valI e ((x * 256 + y) * 256 + z))) := by
  intro dp un gd cn cs a ccd cl outer A₀ base h₀ L m s Q E B F X N T hk hd hu hret
  have hin := in4 hb
  have hnn : 0 ≤ valI e ((x * 256 + y) * 256 + z) := valI_nn hin.1.1
  refine wpAny_call ?_
  k_dflt cell_enter
  k_steps
  · exact hret _ _ _ (by assumption) (cb_drop (by assumption) (by kcj_all)) ⟨_, _, rfl, by assumption⟩
local macro_rules | `(tactic| walk_at "call ref") => `(tactic| (k_here; (with_reducible show wpAny _ _ (call (Value.ref 101) [Value.bytes _ _]) _ _ _); k_dflt (refine' tell_use (bits_tell _ _ _ _ _ _ ?hH _ _ _ ?hb) ?k1 ?k2 ?k3 ?k4 ?k5 ?kK ?kd ?ku ?_; (case k1 => k_asm); (case k2 => k_asm); (case k3 => k_asm); (case k4 => k_asm); (case k5 => k_asm); (case kK => first | exact rfl | assumption); (case kd => ktr_room); (case ku => ktr_units); (case hb => assumption); (case hH => first | exact HN.none | exact HN.more (by assumption) (by intro p hp; repeat' (first | exact hp | refine List.Mem.tail _ ?_ | refine List.mem_append.mpr (Or.inr ?_))))); intro _ h' tk' F' N' hr'; obtain ⟨_, _, hr', hq'⟩ := hr'; subst hr'))
local macro_rules | `(tactic| walk_at "call ref") => `(tactic| (k_here; (with_reducible show wpAny _ _ (call (Value.ref 87) [Value.bytes _ _]) _ _ _); k_dflt (refine' tell_use (target_tell _ _ _ _ _ _ ?hH _ _ _ _ _ _ ?hb ?hv) ?k1 ?k2 ?k3 ?k4 ?k5 ?kK ?kd ?ku ?_; (case k1 => k_asm); (case k2 => k_asm); (case k3 => k_asm); (case k4 => k_asm); (case k5 => k_asm); (case kK => first | exact rfl | assumption); (case kd => ktr_room); (case ku => ktr_units); (case hb => assumption); (case hv => first | assumption | omega); (case hH => first | exact HN.none | exact HN.more (by assumption) (by intro p hp; repeat' (first | exact hp | refine List.Mem.tail _ ?_ | refine List.mem_append.mpr (Or.inr ?_))))); intro _ h' tk' F' N' hr'; obtain ⟨_, _, hr', hq'⟩ := hr'; subst hr'))
theorem own_tell (w mean mg mb news hv) (H : HN hv news) (v : Int) (t : Tok) (h0 : 0 ≤ v) (h1 : v < 2 ^ 256) :
  Tell w mean mg mb 4 32 hv 136 [.int v t] news news (fun r => ∃ b' t', r = .bytes b' t' ∧ KBw.bInts b' = ownB v) := by
  intro dp un gd cn cs a ccd cl outer A₀ base h₀ L m s Q E B F X N T hk hd hu hret
  refine wpAny_call ?_
  k_dflt cell_enter
  k_steps
  · exact hret _ _ _ (by assumption) (cb_drop (by assumption) (by kcj_all)) ⟨_, _, rfl, by assumption⟩
theorem valA_tell (w mean mg mb news hv) (H : HN hv news) (b : Array UInt8) (t : Tok) (e x y z : Int) (hb : KBw.bInts b = [e, x, y, z]) (hval : valI e ((x * 256 + y) * 256 + z) < 2 ^ 256) :
  Tell w mean mg mb 4 32 hv 129 [.bytes b t] news news (fun r => ∃ t', r = .int (valI e ((x * 256 + y) * 256 + z)) t') := by
  intro dp un gd cn cs a ccd cl outer A₀ base h₀ L m s Q E B F X N T hk hd hu hret
  have hin := in4 hb
  refine wpAny_call ?_
  k_dflt cell_enter
  k_steps
  · exact hret _ _ _ (by assumption) (cb_drop (by assumption) (by kcj_all)) ⟨_, rfl⟩
end Mine
end
section
open PySem PySem.W PyProof.Rows PySem.Calls
set_option maxRecDepth 100000
set_option maxHeartbeats 1000000
namespace Mine
/-- the class stands under Exception and under ValueError, its maker is Exception's, its starter ValueError's -/
structure Dia (h : Heap) (C : Addr) (bm : List Value) : Prop where
  tail : OwnTail h [.type "ValueError", .type "Exception", .type "BaseException", .type "object"] bm
section
variable {M : Model} {A : Around} {E : Value → Shared → Prop} {h : Heap} {g : Array GenState} {d : Drawn} {t : Nat} {os : OsState}
variable {nm q : PySem.Str} {C N : Addr} {bs bm : List Value} {hdct : Bool} {sn : List PySem.Str} {sub : List Value} {ab : Bool} {col : Option Bool} {dd : Option Addr} {k0 k1 k2 k3 k5 : Option Value}
theorem dia_check_new (T : OwnTail h [.type "ValueError", .type "Exception", .type "BaseException", .type "object"] bm) {rest : List Value} {Q : Unit → Shared → Prop} (hC : h.get? C = some (excClassObj nm q C N bs bm hdct sn sub ab col dd k0 k1 k2 k3 k5 "Exception.__new__"))
    (hq : Q () ⟨h, g, d, t, os⟩) : wpAny M A (checkBuiltinCall "Exception.__new__" ⟨.ref C :: rest, []⟩) Q E ⟨h, g, d, t, os⟩ := by
  have hcont : (Value.ref C :: bm).contains (.type "Exception") = true := by rw [List.contains_cons, T.hasType (X := "Exception") (b := true) (by decide +kernel), Bool.or_true]
  have F := F.excBase_Exception
  have hstar := F.noStar
  simp only [checkBuiltinCall, F.newKind, F.newSplit, F.newRow]
  repeat (first | refine wpAny_loadPart_at hC ?_ | (refine wpAny_isSubtype_exc hC ?_; rw [hcont]) | refine wpAny_staticBase_exc hC ?_ | refine wpAny_madeBy_exc hC ?_ | simp only [bne_self_eq_false, Bool.false_eq_true, if_false] | wp_step)
  exact hq
end
section
variable {prog : Program} {w : World} {A : Around} {R : Result → Shared → Prop} {h : Heap} {g : Array GenState} {d : Drawn} {t : Nat} {os : OsState}
variable {nm q : PySem.Str} {C N : Addr} {bs bm : List Value} {hdct : Bool} {sn : List PySem.Str} {sub : List Value} {ab : Bool} {col : Option Bool} {dd : Option Addr} {k0 k1 k2 k3 k5 : Option Value}
theorem dia_new (T : OwnTail h [.type "ValueError", .type "Exception", .type "BaseException", .type "object"] bm) {rest : List Value} (hC : h.get? C = some (excClassObj nm q C N bs bm hdct sn sub ab col dd k0 k1 k2 k3 k5 "Exception.__new__"))
    (hq : R (.ok (.ret (.ref (h.objs.size + 1)))) ⟨(h.push { cls := .type "tuple", data := .seq rest.toArray }).push
      { cls := .ref C, data := .fields #[.ref h.objs.size, .none, .none, .none, .bool false, .none] }, g, d, t, os⟩) (hrest : rest.length ≤ sizeLine) :
    codeAny (model prog w) A (.builtin "Exception.__new__" ⟨.ref C :: rest, []⟩) R ⟨h, g, d, t, os⟩ := by
  have F := F.excBase_Exception
  have hends := F.ends
  have hcB : (Value.ref C :: bm).contains (.type "Exception") = true := by rw [List.contains_cons, T.hasType (X := "Exception") (b := true) (by decide +kernel), Bool.or_true]
  have hcA : (Value.ref C :: bm).contains (.type "AttributeError") = false := by rw [List.contains_cons, T.hasType (X := "AttributeError") (b := false) (by decide +kernel)]; rfl
  have hcN : (Value.ref C :: bm).contains (.type "NameError") = false := by rw [List.contains_cons, T.hasType (X := "NameError") (b := false) (by decide +kernel)]; rfl
  refine codeAny_builtinAt F.entry ?_
  unfold Builtin.«BaseException.__new__»
  refine PySem.wpAt_bind ?_
  show PySem.wpAt _ _ _ (stack >>= _) _ _ _
  refine PySem.wpAt_bind (PySem.wpAt_stack fun p below => PySem.wpAt_of_wpAny ?_)
  wp_walk
  refine PySem.wpAt_of_wpAny ?_
  rw [F.owner]
  repeat (first | with_reducible refine wpAny_madeHere_exc F.canon hC ?_ | with_reducible refine wpAny_loadPart_at hC ?_ | (with_reducible refine wpAny_isSubtype_exc hC ?_; first | rw [hcB] | rw [hcA] | rw [hcN]) | wp_step)
  show R _ _
  rw [Heap.size_push]
  exact hq
end
section
variable {prog : Program} {w : World} {A : Around} {E : Value → Shared → Prop} {h : Heap} {g : Array GenState} {d : Drawn} {t : Nat} {os : OsState}
variable {nm q : PySem.Str} {C N : Addr} {bs bm : List Value} {hdct : Bool} {sn : List PySem.Str} {sub : List Value} {ab : Bool} {col : Option Bool} {dd : Option Addr} {k0 k1 k2 k3 k5 : Option Value}
theorem dia_check_init (T : OwnTail h [.type "ValueError", .type "Exception", .type "BaseException", .type "object"] bm) {M : Model} {e : Addr} {oe : Obj} {rest : List Value} {Q : Unit → Shared → Prop} {newId : String}
    (hC : h.get? C = some (excClassObj nm q C N bs bm hdct sn sub ab col dd k0 k1 k2 k3 k5 newId)) (he : h.get? e = some oe) (hcls : oe.cls = .ref C) (hq : Q () ⟨h, g, d, t, os⟩) :
    wpAny M A (checkBuiltinCall "ValueError.__init__" ⟨.ref e :: rest, []⟩) Q E ⟨h, g, d, t, os⟩ := by
  have F := F.excBase_ValueError
  have hcB : (Value.ref C :: bm).contains (.type "ValueError") = true := by rw [List.contains_cons, T.hasType F.hasB, Bool.or_true]
  have hshort := F.noStar
  simp only [checkBuiltinCall, F.initKind, F.initSplit, F.initRow]
  repeat (first | (with_reducible refine wpAny_loadPart_at he ?_; rw [hcls]) | with_reducible refine wpAny_loadPart_at hC ?_ | (with_reducible refine wpAny_isSubtype_exc hC ?_; rw [hcB]) | wp_step)
  refine wpAny_onRaise ?_
  rw [show ∀ (a b : String) (n : Nat), Bind.check ⟨.positional, "*", "ValueError", .self, [⟨"args", .varPos, false⟩]⟩ a b n (List.map (fun x => x.fst) ({ pos := Value.ref e :: rest } : Args).kw) = pure () from
    fun a b n => check_star_args _ _ _ _ _ _]
  exact wpAny_pure hq
theorem dia_type_call (T : OwnTail h [.type "ValueError", .type "Exception", .type "BaseException", .type "object"] bm) {mN : PySem.Str → Option Value} {rest : List Value} {Q : Fin → Shared → Prop}
    (hC : h.get? C = some (excClassObj nm q C N bs bm hdct sn sub ab col dd k0 k1 k2 k3 k5 "Exception.__new__")) (hn : h.Ns N mN) (hni : mN "__init__" = none)
    (hq : ∀ h' e, Heap.MadeExcOf h h' e (.ref C) rest → Q (.done (.ret (.ref e))) ⟨h', g, d, t, os⟩) (hrest : rest.length ≤ sizeLine) :
    wpAny (model prog w) A (Builtin.«type.__call__» ⟨.ref C :: rest, []⟩) Q E ⟨h, g, d, t, os⟩ := by
  have FE := F.excBase_Exception
  have FV := F.excBase_ValueError
  repeat (first | with_reducible refine wpAny_loadPart_at hC ?_ | with_reducible refine wpAny_madeBy_exc hC ?_ | wp_step)
  refine codeAny_call_builtin_code (Code.quiet_builtin _ FE.quiet) (dia_check_new T hC ?_)
  refine dia_new T hC ?_ hrest
  show wpAny _ _ _ _ _ _
  have hC₁ := Heap.get?_push_of_some { cls := .ref C, data := .fields #[.ref h.objs.size, .none, .none, .none, .bool false, .none] }
    (Heap.get?_push_of_some { cls := .type "tuple", data := .seq rest.toArray } hC)
  have hn₁ : ((h.push { cls := .type "tuple", data := .seq rest.toArray }).push { cls := .ref C, data := .fields #[.ref h.objs.size, .none, .none, .none, .bool false, .none] }).Ns N mN :=
    let ⟨o, es, ep, e, r⟩ := hn; ⟨o, es, ep, Heap.get?_push_of_some _ (Heap.get?_push_of_some _ e), r⟩
  have hget : ((h.push { cls := .type "tuple", data := .seq rest.toArray }).push
      { cls := .ref C, data := .fields #[.ref h.objs.size, .none, .none, .none, .bool false, .none] }).get? (h.objs.size + 1) = some
      { cls := .ref C, data := .fields #[.ref h.objs.size, .none, .none, .none, .bool false, .none] } := by heap_get
  have hcC : (Value.ref C :: bm).contains (.ref C) = true := by simp
  have T₁ := T.keeps (h' := (h.push { cls := .type "tuple", data := .seq rest.toArray }).push { cls := .ref C, data := .fields #[.ref h.objs.size, .none, .none, .none, .bool false, .none] })
    fun b o e => Heap.get?_push_of_some _ (Heap.get?_push_of_some _ e)
  unfold isInstance
  repeat (first | with_reducible refine wpAny_loadPart_at hget ?_ | (with_reducible refine wpAny_isSubtype_exc hC₁ ?_; rw [hcC]) | wp_step)
  show wpAny _ _ (typeLookup (.ref C) _) _ _ _
  refine wpAny_typeLookup_tail hC₁ hn₁ T₁ FV.mroIs FV.init.lookup ?_
  rw [hni]
  refine wpAny_holding (wpAny_bind (wpAny_of_eq (FV.init.bind _) ?_))
  refine wpAny_bind (wpAny_call (codeAny_call_builtin FV.init.plain FV.initEntry (dia_check_init T₁ hC₁ hget rfl ?_)))
  wp_walk
  refine hq _ _ ⟨fun b o hb => ?_, Heap.get?_none_of_le (Nat.le_succ _), h.objs.size + 2, ?_, Heap.get?_none_of_le (by omega), ?_⟩
  · rw [Heap.get?_update_other _ _ (Nat.ne_of_gt (Nat.lt_succ_of_lt (Heap.lt_size hb)))]
    exact Heap.get?_push_of_some _ (Heap.get?_push_of_some _ (Heap.get?_push_of_some _ hb))
  · rw [Heap.get?_update_self _ (Heap.get?_push_of_some _ hget) rfl]
    simp only [Heap.size_push]
    rfl
  · rw [Heap.get?_update_other _ _ (show h.objs.size + 1 ≠ h.objs.size + 2 by omega)]
    exact Heap.get?_push_at (by simp only [Heap.size_push]) rfl
theorem dia_call (T : OwnTail h [.type "ValueError", .type "Exception", .type "BaseException", .type "object"] bm) {mN : PySem.Str → Option Value} {rest : List Value} {Q : Value → Shared → Prop}
    (hC : h.get? C = some (excClassObj nm q C N bs bm hdct sn sub ab col dd k0 k1 k2 k3 k5 "Exception.__new__")) (hn : h.Ns N mN) (hni : mN "__init__" = none)
    (hq : ∀ h' e, Heap.MadeExcOf h h' e (.ref C) rest → Q (.ref e) ⟨h', g, d, t, os⟩) (hrest : rest.length ≤ sizeLine) :
    wpAny (model prog w) A (call (.ref C) rest) Q E ⟨h, g, d, t, os⟩ := by
  have f1 := tc_lookup
  have f2 := tc_bind (.ref C)
  have hT : (⟨h, g, d, t, os⟩ : Shared).TypeIs (.ref C) "type" := ⟨_, hC, rfl⟩
  refine wpAny_call (codeAny_of_tree ?_)
  show wpAny _ _ (callAny (.ref C) _) _ _ _
  repeat (any_goals (first | assumption | with_reducible refine wpAny_loadPart_at hC ?_ | wp_step))
  refine ⟨rfl, ?_⟩
  refine codeAny_call_builtin_at (Code.quiet_builtin _ (by decide +kernel)) entry_typeCall (wpAny_check_type_call_sub hC (dia_type_call (hrest := hrest) T hC hn hni fun h' e hm => ?_))
  exact hq h' e hm
end
section
variable {prog : Program} {w : World} {A : Around} {E : Value → Shared → Prop} {s : Shared} {h₀ : Heap} {L a : Addr} {m mg : PySem.Str → Option Value} {C : Addr} {x : PySem.Str} {np cpos pos : Pos} {name : PySem.Str} {scope : Scope} {cd : Value} {Q : Flow → Shared → Prop}
/-- raise X(text), of such a class -/
theorem Raise_dia {e₀ : PySem.Expr} {rest : List PySem.Expr} (F : Fr h₀ L s.heap m) (hg : h₀.Ns mainGlobals mg) (O : OwnCls x C [.type "ValueError", .type "Exception", .type "BaseException", .type "object"] "Exception.__new__" mg h₀) (hh : A.handled = none)
    (h : wpAny (model prog w) A (spliced (backTo cpos (starEach (e₀ :: rest) (envOf name scope L a cd)))) (fun vs s₂ => vs.length ≤ sizeLine ∧ (∀ b o, h₀.get? b = some o → s₂.heap.get? b = some o) ∧
      ∀ h' e, Heap.MadeExcOf s₂.heap h' e (.ref C) vs → E (.ref e) { s₂ with heap := h' }) E s)
    (he : starEach (e₀ :: rest) (envOf name scope L a cd) = (false, eval e₀ (envOf name scope L a cd)) :: starEach rest (envOf name scope L a cd) := by rfl)
    (hplain : (backTo cpos (starEach rest (envOf name scope L a cd))).any (·.1) = false := by rfl)
    (hk : scope.kind = .function := by rfl) (hx : (envOf name scope L a cd).kindOf x = some .globalImplicit := by rfl) (hd : (x == ("__debug__" : PySem.Str)) = false := by decide) :
    wpAny (model prog w) A (exec (.Raise (some (.Call (.Name x np) (e₀ :: rest) [] cpos)) none pos) (envOf name scope L a cd)) Q E s := by
  obtain ⟨bm, N, nm, q, bs, hdct, sn, sub, ab, col, dd, k0, k1, k2, k3, k5, mN, hC, hN, hni, T⟩ := O.obj
  have hbase : bm.contains (.type "BaseException") = true := T.hasType (X := "BaseException") (b := true) (by decide +kernel)
  have hpl : (backTo cpos (starEach (e₀ :: rest) (envOf name scope L a cd))).any (·.1) = false := by
    rw [he]
    show (false || (backTo cpos (starEach rest (envOf name scope L a cd))).any (·.1)) = false
    rw [hplain]
    rfl
  have main : wpAny (model prog w) A (eval (.Name x np) (envOf name scope L a cd)) (fun f s₁ => f = .ref C ∧ wpAny (model prog w) A (evalArgs (.ref C) true (backTo cpos (starEach (e₀ :: rest) (envOf name scope L a cd))) [])
      (fun a s₂ => a.kw = [] ∧ a.pos.length ≤ sizeLine ∧ s₂.heap.get? C = some (excClassObj nm q C N bs bm hdct sn sub ab col dd k0 k1 k2 k3 k5 "Exception.__new__") ∧ s₂.heap.Ns N mN ∧ OwnTail s₂.heap [.type "ValueError", .type "Exception", .type "BaseException", .type "object"] bm ∧
        ∀ h' e, Heap.MadeExcOf s₂.heap h' e (.ref C) a.pos → E (.ref e) { s₂ with heap := h' }) E s₁) E s := by
    refine ld_own F hg O ⟨rfl, ?_⟩ hk hx hd
    rw [he] at h ⊢
    exact Calls.evalArgs_plain (wpAny_mono h (fun vs s₂ h₂ => ⟨rfl, h₂.1, h₂.2.1 _ _ hC, hN.keeps h₂.2.1, T.keeps h₂.2.1, h₂.2.2⟩) fun _ _ y => y)
  rw [arm_exec_Raise]
  first
    | refine wpAny_bind (wpAny_standAt (wpAny_raiseStmt_made_sub (C := C) (nm := nm) (q := q) (N := N) (bs := bs) (bm := bm) (hdct := hdct) (sn := sn) (sub := sub) (ab := ab) (col := col) (dd := dd) (k0 := k0) (k1 := k1) (k2 := k2) (k3 := k3) (k5 := k5) (newId := "Exception.__new__") hbase hh (wpAny_bind (wpAny_mono (wpAny_Call_ofName (wpAny_mono main (fun f s₁ h₁ => ?_) fun _ _ x => x)) (fun v s₃ h₃ => wpAny_bind (wpAny_standAt (wpAny_pure h₃))) fun _ _ x => x))))
    | (simp only [evalOpt, Option.map]; refine wpAny_bind (wpAny_standAt (wpAny_raiseStmt_made_sub (C := C) (nm := nm) (q := q) (N := N) (bs := bs) (bm := bm) (hdct := hdct) (sn := sn) (sub := sub) (ab := ab) (col := col) (dd := dd) (k0 := k0) (k1 := k1) (k2 := k2) (k3 := k3) (k5 := k5) (newId := "Exception.__new__") hbase hh (wpAny_bind (wpAny_mono (wpAny_Call_ofName (wpAny_mono main (fun f s₁ h₁ => ?_) fun _ _ x => x)) (fun v s₃ h₃ => wpAny_bind (wpAny_standAt (wpAny_pure h₃))) fun _ _ x => x)))))
  obtain ⟨rfl, h₁⟩ := h₁
  unfold callWith
  refine wpAny_bind (wpAny_holding (wpAny_mono h₁ (fun a s₂ h₂ => wpAny_bind (wpAny_standAt ?_)) fun _ _ x => x))
  obtain ⟨apos, akw⟩ := a
  obtain ⟨hkw, hlen, hC, hn, T, h₂⟩ := h₂
  obtain rfl : akw = [] := hkw
  obtain ⟨hp, g, d, tk, os⟩ := s₂
  simp only [hpl]
  refine wpAny_bind (wpAny_keeperOf_exc hC ?_)
  refine wpAny_bind (dia_call (hrest := hlen) T hC hn hni fun h' e hm => wpAny_bind (wpAny_holding (wpAny_point (wpAny_pure ?_))))
  obtain ⟨t, ht, _, _⟩ := hm.there
  exact ⟨e, t, rfl, hm.keeps _ _ hC, ht, h₂ h' e hm⟩
end
end Mine
end
section
open PySem PySem.W PyProof.Rows PySem.Calls
set_option maxRecDepth 100000
set_option maxHeartbeats 8000000
namespace Mine
local macro_rules | `(tactic| cell_enter) => `(tactic| (refine' code_def ?k1 ?k2 ?k3 ?k4 ?k5 ?kA ?kF ?kK ?k6 ?k7 ?k8 ?k9 ?kB ?_ ?c2 ?c3 ?c4 ?c5; (case kA => exact rfl); (case kF => exact rfl); (case kK => first | exact rfl | assumption); (case k1 => k_asm); (case k2 => k_asm); (case k3 => k_asm); (case k4 => k_asm); (case k5 => k_asm); (case k6 => k_is); (case k7 => k_is); (case k8 => ktr_room); (case k9 => first | exact BindsTo.of_eq rfl | exact binds_K (by k_in) rfl (by k_is) rfl rfl rfl); (case c5 => decide); (case kB => exact locs rfl); (case c2 => exact rfl); (case c3 => exact rfl); (case c4 => exact rfl); k_whole; intro g' L' h' FG' F' N' B' X' T'; (try dsimp only); (try k_lift B'); (try k_fold)))
local macro_rules | `(tactic| walk_at "call ref") => `(tactic| (k_here; (refine wpAny_call ?_); k_dflt cell_enter))
local macro_rules | `(tactic| walk_at "callWith ref") => `(tactic| (k_here; (with_reducible show wpAny _ _ (callWith _ (Value.ref _) _ (backTo _ (starEach (_ :: _) _)) (backToKw _ (keywordEach (_ :: _) _))) _ _ _); kfb_any; k_dflt (refine' callWith_bound_kw ?kfbN ?kfbM ?_; (case kfbN => k_asm); (case kfbM => k_mem); k_whole)))
local macro_rules | `(tactic| walk_at "callWith") => `(tactic| (k_here; (with_reducible show wpAny _ _ (callWith _ (Value.builtin _) (_ :: _) (backTo _ (starEach (_ :: _) _)) (backToKw _ (keywordEach (_ :: _) _))) _ _ _); k_dflt (refine callWith_method_kw ?_)))
local macro_rules | `(tactic| walk_at "call ref") => `(tactic| (k_here; (with_reducible show wpAny _ _ (call (Value.ref _) (Value.bytes _ _ :: _) _) _ _ _); kfb_any; k_dflt (first
  | (refine fb_call2 (by k_asm) (by k_mem) (by first | exact fb3 (by assumption) | exact Be32.val (by assumption)) (by first | exact fb3s (by assumption) | exact Be32.size64 (by assumption)) ?_)
  | (refine fb_call3 (by k_asm) (by k_mem) (by first | exact fb3 (by assumption) | exact Be32.val (by assumption)) (by first | exact fb3s (by assumption) | exact Be32.size64 (by assumption)) ?_)
  | (refine fb_call1 (by k_asm) (by k_mem) (by first | exact fb3 (by assumption) | exact Be32.val (by assumption)) (by first | exact fb3s (by assumption) | exact Be32.size64 (by assumption)) ?_)); intro _ _))
local macro_rules | `(tactic| walk_at "call type:bytes") => `(tactic| (k_here; (with_reducible show wpAny _ _ (call (Value.type _) [Value.bytes _ _]) _ _ _); (refine call_bytes_bytes ?_)))
local macro_rules | `(tactic| walk_at "call builtin:len") => `(tactic| (k_here; (with_reducible show wpAny _ _ (call (Value.builtin "len") [Value.bytes _ _]) _ _ _); first | (refine len4 (by assumption) ?_) | (refine Be32.len (by assumption) ?_)))
local macro_rules | `(tactic| walk_at "subscriptTail") => `(tactic| (k_here; (with_reducible show wpAny _ _ (subscriptTail _ _ (Value.bytes _ _) (Value.int _ _)) _ _ _); (first | refine item4_0 (by assumption) ?_ | refine item4_1 (by assumption) ?_); intro _ _))
local macro_rules | `(tactic| walk_at "subscriptTail") => `(tactic| (k_here; (with_reducible show wpAny _ _ (subscriptTail _ (Expr.Slice _ _ none _) (Value.bytes _ _) (Value.ref _)) _ _ _); (with_reducible rename Fr _ _ _ _ => F'); (with_reducible rename News _ _ _ _ => N'); (first | refine slice4_1 (s := ⟨_, _, _, _, _⟩) F' N' (by assumption) ?_ | refine slice4_2 (s := ⟨_, _, _, _, _⟩) F' N' (by assumption) ?_); intro _ _ _ _ _ _ kbcK))
local macro_rules | `(tactic| walk_at "binaryOp BitAnd int int") => `(tactic| (k_here; (first | (with_reducible refine mask_int ?_) | (with_reducible refine sign_int ?_))))
local macro_rules | `(tactic| walk_at "binaryOp LShift int int") => `(tactic| (k_here; (with_reducible refine shl_mask ?kb1 ?kb2 ?_); (case kb1 => omega); (case kb2 => omega)))
local macro_rules | `(tactic| k_mem) => `(tactic| assumption)
local macro_rules | `(tactic| k_all) => `(tactic| assumption)
local macro_rules | `(tactic| walk_at "call type:bytes") => `(tactic| (k_here; (with_reducible show wpAny _ _ (call (Value.type _) [Value.ref _]) _ _ _); k_dflt (refine' call_b1 ?bH ?bF ?bN ?bm ?b0 ?b1 ?_; (case bF => k_asm); (case bN => k_asm); (case bm => k_mem); (case bH => first | exact HN.none | exact HN.more (by assumption) (by intro p hp; repeat' (first | exact hp | refine List.Mem.tail _ ?_ | refine List.mem_append.mpr (Or.inr ?_)))); (case b0 => omega); (case b1 => omega)); intro _ _ _ _ F' N' hb1'))
local macro_rules | `(tactic| walk_at "binaryOp Add bytes bytes") => `(tactic| (k_here; (refine cat13 (by assumption) (by first | assumption | exact Eq.trans (by assumption) (little3 _)) ?_); intro _ _ _ hcat'))
local macro_rules | `(tactic| walk_at "getMethod bytes") => `(tactic| (k_here; (refine hex_method ?_)))
local macro_rules | `(tactic| walk_at "pyIter ref") => `(tactic| (k_here; (with_reducible show wpAny _ _ (pyIter (Value.ref _)) (fun it s₂ => LoopAtV _ _ _ _ _ _ _ _ _ it s₂) _ _); (with_unfolding_all refine' iter_tup1 ?tH ?tF ?tN ?tm ?tc ?td (fun own' h' tk' F' N' => ?_) (fun h' tk' F' N' => ?_); (case tF => k_asm); (case tN => k_asm); (case tm => k_mem); (case tc => exact rfl); (case td => exact rfl); (case tH => first | exact HN.none | exact HN.more (by assumption) (by intro p hp; repeat' (first | exact hp | refine List.Mem.tail _ ?_ | refine List.mem_append.mpr (Or.inr ?_))))); (all_goals (try k_fold))))
local macro_rules | `(tactic| walk_at "exec For Name Name cons nil") => `(tactic| (k_here; (rename Fr _ _ _ _ => lF'); (with_unfolding_all refine' For_invVF lF' ?k1 ?k2 ?_; (case k1 => exact rfl); (case k2 => exact rfl); k_whole)))
local macro_rules | `(tactic| walk_at "call ref") => `(tactic| (k_here; (with_reducible show wpAny _ _ (call (Value.ref 80) [Value.bytes _ _]) _ _ _); k_dflt (refine' tell_use (value_tell _ _ _ _ _ _ _ _ _ _ _ _ ?hb) ?k1 ?k2 ?k3 ?k4 ?k5 ?kK ?kd ?ku ?_; (case hb => assumption); (case k1 => k_asm); (case k2 => k_asm); (case k3 => k_asm); (case k4 => k_asm); (case k5 => k_asm); (case kK => first | exact rfl | assumption); (case kd => ktr_room); (case ku => ktr_units)); intro _ h' tk' F' N' hr'; obtain ⟨_, hr'⟩ := hr'; subst hr'))
local macro_rules | `(tactic| walk_at "call ref") => `(tactic| (k_here; (with_reducible show wpAny _ _ (call (Value.ref 59) [Value.bytes _ _, Value.int 4 _]) _ _ _); k_dflt (refine' tell_use (bfo4_tell _ _ _ _ _ _ ?hH _ _ _ _ _ _ _ ?hb) ?k1 ?k2 ?k3 ?k4 ?k5 ?kK ?kd ?ku ?_; (case k1 => k_asm); (case k2 => k_asm); (case k3 => k_asm); (case k4 => k_asm); (case k5 => k_asm); (case hb => assumption); (case kK => first | exact rfl | assumption); (case kd => ktr_room); (case ku => ktr_units); (case hH => first | exact HN.none | exact HN.more (by assumption) (by intro p hp; repeat' (first | exact hp | refine List.Mem.tail _ ?_ | refine List.mem_append.mpr (Or.inr ?_))))); intro _ h' tk' F' N' hr'; subst hr'))
local macro_rules | `(tactic| walk_at "call ref") => `(tactic| (k_here; (with_reducible show wpAny _ _ (call (Value.ref 59) [Value.bytes _ _]) _ _ _); k_dflt (refine' tell_use (bfo_tell _ _ _ _ _ _ _ _) ?k1 ?k2 ?k3 ?k4 ?k5 ?kK ?kd ?ku ?_; (case k1 => k_asm); (case k2 => k_asm); (case k3 => k_asm); (case k4 => k_asm); (case k5 => k_asm); (case kK => first | exact rfl | assumption); (case kd => ktr_room); (case ku => ktr_units)); intro _ h' tk' F' N' hr'; subst hr'))
local macro_rules | `(tactic| walk_at "binaryOp Pow int int") => `(tactic| (k_here; first | (with_reducible refine pow_256_32 ?_) | (with_reducible refine pow_2_256 ?_) | (with_reducible refine pow_2_23 ?_)))
local macro_rules | `(tactic| walk_at "call builtin:int.to_bytes") => `(tactic| (k_here; (first | (with_unfolding_all refine tb32k ?tb0 ?tb1 ?_) | (with_unfolding_all refine tb32 ?tb0 ?tb1 ?_)); (case tb0 => first | assumption | omega); (case tb1 => first | assumption | omega); intro _ _ _ htb'))
local macro_rules | `(tactic| walk_at "call ref") => `(tactic| (k_here; (with_reducible show wpAny _ _ (call (Value.ref 101) [Value.bytes _ _]) _ _ _); k_dflt (refine' tell_use (bits_tell _ _ _ _ _ _ ?hH _ _ _ ?hb) ?k1 ?k2 ?k3 ?k4 ?k5 ?kK ?kd ?ku ?_; (case k1 => k_asm); (case k2 => k_asm); (case k3 => k_asm); (case k4 => k_asm); (case k5 => k_asm); (case kK => first | exact rfl | assumption); (case kd => ktr_room); (case ku => ktr_units); (case hb => assumption); (case hH => first | exact HN.none | exact HN.more (by assumption) (by intro p hp; repeat' (first | exact hp | refine List.Mem.tail _ ?_ | refine List.mem_append.mpr (Or.inr ?_))))); intro _ h' tk' F' N' hr'; obtain ⟨_, _, hr', hq'⟩ := hr'; subst hr'))
local macro_rules | `(tactic| walk_at "call ref") => `(tactic| (k_here; (with_reducible show wpAny _ _ (call (Value.ref 87) [Value.bytes _ _]) _ _ _); k_dflt (refine' tell_use (target_tell _ _ _ _ _ _ ?hH _ _ _ _ _ _ ?hb ?hv) ?k1 ?k2 ?k3 ?k4 ?k5 ?kK ?kd ?ku ?_; (case k1 => k_asm); (case k2 => k_asm); (case k3 => k_asm); (case k4 => k_asm); (case k5 => k_asm); (case kK => first | exact rfl | assumption); (case kd => ktr_room); (case ku => ktr_units); (case hb => assumption); (case hv => first | assumption | omega); (case hH => first | exact HN.none | exact HN.more (by assumption) (by intro p hp; repeat' (first | exact hp | refine List.Mem.tail _ ?_ | refine List.mem_append.mpr (Or.inr ?_))))); intro _ h' tk' F' N' hr'; obtain ⟨_, _, hr', hq'⟩ := hr'; subst hr'))
local macro_rules | `(tactic| walk_at "call builtin:bytes.hex") => `(tactic| (k_here; (refine hex4 (by assumption) ?_); intro _ _ _ hhx'))
local macro_rules | `(tactic| walk_at "formatField str") => `(tactic| (k_here; (with_reducible refine fmt8 (by assumption) ?_); intro _ _))
local macro_rules | `(tactic| walk_at "exec Raise some none") => `(tactic| (k_here; (with_reducible show wpAny _ _ (exec (Stmt.Raise (some (Expr.Call (Expr.Name _ _) (_ :: _) [] _)) none _) _) _ _ _); k_dflt (refine' Raise_dia ?F ?g ?O ?h ?_ ?a ?b ?c ?d ?e; (case F => k_asm); (case g => exact TopRead.g (by k_asm)); (case O => exact own_of_in (by k_asm) (by k_asm) (by k_is) (by k_exc)); (case h => first | rfl | assumption); (case a => rfl); (case b => rfl); (case c => rfl); (case d => rfl); (case e => decide); k_whole)))
theorem valB_tell (w : World) (mean : ExcName → Option Value) (mg mb : PySem.Str → Option Value) (news : List (Addr × Obj)) (b : Array UInt8) (t : Tok) (e x y z : Int) (hb : KBw.bInts b = [e, x, y, z])
  (dp un : Nat) (gd : Option (List Code)) (cn : PySem.Str) (cs : Scope) (a : Addr) (ccd : Value) (A₀ : Around) (base h₀ : Heap) (L : Addr) (m : PySem.Str → Option Value) (s : Shared) (Q E : Value → Shared → Prop)
  (XB : (hd.heap_39 w.params).In base) (TB : Top hd.view_39 LOO mean mg mb base) (B : Below A₀ base [] h₀) (F : Fr h₀ L s.heap m) (X : (hd.heap_39 w.params).In h₀) (N : News h₀ L s.heap news) (T : Top hd.view_39 LOO mean mg mb h₀) (hk : cs.kind = .function)
  (hd : dp + 4 < recursionLimit) (hu : un + 32 < cLine)
  (hret : ∀ r h' tk', Fr h₀ L h' m → News h₀ L h' news → (if valI e ((x * 256 + y) * 256 + z) < 2 ^ 256 then ∃ t', r = .int (valI e ((x * 256 + y) * 256 + z)) t' else r = .none) → Q r { s with heap := h', toks := tk' }) :
    wpAny (model PR w) { handled := none, depth := dp, frames := some [envOf cn cs L a ccd], guards := gd, units := un } (call (.ref 129) [.bytes b t]) Q E s := by
  by_cases hval : valI e ((x * 256 + y) * 256 + z) < 2 ^ 256
  · refine tell_use (outer := []) (cl := []) (valA_tell w mean mg mb news none HN.none b t e x y z hb hval) B F X N T hk hd hu ?_
    intro r h' tk' F' N' hr
    exact hret r h' tk' F' N' (by rw [if_pos hval]; exact hr)
  · have hin := in4 hb
    have hnn : 0 ≤ valI e ((x * 256 + y) * 256 + z) := valI_nn hin.1.1
    refine wpAny_call ?_
    k_dflt (refine' code_defS0 ?k1 ?k2 ?k3 ?k4 ?k5 ?kA ?k6 ?k7 ?k8 ?k9 ?kB ?_ ?cK ?c2 ?c3 ?c4 ?c5; (case kA => exact rfl); (case k2 => k_asm); (case k1 => k_asm); (case k3 => k_asm); (case k4 => k_asm); (case k5 => k_asm); (case k6 => k_is); (case k7 => k_is); (case k8 => ktr_room); (case k9 => exact BindsTo.of_eq rfl); (case kB => exact locs rfl); (case cK => assumption); (case c2 => exact rfl); (case c3 => exact rfl); (case c4 => exact rfl); (case c5 => decide); k_whole; intro g' L' h' FG' F' N' B' X' T' D'; (try dsimp only); (try k_lift B'); (try k_fold))
    k_steps
    · exact hret _ _ _ (by assumption) (cb_drop (by assumption) (by kcj_all)) (by rw [if_neg hval])
end Mine
end
section
open PySem PySem.W PyProof.Rows PySem.Calls
set_option maxRecDepth 100000
set_option maxHeartbeats 1000000
namespace Mine
structure StOk (st sl : Addr) (ws : List Value) (rest : List (Addr × Obj)) : Prop where
  ne : sl ≠ st
  off : ∀ p ∈ rest, p.1 ≠ st
  vals : ∃ ns, IntsAre ws ns
  len : ws.length ≤ 63
abbrev StNews (st sl : Addr) (ws : List Value) (i : Int) (tk : Tok) (rest : List (Addr × Obj)) : List (Addr × Obj) :=
  (st, PySem.W.listOf #[.ref sl, .int i tk] 0) :: (sl, PySem.W.listOf ws.toArray 0) :: rest
noncomputable abbrev TellS (w : World) (mean : ExcName → Option Value) (mg mb : PySem.Str → Option Value) (D U c : Nat) (hv : Option Value) (f : Addr) (vs : List Value) (st sl : Addr) (ws : List Value) (i : Int) (tk : Tok) (rest : List (Addr × Obj)) (Post : Value → Prop) : Prop :=
  ∀ (dp un : Nat) (gd : Option (List Code)) (cn : PySem.Str) (cs : Scope) (a : Addr) (ccd : Value) (cl : List (PySem.Str × Addr)) (outer : List Env) (A₀ : Around) (base h₀ : Heap) (L : Addr) (m : PySem.Str → Option Value) (s : Shared) (Q E : Value → Shared → Prop),
    Below A₀ base outer h₀ → Fr h₀ L s.heap m → (hd.heap_39 w.params).In h₀ → News h₀ L s.heap (StNews st sl ws i tk rest) → Top hd.view_39 LOO mean mg mb h₀ → cs.kind = .function →
    dp + D < recursionLimit → un + U < cLine →
    (∀ r i' tk1 h' tk', i ≤ i' → i' ≤ i + c → Fr h₀ L h' m → News h₀ L h' (StNews st sl ws i' tk1 rest) → Post r → Q r { s with heap := h', toks := tk' }) →
    wpAny (model PR w) (ktrH hv dp un gd cn cs L a ccd cl outer) (call (.ref f) vs) Q E s
theorem tellS_use {w : World} {mean : ExcName → Option Value} {mg mb : PySem.Str → Option Value} {D U c : Nat} {hv : Option Value} {f : Addr} {vs : List Value} {st sl : Addr} {ws : List Value} {i : Int} {tk : Tok} {rest : List (Addr × Obj)} {Post : Value → Prop}
    {dp un : Nat} {gd : Option (List Code)} {cn : PySem.Str} {cs : Scope} {a : Addr} {ccd : Value} {cl : List (PySem.Str × Addr)} {outer : List Env} {A₀ : Around} {base h₀ : Heap} {L : Addr} {m : PySem.Str → Option Value} {s : Shared} {Q E : Value → Shared → Prop}
    (C : TellS w mean mg mb D U c hv f vs st sl ws i tk rest Post) (B : Below A₀ base outer h₀) (F : Fr h₀ L s.heap m) (X : (hd.heap_39 w.params).In h₀) (N : News h₀ L s.heap (StNews st sl ws i tk rest)) (T : Top hd.view_39 LOO mean mg mb h₀) (hk : cs.kind = .function)
    (hd : dp + D < recursionLimit) (hu : un + U < cLine) (ret : ∀ r i' tk1 h' tk', i ≤ i' → i' ≤ i + c → Fr h₀ L h' m → News h₀ L h' (StNews st sl ws i' tk1 rest) → Post r → Q r { s with heap := h', toks := tk' }) :
    wpAny (model PR w) (ktrH hv dp un gd cn cs L a ccd cl outer) (call (.ref f) vs) Q E s :=
  C dp un gd cn cs a ccd cl outer A₀ base h₀ L m s Q E B F X N T hk hd hu ret
end Mine
namespace Mine
section
variable {prog : Program} {w : World} {A : Around} {E : Value → Shared → Prop} {s : Shared} {h₀ : Heap} {L : Addr} {m : PySem.Str → Option Value} {news : List (Addr × Obj)} {sl : Addr} {ws : List Value} {ns : List Int}
theorem isList_st (N : News h₀ L s.heap news) (hm : (sl, PySem.W.listOf ws.toArray 0) ∈ news) : s.heap.IsList sl ws.toArray := ⟨_, (N _ hm).1, rfl, _, rfl⟩
theorem len_st {Q : Value → Shared → Prop} (N : News h₀ L s.heap news) (hm : (sl, PySem.W.listOf ws.toArray 0) ∈ news) (hw : ws.length ≤ 63) (h : ∀ t' k, Q (.int (ws.length : Int) t') { s with toks := k }) :
    wpAny (model prog w) A (call (.builtin "len") [.ref sl]) Q E s :=
  len_list (isList_st N hm) (by simp; omega) (by simpa using h _ _)
theorem item_st {value slice : PySem.Expr} {k : Int} {u : Tok} {Q : Value → Shared → Prop} (N : News h₀ L s.heap news) (hm : (sl, PySem.W.listOf ws.toArray 0) ∈ news) (hi : IntsAre ws ns) (hw : ws.length ≤ 63) (h0 : 0 ≤ k) (h1 : k < (ws.length : Int)) (h : ∀ v t', Q (.int v t') s)
    (hs : subscripted slice false (.ref sl) (.int k u) = operate [.ref sl, .int k u] (getItem (.ref sl) (.int k u)) := by with_unfolding_all rfl) (hg : ∀ r, letTemporaryGo value (.ref sl) r = pure () := by intro _; with_unfolding_all rfl) :
    wpAny (model prog w) A (subscriptTail value slice (.ref sl) (.int k u)) Q E s := by
  have hlt : k.toNat < ws.length := by omega
  obtain ⟨v, t, e, _⟩ := IntsAre.at hi k.toNat ws[k.toNat] (List.getElem?_eq_getElem hlt)
  refine item_list (x := .int v t) (isList_st N hm) h0 (by omega) (by simp [hlt, e]) (h v t) hs hg
end
end Mine
end
section
open PySem PySem.W PyProof.Rows PySem.Calls
set_option maxRecDepth 100000
set_option maxHeartbeats 1000000
set_option exponentiation.threshold 2000
namespace Mine
/-- a power, a product, a quotient, under a name of its own -/
structure PowIs (k P : Int) : Prop where
  eq : P = 256 ^ k.toNat
structure MulIs (x y z : Int) : Prop where
  eq : z = x * y
structure DivIs (x y z : Int) : Prop where
  eq : z = x.fdiv y
structure Sm (z : Int) : Prop where
  lo : 0 ≤ z
  hi : z.natAbs < 2 ^ 1000
theorem Sm.of {z : Int} (h0 : 0 ≤ z) (h1 : z ≤ 2 ^ 256) : Sm z where
  lo := h0
  hi := by
    have h : (2 : Nat) ^ 256 < 2 ^ 1000 := Nat.pow_lt_pow_right (by decide) (by decide)
    have h2 : z.natAbs ≤ 2 ^ 256 := by
      have e : ((2 : Int) ^ 256) = ((2 ^ 256 : Nat) : Int) := cast_pow2 256
      rw [e] at h1
      omega
    exact Nat.lt_of_le_of_lt h2 h
theorem Sm.bits {z : Int} (h : Sm z) : Builtin.Int.intBits z ≤ 2 ^ 20 := Nat.le_trans (intBits_le_iff.mpr h.hi) (by decide)
theorem pow256_nat {k : Int} (h0 : 0 ≤ k) (h1 : k ≤ 32) : (256 : Int) ^ k.toNat = ((256 ^ k.toNat : Nat) : Int) ∧ 1 ≤ 256 ^ k.toNat ∧ 256 ^ k.toNat ≤ 2 ^ 256 := by
  refine ⟨by rw [Int.natCast_pow]; rfl, Nat.pow_pos (by decide), ?_⟩
  have e : (2 : Nat) ^ 256 = 256 ^ 32 := by rw [show (256 : Nat) = 2 ^ 8 from rfl, ← Nat.pow_mul]
  rw [e]
  exact Nat.pow_le_pow_right (by decide) (by omega)
section
variable {prog : Program} {w : World} {A : Around} {E : Value → Shared → Prop} {s : Shared} {t u : Tok}
theorem pow_h {k : Int} {Q : Value → Shared → Prop} (h0 : 0 ≤ k) (h1 : k ≤ 32) (h : ∀ P t' tk', PowIs k P → Sm P → 1 ≤ P → P ≤ 2 ^ 256 → Q (.int P t') { s with toks := tk' }) : wpAny (model prog w) A (binaryOp .Pow (.int 256 t) (.int k u)) Q E s := by
  obtain ⟨e, l, b⟩ := pow256_nat h0 h1
  have e2 : ((2 : Int) ^ 256) = ((2 ^ 256 : Nat) : Int) := cast_pow2 256
  have hb : (256 : Int) ^ k.toNat ≤ 2 ^ 256 := by rw [e, e2]; exact Int.ofNat_le.mpr b
  have hl : (1 : Int) ≤ 256 ^ k.toNat := by rw [e]; exact Int.ofNat_le.mpr l
  exact pow_int_small h0 (by omega) (by decide) (h _ _ _ ⟨rfl⟩ (.of (by omega) hb) hl hb)
theorem mul_h {x y : Int} {Q : Value → Shared → Prop} (hx : Sm x) (hy : Sm y) (h : ∀ z t' tk', MulIs x y z → 0 ≤ z → Q (.int z t') { s with toks := tk' }) : wpAny (model prog w) A (binaryOp .Mult (.int x t) (.int y u)) Q E s :=
  mul_int (h _ _ _ ⟨rfl⟩ (Int.mul_nonneg hx.lo hy.lo)) (.of_bits hx.bits hy.bits)
theorem div_h {x y : Int} {Q : Value → Shared → Prop} (hx : 0 ≤ x) (hy : Sm y) (hy1 : 1 ≤ y) (h : ∀ z t' tk', DivIs x y z → 0 ≤ z → z ≤ x → Q (.int z t') { s with toks := tk' }) : wpAny (model prog w) A (binaryOp .FloorDiv (.int x t) (.int y u)) Q E s := by
  have e : x.fdiv y = x / y := Int.fdiv_eq_ediv_of_nonneg _ (by omega)
  refine floordiv_int (by omega) (h _ _ _ ⟨rfl⟩ (by rw [e]; exact Int.ediv_nonneg hx (by omega)) (by rw [e]; exact Int.ediv_le_self _ hx)) (.inl (PyProof.noPylong_of_log2 ?_))
  by_cases hz : y.natAbs = 0
  · rw [hz]; decide
  · exact Nat.lt_of_lt_of_le ((Nat.log2_lt hz).mpr hy.hi) (by decide)
theorem pow_2_24 {Q : Value → Shared → Prop} (h : Q (.int 16777216 s.toks) { s with toks := s.toks + 1 }) : wpAny (model prog w) A (binaryOp .Pow (.int 2 t) (.int 24 u)) Q E s := by
  refine pow_int_small (by decide) (by decide) (by decide) ?_
  have e : (2 : Int) ^ Int.toNat 24 = 16777216 := by decide
  rw [e]
  exact h
theorem pow_2_14 {Q : Value → Shared → Prop} (h : Q (.int 16384 s.toks) { s with toks := s.toks + 1 }) : wpAny (model prog w) A (binaryOp .Pow (.int 2 t) (.int 14 u)) Q E s := by
  refine pow_int_small (by decide) (by decide) (by decide) ?_
  have e : (2 : Int) ^ Int.toNat 14 = 16384 := by decide
  rw [e]
  exact h
end
/-- a target that the script builds: all ones below, up to 256 bits -/
theorem built1 {m a P z : Int} (hm1 : 1 ≤ m) (hm2 : m ≤ 32) (ha0 : 0 ≤ a) (ha1 : a < 256) (hP : PowIs (m - 1) P) (hz : MulIs (a + 1) P z) : 0 ≤ z - 1 ∧ z - 1 < 2 ^ 256 := by
  obtain ⟨rfl⟩ := hP
  obtain ⟨rfl⟩ := hz
  obtain ⟨k, hk⟩ : ∃ k : Nat, (m - 1).toNat = k ∧ k ≤ 31 := ⟨_, rfl, by omega⟩
  obtain ⟨hk, hk31⟩ := hk
  rw [hk]
  have c : ((256 : Int) ^ k) = ((256 ^ k : Nat) : Int) := by rw [Int.natCast_pow]; rfl
  obtain ⟨A, rfl⟩ := Int.eq_ofNat_of_zero_le ha0
  have e2 : ((2 : Int) ^ 256) = ((2 ^ 256 : Nat) : Int) := cast_pow2 256
  have p1 : 1 ≤ 256 ^ k := Nat.pow_pos (by decide)
  have p2 : (A + 1) * 256 ^ k ≤ 2 ^ 256 := by
    have q1 : (A + 1) * 256 ^ k ≤ 256 * 256 ^ k := Nat.mul_le_mul_right _ (by omega)
    have q2 : 256 * 256 ^ k = 256 ^ (k + 1) := by rw [Nat.pow_succ, Nat.mul_comm]
    have q3 : 256 ^ (k + 1) ≤ 256 ^ 32 := Nat.pow_le_pow_right (by decide) (by omega)
    have q4 : (2 : Nat) ^ 256 = 256 ^ 32 := by rw [show (256 : Nat) = 2 ^ 8 from rfl, ← Nat.pow_mul]
    omega
  have p3 : 1 ≤ (A + 1) * 256 ^ k := Nat.mul_pos (by omega) p1
  have e : ((A : Int) + 1) * (256 : Int) ^ k = (((A + 1) * 256 ^ k : Nat) : Int) := by rw [c, Int.natCast_mul]; rfl
  rw [e, e2]
  omega
theorem built2 {m d1 d2 u y v P2 P3 : Int} (hP2 : PowIs m P2) (hP3 : PowIs m P3) (h1 : DivIs P2 16384 d1) (h2 : DivIs P3 16777216 d2) (hu0 : 0 ≤ u) (hu1 : u < 1000) (hy : MulIs u d2 y) (hv : d1 < v) (hv1 : v < 2 ^ 256) : 0 ≤ v - y ∧ v - y < 2 ^ 256 := by
  obtain ⟨e2⟩ := hP2
  obtain ⟨e3⟩ := hP3
  obtain ⟨rfl⟩ := h1
  obtain ⟨rfl⟩ := h2
  obtain ⟨rfl⟩ := hy
  have e : P3 = P2 := e3.trans e2.symm
  rw [e]
  have hp : 0 ≤ P2 := by rw [e2]; exact Int.pow_nonneg (by decide)
  rw [Int.fdiv_eq_ediv_of_nonneg _ (by decide)] at hv ⊢
  generalize P2 = P at *
  have b1 : u * (P / 16777216) ≤ 1000 * (P / 16777216) := Int.mul_le_mul_of_nonneg_right (by omega) (by omega)
  have b2 : 0 ≤ u * (P / 16777216) := Int.mul_nonneg hu0 (by omega)
  generalize u * (P / 16777216) = z at *
  omega
theorem built1' {m a P z : Int} (hz : MulIs (a + 1) P z) (hP : PowIs (m - 1) P) (hm1 : 1 ≤ m) (hm2 : m ≤ 32) (ha0 : 0 ≤ a) (ha1 : a < 256) : 0 ≤ z - 1 ∧ z - 1 < 2 ^ 256 := built1 hm1 hm2 ha0 ha1 hP hz
theorem built2' {m m' a P z d1 d2 u y P2 P3 : Int} (hy : MulIs u d2 y) (h2 : DivIs P3 16777216 d2) (hP3 : PowIs m P3) (h1 : DivIs P2 16384 d1) (hP2 : PowIs m P2) (hz : MulIs (a + 1) P z) (hP : PowIs (m' - 1) P) (hm1 : 1 ≤ m') (hm2 : m' ≤ 32) (ha0 : 0 ≤ a) (ha1 : a < 256) (hu0 : 0 ≤ u) (hu1 : u < 1000) (hv : d1 < z - 1) : 0 ≤ z - 1 - y ∧ z - 1 - y < 2 ^ 256 :=
  built2 hP2 hP3 h1 h2 hu0 hu1 hy hv (built1 hm1 hm2 ha0 ha1 hP hz).2
/-- the value as the law reckons it, by its steps -/
theorem plain_is {e n P1 P2 x z : Int} (he : 0 ≤ e) (hn0 : 0 ≤ n) (hn : n < 8388608) (hP1 : PowIs (max 0 (e - 3)) P1) (hx : MulIs n P1 x) (hP2 : PowIs (max 0 (3 - e)) P2) (hz : DivIs x P2 z) : z = valI e n := by
  obtain ⟨rfl⟩ := hP1
  obtain ⟨rfl⟩ := hx
  obtain ⟨rfl⟩ := hP2
  obtain ⟨rfl⟩ := hz
  exact plain_eq he hn0 hn
end Mine
namespace Mine
section
variable {prog : Program} {w : World} {A : Around} {E : Value → Shared → Prop} {s : Shared} {t u : Tok}
theorem mod_23 {x : Int} {Q : Value → Shared → Prop} (h : Q (.int (x % 8388608) s.toks) { s with toks := s.toks + 1 }) : wpAny (model prog w) A (binaryOp .Mod (.int x t) (.int 8388608 u)) Q E s := by
  refine mod_int' (by decide) ?_
  rw [Int.fmod_eq_emod_of_nonneg _ (by decide)]
  exact h
end
end Mine
end
section
open PySem PySem.W PyProof.Rows PySem.Calls
set_option maxRecDepth 100000
set_option maxHeartbeats 8000000
namespace Mine
local macro_rules | `(tactic| cell_enter) => `(tactic| (refine' code_def ?k1 ?k2 ?k3 ?k4 ?k5 ?kA ?kF ?kK ?k6 ?k7 ?k8 ?k9 ?kB ?_ ?c2 ?c3 ?c4 ?c5; (case kA => exact rfl); (case kF => exact rfl); (case kK => first | exact rfl | assumption); (case k1 => k_asm); (case k2 => k_asm); (case k3 => k_asm); (case k4 => k_asm); (case k5 => k_asm); (case k6 => k_is); (case k7 => k_is); (case k8 => ktr_room); (case k9 => first | exact BindsTo.of_eq rfl | exact binds_K (by k_in) rfl (by k_is) rfl rfl rfl); (case c5 => decide); (case kB => exact locs rfl); (case c2 => exact rfl); (case c3 => exact rfl); (case c4 => exact rfl); k_whole; intro g' L' h' FG' F' N' B' X' T'; (try dsimp only); (try k_lift B'); (try k_fold)))
local macro_rules | `(tactic| walk_at "call ref") => `(tactic| (k_here; (refine wpAny_call ?_); k_dflt cell_enter))
local macro_rules | `(tactic| walk_at "callWith ref") => `(tactic| (k_here; (with_reducible show wpAny _ _ (callWith _ (Value.ref _) _ (backTo _ (starEach (_ :: _) _)) (backToKw _ (keywordEach (_ :: _) _))) _ _ _); kfb_any; k_dflt (refine' callWith_bound_kw ?kfbN ?kfbM ?_; (case kfbN => k_asm); (case kfbM => k_mem); k_whole)))
local macro_rules | `(tactic| walk_at "callWith") => `(tactic| (k_here; (with_reducible show wpAny _ _ (callWith _ (Value.builtin _) (_ :: _) (backTo _ (starEach (_ :: _) _)) (backToKw _ (keywordEach (_ :: _) _))) _ _ _); k_dflt (refine callWith_method_kw ?_)))
local macro_rules | `(tactic| walk_at "call ref") => `(tactic| (k_here; (with_reducible show wpAny _ _ (call (Value.ref _) (Value.bytes _ _ :: _) _) _ _ _); kfb_any; k_dflt (first
  | (refine fb_call2 (by k_asm) (by k_mem) (by first | exact fb3 (by assumption) | exact Be32.val (by assumption)) (by first | exact fb3s (by assumption) | exact Be32.size64 (by assumption)) ?_)
  | (refine fb_call3 (by k_asm) (by k_mem) (by first | exact fb3 (by assumption) | exact Be32.val (by assumption)) (by first | exact fb3s (by assumption) | exact Be32.size64 (by assumption)) ?_)
  | (refine fb_call1 (by k_asm) (by k_mem) (by first | exact fb3 (by assumption) | exact Be32.val (by assumption)) (by first | exact fb3s (by assumption) | exact Be32.size64 (by assumption)) ?_)); intro _ _))
local macro_rules | `(tactic| walk_at "call type:bytes") => `(tactic| (k_here; (with_reducible show wpAny _ _ (call (Value.type _) [Value.bytes _ _]) _ _ _); (refine call_bytes_bytes ?_)))
local macro_rules | `(tactic| walk_at "call builtin:len") => `(tactic| (k_here; (with_reducible show wpAny _ _ (call (Value.builtin "len") [Value.bytes _ _]) _ _ _); first | (refine len4 (by assumption) ?_) | (refine Be32.len (by assumption) ?_)))
local macro_rules | `(tactic| walk_at "subscriptTail") => `(tactic| (k_here; (with_reducible show wpAny _ _ (subscriptTail _ _ (Value.bytes _ _) (Value.int _ _)) _ _ _); (first | refine item4_0 (by assumption) ?_ | refine item4_1 (by assumption) ?_); intro _ _))
local macro_rules | `(tactic| walk_at "subscriptTail") => `(tactic| (k_here; (with_reducible show wpAny _ _ (subscriptTail _ (Expr.Slice _ _ none _) (Value.bytes _ _) (Value.ref _)) _ _ _); (with_reducible rename Fr _ _ _ _ => F'); (with_reducible rename News _ _ _ _ => N'); (first | refine slice4_1 (s := ⟨_, _, _, _, _⟩) F' N' (by assumption) ?_ | refine slice4_2 (s := ⟨_, _, _, _, _⟩) F' N' (by assumption) ?_); intro _ _ _ _ _ _ kbcK))
local macro_rules | `(tactic| walk_at "binaryOp BitAnd int int") => `(tactic| (k_here; (first | (with_reducible refine mask_int ?_) | (with_reducible refine sign_int ?_))))
local macro_rules | `(tactic| walk_at "binaryOp LShift int int") => `(tactic| (k_here; (with_reducible refine shl_mask ?kb1 ?kb2 ?_); (case kb1 => omega); (case kb2 => omega)))
local macro_rules | `(tactic| k_mem) => `(tactic| assumption)
local macro_rules | `(tactic| k_all) => `(tactic| assumption)
local macro_rules | `(tactic| walk_at "call type:bytes") => `(tactic| (k_here; (with_reducible show wpAny _ _ (call (Value.type _) [Value.ref _]) _ _ _); k_dflt (refine' call_b1 ?bH ?bF ?bN ?bm ?b0 ?b1 ?_; (case bF => k_asm); (case bN => k_asm); (case bm => k_mem); (case bH => first | exact HN.none | exact HN.more (by assumption) (by intro p hp; repeat' (first | exact hp | refine List.Mem.tail _ ?_ | refine List.mem_append.mpr (Or.inr ?_)))); (case b0 => omega); (case b1 => omega)); intro _ _ _ _ F' N' hb1'))
local macro_rules | `(tactic| walk_at "binaryOp Add bytes bytes") => `(tactic| (k_here; (refine cat13 (by assumption) (by first | assumption | exact Eq.trans (by assumption) (little3 _)) ?_); intro _ _ _ hcat'))
local macro_rules | `(tactic| walk_at "getMethod bytes") => `(tactic| (k_here; (refine hex_method ?_)))
local macro_rules | `(tactic| walk_at "pyIter ref") => `(tactic| (k_here; (with_reducible show wpAny _ _ (pyIter (Value.ref _)) (fun it s₂ => LoopAtV _ _ _ _ _ _ _ _ _ it s₂) _ _); (with_unfolding_all refine' iter_tup1 ?tH ?tF ?tN ?tm ?tc ?td (fun own' h' tk' F' N' => ?_) (fun h' tk' F' N' => ?_); (case tF => k_asm); (case tN => k_asm); (case tm => k_mem); (case tc => exact rfl); (case td => exact rfl); (case tH => first | exact HN.none | exact HN.more (by assumption) (by intro p hp; repeat' (first | exact hp | refine List.Mem.tail _ ?_ | refine List.mem_append.mpr (Or.inr ?_))))); (all_goals (try k_fold))))
local macro_rules | `(tactic| walk_at "exec For Name Name cons nil") => `(tactic| (k_here; (rename Fr _ _ _ _ => lF'); (with_unfolding_all refine' For_invVF lF' ?k1 ?k2 ?_; (case k1 => exact rfl); (case k2 => exact rfl); k_whole)))
local macro_rules | `(tactic| walk_at "call builtin:len") => `(tactic| (k_here; (with_reducible show wpAny _ _ (call (Value.builtin "len") [Value.ref _]) _ _ _); k_dflt (refine' len_st ?lN ?lm ?lw ?_; (case lN => k_asm); (case lm => k_mem); (case lw => assumption)); intro _ _))
local macro_rules | `(tactic| walk_at "subscriptTail") => `(tactic| (k_here; (with_reducible show wpAny _ _ (subscriptTail _ _ (Value.ref _) (Value.int _ _)) _ _ _); k_dflt (refine' item_st ?iN ?im ?ii ?iw ?i0 ?i1 ?_; (case ii => assumption); (case iN => k_asm); (case im => k_mem); (case iw => assumption); (case i0 => omega); (case i1 => omega)); intro _ _))
theorem next_tell (w mean mg mb) (st sl : Addr) (ws : List Value) (i : Int) (tk : Tok) (rest : List (Addr × Obj)) (hS : StOk st sl ws rest) (lim : Int) (tl : Tok) (hl : 0 < lim) (hi0 : 0 ≤ i) (hi1 : i ≤ 1000000) :
  TellS w mean mg mb 1 8 1 none 115 [.ref st, .int lim tl] st sl ws i tk rest (fun r => ∃ v t, r = .int v t ∧ 0 ≤ v ∧ v < lim) := by
  intro dp un gd cn cs a ccd cl outer A₀ base h₀ L m s Q E B F X N T hk hd hu hret
  obtain ⟨hne, hoff, ⟨ns, hi⟩, hlen⟩ := hS
  refine wpAny_call ?_
  k_dflt cell_enter
  k_steps
  · exact hret _ (i + 1) _ _ _ (by omega) (by omega) (by assumption) (by assumption) ⟨0, _, rfl, by omega, by omega⟩
  · exact hret _ (i + 1) _ _ _ (by omega) (by omega) (by assumption) (by assumption) ⟨_, _, rfl, Int.fmod_nonneg_of_pos _ hl, Int.fmod_lt_of_pos _ hl⟩
end Mine
end
section
open PySem PySem.W PyProof.Rows PySem.Calls
set_option maxRecDepth 100000
set_option maxHeartbeats 1200000
namespace Mine
local macro_rules | `(tactic| cell_enter) => `(tactic| (refine' code_def ?k1 ?k2 ?k3 ?k4 ?k5 ?kA ?kF ?kK ?k6 ?k7 ?k8 ?k9 ?kB ?_ ?c2 ?c3 ?c4 ?c5; (case kA => exact rfl); (case kF => exact rfl); (case kK => first | exact rfl | assumption); (case k1 => k_asm); (case k2 => k_asm); (case k3 => k_asm); (case k4 => k_asm); (case k5 => k_asm); (case k6 => k_is); (case k7 => k_is); (case k8 => ktr_room); (case k9 => first | exact BindsTo.of_eq rfl | exact binds_K (by k_in) rfl (by k_is) rfl rfl rfl); (case c5 => decide); (case kB => exact locs rfl); (case c2 => exact rfl); (case c3 => exact rfl); (case c4 => exact rfl); k_whole; intro g' L' h' FG' F' N' B' X' T'; (try dsimp only); (try k_lift B'); (try k_fold)))
local macro_rules | `(tactic| walk_at "call ref") => `(tactic| (k_here; (refine wpAny_call ?_); k_dflt cell_enter))
local macro_rules | `(tactic| walk_at "callWith ref") => `(tactic| (k_here; (with_reducible show wpAny _ _ (callWith _ (Value.ref _) _ (backTo _ (starEach (_ :: _) _)) (backToKw _ (keywordEach (_ :: _) _))) _ _ _); kfb_any; k_dflt (refine' callWith_bound_kw ?kfbN ?kfbM ?_; (case kfbN => k_asm); (case kfbM => k_mem); k_whole)))
local macro_rules | `(tactic| walk_at "callWith") => `(tactic| (k_here; (with_reducible show wpAny _ _ (callWith _ (Value.builtin _) (_ :: _) (backTo _ (starEach (_ :: _) _)) (backToKw _ (keywordEach (_ :: _) _))) _ _ _); k_dflt (refine callWith_method_kw ?_)))
local macro_rules | `(tactic| walk_at "call ref") => `(tactic| (k_here; (with_reducible show wpAny _ _ (call (Value.ref _) (Value.bytes _ _ :: _) _) _ _ _); kfb_any; k_dflt (first
  | (refine fb_call2 (by k_asm) (by k_mem) (by first | exact fb3 (by assumption) | exact Be32.val (by assumption)) (by first | exact fb3s (by assumption) | exact Be32.size64 (by assumption)) ?_)
  | (refine fb_call3 (by k_asm) (by k_mem) (by first | exact fb3 (by assumption) | exact Be32.val (by assumption)) (by first | exact fb3s (by assumption) | exact Be32.size64 (by assumption)) ?_)
  | (refine fb_call1 (by k_asm) (by k_mem) (by first | exact fb3 (by assumption) | exact Be32.val (by assumption)) (by first | exact fb3s (by assumption) | exact Be32.size64 (by assumption)) ?_)); intro _ _))
local macro_rules | `(tactic| walk_at "call type:bytes") => `(tactic| (k_here; (with_reducible show wpAny _ _ (call (Value.type _) [Value.bytes _ _]) _ _ _); (refine call_bytes_bytes ?_)))
local macro_rules | `(tactic| walk_at "call builtin:len") => `(tactic| (k_here; (with_reducible show wpAny _ _ (call (Value.builtin "len") [Value.bytes _ _]) _ _ _); first | (refine len4 (by assumption) ?_) | (refine Be32.len (by assumption) ?_)))
local macro_rules | `(tactic| walk_at "subscriptTail") => `(tactic| (k_here; (with_reducible show wpAny _ _ (subscriptTail _ _ (Value.bytes _ _) (Value.int _ _)) _ _ _); (first | refine item4_0 (by assumption) ?_ | refine item4_1 (by assumption) ?_); intro _ _))
local macro_rules | `(tactic| walk_at "subscriptTail") => `(tactic| (k_here; (with_reducible show wpAny _ _ (subscriptTail _ (Expr.Slice _ _ none _) (Value.bytes _ _) (Value.ref _)) _ _ _); (with_reducible rename Fr _ _ _ _ => F'); (with_reducible rename News _ _ _ _ => N'); (first | refine slice4_1 (s := ⟨_, _, _, _, _⟩) F' N' (by assumption) ?_ | refine slice4_2 (s := ⟨_, _, _, _, _⟩) F' N' (by assumption) ?_); intro _ _ _ _ _ _ kbcK))
local macro_rules | `(tactic| walk_at "binaryOp BitAnd int int") => `(tactic| (k_here; (first | (with_reducible refine mask_int ?_) | (with_reducible refine sign_int ?_))))
local macro_rules | `(tactic| walk_at "binaryOp LShift int int") => `(tactic| (k_here; (with_reducible refine shl_mask ?kb1 ?kb2 ?_); (case kb1 => omega); (case kb2 => omega)))
local macro_rules | `(tactic| k_mem) => `(tactic| assumption)
local macro_rules | `(tactic| k_all) => `(tactic| assumption)
local macro_rules | `(tactic| walk_at "call type:bytes") => `(tactic| (k_here; (with_reducible show wpAny _ _ (call (Value.type _) [Value.ref _]) _ _ _); k_dflt (refine' call_b1 ?bH ?bF ?bN ?bm ?b0 ?b1 ?_; (case bF => k_asm); (case bN => k_asm); (case bm => k_mem); (case bH => first | exact HN.none | exact HN.more (by assumption) (by intro p hp; repeat' (first | exact hp | refine List.Mem.tail _ ?_ | refine List.mem_append.mpr (Or.inr ?_)))); (case b0 => omega); (case b1 => omega)); intro _ _ _ _ F' N' hb1'))
local macro_rules | `(tactic| walk_at "binaryOp Add bytes bytes") => `(tactic| (k_here; (refine cat13 (by assumption) (by first | assumption | exact Eq.trans (by assumption) (little3 _)) ?_); intro _ _ _ hcat'))
local macro_rules | `(tactic| walk_at "getMethod bytes") => `(tactic| (k_here; (refine hex_method ?_)))
local macro_rules | `(tactic| walk_at "pyIter ref") => `(tactic| (k_here; (with_reducible show wpAny _ _ (pyIter (Value.ref _)) (fun it s₂ => LoopAtV _ _ _ _ _ _ _ _ _ it s₂) _ _); (with_unfolding_all refine' iter_tup1 ?tH ?tF ?tN ?tm ?tc ?td (fun own' h' tk' F' N' => ?_) (fun h' tk' F' N' => ?_); (case tF => k_asm); (case tN => k_asm); (case tm => k_mem); (case tc => exact rfl); (case td => exact rfl); (case tH => first | exact HN.none | exact HN.more (by assumption) (by intro p hp; repeat' (first | exact hp | refine List.Mem.tail _ ?_ | refine List.mem_append.mpr (Or.inr ?_))))); (all_goals (try k_fold))))
local macro_rules | `(tactic| walk_at "exec For Name Name cons nil") => `(tactic| (k_here; (rename Fr _ _ _ _ => lF'); (with_unfolding_all refine' For_invVF lF' ?k1 ?k2 ?_; (case k1 => exact rfl); (case k2 => exact rfl); k_whole)))
local macro_rules | `(tactic| walk_at "call builtin:len") => `(tactic| (k_here; (with_reducible show wpAny _ _ (call (Value.builtin "len") [Value.ref _]) _ _ _); k_dflt (refine' len_st ?lN ?lm ?lw ?_; (case lN => k_asm); (case lm => k_mem); (case lw => assumption)); intro _ _))
local macro_rules | `(tactic| walk_at "subscriptTail") => `(tactic| (k_here; (with_reducible show wpAny _ _ (subscriptTail _ _ (Value.ref _) (Value.int _ _)) _ _ _); k_dflt (refine' item_st ?iN ?im ?ii ?iw ?i0 ?i1 ?_; (case ii => assumption); (case iN => k_asm); (case im => k_mem); (case iw => assumption); (case i0 => omega); (case i1 => omega)); intro _ _))
local macro_rules | `(tactic| walk_at "binaryOp Pow int int") => `(tactic| (k_here; first | (with_reducible refine pow_256_32 ?_) | (with_reducible refine pow_2_256 ?_) | (with_reducible refine pow_2_23 ?_) | (with_reducible refine pow_2_24 ?_) | (with_reducible refine pow_2_14 ?_) | ((with_reducible refine pow_h ?p0 ?p1 ?_); (case p0 => omega); (case p1 => omega); intro _ _ _ hP' hSm' hP1' hP2')))
local macro_rules | `(tactic| walk_at "binaryOp Mult int int") => `(tactic| (k_here; (with_reducible refine mul_h ?m0 ?m1 ?_); (case m0 => first | assumption | exact Sm.of (by omega) (by omega)); (case m1 => first | assumption | exact Sm.of (by omega) (by omega)); intro _ _ _ hM' hM0'))
local macro_rules | `(tactic| walk_at "binaryOp FloorDiv int int") => `(tactic| (k_here; (with_reducible refine div_h ?d0 ?d1 ?d2 ?_); (case d0 => omega); (case d1 => first | assumption | exact Sm.of (by omega) (by omega)); (case d2 => omega); intro _ _ _ hD' hD0' hD1'))
local macro_rules | `(tactic| walk_at "execs cons") => `(tactic| (k_here; dsimp only))
local macro_rules | `(tactic| walk_at "execs nil") => `(tactic| (k_here; dsimp only))
local macro_rules | `(tactic| walk_at "call ref") => `(tactic| (k_here; (with_reducible show wpAny _ _ (call (Value.ref 115) [Value.ref _, Value.int _ _]) _ _ _); k_dflt (refine' tellS_use (next_tell _ _ _ _ _ _ _ _ _ _ ?hS _ _ ?hl ?h0 ?h1) ?k1 ?k2 ?k3 ?k4 ?k5 ?kK ?kd ?ku ?_; (case hS => assumption); (case k1 => k_asm); (case k2 => k_asm); (case k3 => k_asm); (case k4 => first | k_asm | exact cb_drop (by assumption) (by kcj_all)); (case k5 => k_asm); (case kK => first | exact rfl | assumption); (case kd => ktr_room); (case ku => ktr_units); (case hl => first | decide | omega); (case h0 => omega); (case h1 => omega)); intro _ i' _ h' tk' hi1' hi2' F' N' hr'; obtain ⟨_, _, hr', hv0', hv1'⟩ := hr'; subst hr'))
theorem target_tellS (w mean mg mb) (st sl : Addr) (ws : List Value) (i : Int) (tk : Tok) (rest : List (Addr × Obj)) (hS : StOk st sl ws rest) (hi0 : 0 ≤ i) (hi1 : i ≤ 100000) :
  TellS w mean mg mb 2 16 4 none 122 [.ref st] st sl ws i tk rest (fun r => ∃ v t, r = .int v t ∧ 0 ≤ v ∧ v < 2 ^ 256) := by
  intro dp un gd cn cs a ccd cl outer A₀ base h₀ L m s Q E B F X N T hk hd hu hret
  refine wpAny_call ?_
  k_dflt cell_enter
  k_steps
  · refine hret _ _ _ _ _ ?_ ?_ (by assumption) (by assumption) ⟨0, _, rfl, by decide, by decide⟩ <;> omega
  · refine hret _ _ _ _ _ ?_ ?_ (by assumption) (by assumption) ⟨_, _, rfl, built2' (by assumption) (by assumption) (by assumption) (by assumption) (by assumption) (by assumption) (by assumption) (by omega) (by omega) (by assumption) (by assumption) (by assumption) (by assumption) (by omega)⟩ <;> omega
  · refine hret _ _ _ _ _ ?_ ?_ (by assumption) (by assumption) ⟨_, _, rfl, built1' (by assumption) (by assumption) (by omega) (by omega) (by assumption) (by assumption)⟩ <;> omega
  · refine hret _ _ _ _ _ ?_ ?_ (by assumption) (by assumption) ⟨_, _, rfl, built1' (by assumption) (by assumption) (by omega) (by omega) (by assumption) (by assumption)⟩ <;> omega
end Mine
end
section
open PySem PySem.W PyProof.Rows PySem.Calls
set_option maxRecDepth 100000
set_option maxHeartbeats 3000000
namespace Mine
local macro_rules | `(tactic| cell_enter) => `(tactic| (refine' code_def ?k1 ?k2 ?k3 ?k4 ?k5 ?kA ?kF ?kK ?k6 ?k7 ?k8 ?k9 ?kB ?_ ?c2 ?c3 ?c4 ?c5; (case kA => exact rfl); (case kF => exact rfl); (case kK => first | exact rfl | assumption); (case k1 => k_asm); (case k2 => k_asm); (case k3 => k_asm); (case k4 => k_asm); (case k5 => k_asm); (case k6 => k_is); (case k7 => k_is); (case k8 => ktr_room); (case k9 => first | exact BindsTo.of_eq rfl | exact binds_K (by k_in) rfl (by k_is) rfl rfl rfl); (case c5 => decide); (case kB => exact locs rfl); (case c2 => exact rfl); (case c3 => exact rfl); (case c4 => exact rfl); k_whole; intro g' L' h' FG' F' N' B' X' T'; (try dsimp only); (try k_lift B'); (try k_fold)))
local macro_rules | `(tactic| walk_at "call ref") => `(tactic| (k_here; (refine wpAny_call ?_); k_dflt cell_enter))
local macro_rules | `(tactic| walk_at "callWith ref") => `(tactic| (k_here; (with_reducible show wpAny _ _ (callWith _ (Value.ref _) _ (backTo _ (starEach (_ :: _) _)) (backToKw _ (keywordEach (_ :: _) _))) _ _ _); kfb_any; k_dflt (refine' callWith_bound_kw ?kfbN ?kfbM ?_; (case kfbN => k_asm); (case kfbM => k_mem); k_whole)))
local macro_rules | `(tactic| walk_at "callWith") => `(tactic| (k_here; (with_reducible show wpAny _ _ (callWith _ (Value.builtin _) (_ :: _) (backTo _ (starEach (_ :: _) _)) (backToKw _ (keywordEach (_ :: _) _))) _ _ _); k_dflt (refine callWith_method_kw ?_)))
local macro_rules | `(tactic| walk_at "call ref") => `(tactic| (k_here; (with_reducible show wpAny _ _ (call (Value.ref _) (Value.bytes _ _ :: _) _) _ _ _); kfb_any; k_dflt (first
  | (refine fb_call2 (by k_asm) (by k_mem) (by first | exact fb3 (by assumption) | exact Be32.val (by assumption)) (by first | exact fb3s (by assumption) | exact Be32.size64 (by assumption)) ?_)
  | (refine fb_call3 (by k_asm) (by k_mem) (by first | exact fb3 (by assumption) | exact Be32.val (by assumption)) (by first | exact fb3s (by assumption) | exact Be32.size64 (by assumption)) ?_)
  | (refine fb_call1 (by k_asm) (by k_mem) (by first | exact fb3 (by assumption) | exact Be32.val (by assumption)) (by first | exact fb3s (by assumption) | exact Be32.size64 (by assumption)) ?_)); intro _ _))
local macro_rules | `(tactic| walk_at "call type:bytes") => `(tactic| (k_here; (with_reducible show wpAny _ _ (call (Value.type _) [Value.bytes _ _]) _ _ _); (refine call_bytes_bytes ?_)))
local macro_rules | `(tactic| walk_at "call builtin:len") => `(tactic| (k_here; (with_reducible show wpAny _ _ (call (Value.builtin "len") [Value.bytes _ _]) _ _ _); first | (refine len4 (by assumption) ?_) | (refine Be32.len (by assumption) ?_)))
local macro_rules | `(tactic| walk_at "subscriptTail") => `(tactic| (k_here; (with_reducible show wpAny _ _ (subscriptTail _ _ (Value.bytes _ _) (Value.int _ _)) _ _ _); (first | refine item4_0 (by assumption) ?_ | refine item4_1 (by assumption) ?_); intro _ _))
local macro_rules | `(tactic| walk_at "subscriptTail") => `(tactic| (k_here; (with_reducible show wpAny _ _ (subscriptTail _ (Expr.Slice _ _ none _) (Value.bytes _ _) (Value.ref _)) _ _ _); (with_reducible rename Fr _ _ _ _ => F'); (with_reducible rename News _ _ _ _ => N'); (first | refine slice4_1 (s := ⟨_, _, _, _, _⟩) F' N' (by assumption) ?_ | refine slice4_2 (s := ⟨_, _, _, _, _⟩) F' N' (by assumption) ?_); intro _ _ _ _ _ _ kbcK))
local macro_rules | `(tactic| walk_at "binaryOp BitAnd int int") => `(tactic| (k_here; (first | (with_reducible refine mask_int ?_) | (with_reducible refine sign_int ?_))))
local macro_rules | `(tactic| walk_at "binaryOp LShift int int") => `(tactic| (k_here; (with_reducible refine shl_mask ?kb1 ?kb2 ?_); (case kb1 => omega); (case kb2 => omega)))
local macro_rules | `(tactic| k_mem) => `(tactic| assumption)
local macro_rules | `(tactic| k_all) => `(tactic| assumption)
local macro_rules | `(tactic| walk_at "call type:bytes") => `(tactic| (k_here; (with_reducible show wpAny _ _ (call (Value.type _) [Value.ref _]) _ _ _); k_dflt (refine' call_b1 ?bH ?bF ?bN ?bm ?b0 ?b1 ?_; (case bF => k_asm); (case bN => k_asm); (case bm => k_mem); (case bH => first | exact HN.none | exact HN.more (by assumption) (by intro p hp; repeat' (first | exact hp | refine List.Mem.tail _ ?_ | refine List.mem_append.mpr (Or.inr ?_)))); (case b0 => omega); (case b1 => omega)); intro _ _ _ _ F' N' hb1'))
local macro_rules | `(tactic| walk_at "binaryOp Add bytes bytes") => `(tactic| (k_here; (refine cat13 (by assumption) (by first | assumption | exact Eq.trans (by assumption) (little3 _)) ?_); intro _ _ _ hcat'))
local macro_rules | `(tactic| walk_at "getMethod bytes") => `(tactic| (k_here; (refine hex_method ?_)))
local macro_rules | `(tactic| walk_at "pyIter ref") => `(tactic| (k_here; (with_reducible show wpAny _ _ (pyIter (Value.ref _)) (fun it s₂ => LoopAtV _ _ _ _ _ _ _ _ _ it s₂) _ _); (with_unfolding_all refine' iter_tup1 ?tH ?tF ?tN ?tm ?tc ?td (fun own' h' tk' F' N' => ?_) (fun h' tk' F' N' => ?_); (case tF => k_asm); (case tN => k_asm); (case tm => k_mem); (case tc => exact rfl); (case td => exact rfl); (case tH => first | exact HN.none | exact HN.more (by assumption) (by intro p hp; repeat' (first | exact hp | refine List.Mem.tail _ ?_ | refine List.mem_append.mpr (Or.inr ?_))))); (all_goals (try k_fold))))
local macro_rules | `(tactic| walk_at "exec For Name Name cons nil") => `(tactic| (k_here; (rename Fr _ _ _ _ => lF'); (with_unfolding_all refine' For_invVF lF' ?k1 ?k2 ?_; (case k1 => exact rfl); (case k2 => exact rfl); k_whole)))
local macro_rules | `(tactic| walk_at "binaryOp Pow int int") => `(tactic| (k_here; first | (with_reducible refine pow_256_32 ?_) | (with_reducible refine pow_2_256 ?_) | (with_reducible refine pow_2_23 ?_) | (with_reducible refine pow_2_24 ?_) | (with_reducible refine pow_2_14 ?_) | ((with_reducible refine pow_h ?p0 ?p1 ?_); (case p0 => omega); (case p1 => omega); intro _ _ _ hP' hSm' hP1' hP2')))
local macro_rules | `(tactic| walk_at "binaryOp Mult int int") => `(tactic| (k_here; (with_reducible refine mul_h ?m0 ?m1 ?_); (case m0 => first | assumption | exact Sm.of (by omega) (by omega)); (case m1 => first | assumption | exact Sm.of (by omega) (by omega)); intro _ _ _ hM' hM0'))
local macro_rules | `(tactic| walk_at "binaryOp FloorDiv int int") => `(tactic| (k_here; (with_reducible refine div_h ?d0 ?d1 ?d2 ?_); (case d0 => omega); (case d1 => first | assumption | exact Sm.of (by omega) (by omega)); (case d2 => omega); intro _ _ _ hD' hD0' hD1'))
local macro_rules | `(tactic| walk_at "call ref") => `(tactic| (k_here; (with_reducible show wpAny _ _ (call (Value.ref 115) [Value.ref _, Value.int _ _]) _ _ _); k_dflt (refine' tellS_use (next_tell _ _ _ _ _ _ _ _ _ _ ?hS _ _ ?hl ?h0 ?h1) ?k1 ?k2 ?k3 ?k4 ?k5 ?kK ?kd ?ku ?_; (case hS => assumption); (case k1 => k_asm); (case k2 => k_asm); (case k3 => k_asm); (case k4 => first | k_asm | exact cb_drop (by assumption) (by kcj_all)); (case k5 => k_asm); (case kK => first | exact rfl | assumption); (case kd => ktr_room); (case ku => ktr_units); (case hl => first | decide | omega); (case h0 => omega); (case h1 => omega)); intro _ i' _ h' tk' hi1' hi2' F' N' hr'; obtain ⟨_, _, hr', hv0', hv1'⟩ := hr'; subst hr'))
local macro_rules | `(tactic| walk_at "execs cons") => `(tactic| (k_here; dsimp only))
local macro_rules | `(tactic| walk_at "execs nil") => `(tactic| (k_here; dsimp only))
local macro_rules | `(tactic| walk_at "call builtin:int.to_bytes") => `(tactic| (k_here; (with_unfolding_all refine tb3 ?tb0 ?tb1 ?_); (case tb0 => first | assumption | omega); (case tb1 => first | assumption | omega); intro _ _ _ htb'))
local macro_rules | `(tactic| walk_at "binaryOp Mod int int") => `(tactic| (k_here; (with_reducible refine mod_23 ?_)))
theorem form_tellS (w mean mg mb) (st sl : Addr) (ws : List Value) (i : Int) (tk : Tok) (rest : List (Addr × Obj)) (hS : StOk st sl ws rest) (hi0 : 0 ≤ i) (hi1 : i ≤ 100000) (b : Array UInt8) (t : Tok) (e x y z : Int) (hb : KBw.bInts b = [e, x, y, z]) (he : e ≤ 33) :
  TellS w mean mg mb 2 16 3 none 143 [.ref st, .bytes b t] st sl ws i tk rest (fun r => ∃ b' t' e' x' y' z', r = .bytes b' t' ∧ KBw.bInts b' = [e', x', y', z'] ∧ e' ≤ 35 ∧ x' < 128) := by
  intro dp un gd cn cs a ccd cl outer A₀ base h₀ L m s Q E B F X N T hk hd hu hret
  have hin := in4 hb
  refine wpAny_call ?_
  k_dflt cell_enter
  k_steps
  · refine hret _ _ _ _ _ ?_ ?_ (by assumption) (cb_drop (by assumption) (by kcj_all)) ⟨_, _, _, _, _, _, rfl, by assumption, by omega, by omega⟩ <;> omega
  · refine hret _ _ _ _ _ ?_ ?_ (by assumption) (cb_drop (by assumption) (by kcj_all)) ⟨_, _, _, _, _, _, rfl, by assumption, by omega, by omega⟩ <;> omega
end Mine
end
section
open PySem PySem.W PyProof.Rows PySem.Calls
set_option maxRecDepth 100000
set_option maxHeartbeats 1000000
namespace Mine
/-- an exception object on its way: its first argument tuple, its traceback, and that it has no context -/
def Ex2 (base h : Heap) (e : Addr) (cls a0 fl : Value) : Prop :=
  ∃ oe vs T oT ts, (h.get? e = some oe ∧ oe.cls = cls ∧ oe.data = .fields vs) ∧ (vs[0]? = some a0 ∧ vs[1]? = some (.ref T) ∧ vs[2]? = some .none) ∧ (base.get? T = none ∧ T ≠ e) ∧ h.get? T = some oT ∧ oT.data = .fields ts ∧ ts[3]? = some fl
def Fl2 (base : Heap) (l : List Env) (e : Addr) (cls a0 fl : Value) (h : Heap) : Prop :=
  (base.StaysIn h ∧ base.get? e = none ∧ h.FunFrames base l) ∧ Ex2 base h e cls a0 fl
theorem Fl2.traced {base h : Heap} {l : List Env} {e : Addr} {cls a0 fl : Value} (x : Fl2 base l e cls a0 fl h) : h.TracedAtW base e cls a0 fl := by
  obtain ⟨_, oe, vs, T, oT, ts, ⟨a1, a2, a3⟩, ⟨b1, b2, _⟩, ⟨c1, c2⟩, d1, d2, d3⟩ := x
  exact ⟨oe, vs, T, oT, ts, a1, ⟨a2, b1⟩, a3, b2, c1, c2, d1, d2, d3⟩
theorem Fl2.flying {base h : Heap} {l : List Env} {e : Addr} {cls a0 : Value} (x : Fl2 base l e cls a0 .none h) : Heap.FlyingW base l e cls a0 h :=
  ⟨x.1.1, x.1.2.1, x.1.2.2, x.traced⟩
theorem Fl2.base {base B h : Heap} {l : List Env} {e : Addr} {cls a0 fl : Value} (k : base.StaysIn B) (x : Fl2 B l e cls a0 fl h) : Fl2 base l e cls a0 fl h := by
  obtain ⟨⟨f1, f2, f3⟩, oe, vs, T, oT, ts, a, b, ⟨c1, c2⟩, d⟩ := x
  exact ⟨⟨fun b o q => f1 b o (k b o q), fresh_of_stays k f2, funFrames_base k f3⟩, oe, vs, T, oT, ts, a, b, ⟨fresh_of_stays k c1, c2⟩, d⟩
section
variable {M : Model} {A : Around} {E : Value → Shared → Prop} {s : Shared}

/-- the new traceback entry of a frame -/
theorem entry2 {base : Heap} {env : Env} {outer : List Env} {L e : Addr} {oe : Obj} {vs : Array Value} {head a0 : Value} {hadNext : Bool} {Q : Unit → Shared → Prop}
    (hfr : A.frames = some (env :: outer)) (hl : s.heap.FunFrames base (env :: outer)) (hf : env.frame = some L)
    (he : s.heap.get? e = some oe) (hkb : base.StaysIn s.heap) (hen : base.get? e = none) (hd : oe.data = .fields vs) (hsz : 1 < vs.size) (h0 : vs[0]? = some a0) (h2 : vs[2]? = some .none)
    (h : ∀ h', Fl2 base (env :: outer) e oe.cls a0 (rawInt L) h' → s.heap.UpToSlots h' → Q () { s with heap := h' }) :
    wpAny M A (do let a ← frameOf env; let pl ← entryPlaceOf L hadNext; let b ← EntryCells.newEntry head a .none (rawInt L) .none pl; setField (.ref e) 1 b) Q E s := by
  have hene : e ∉ (env :: outer).filterMap (·.frame) := fun hm => by
    obtain ⟨_, o, ho, hnf⟩ := hl.mem hm
    rw [he] at ho
    cases ho
    exact hnf vs hd
  refine wpAny_bind (wpAny_frameOf_fun hfr hl hf fun h₁ hs₁ => ?_)
  refine wpAny_bind (wpAny_entryPlaceOf fun pl hpl => ?_)
  unfold EntryCells.newEntry newFields
  refine wpAny_bind (wpAny_newObj_type ?_ (hpl.sizeOk5 _ _ _ _ _))
  generalize hob : ({ cls := .type "traceback", dict := none, data := .fields ([head, .ref L, .none, rawInt L, .none] ++ (if pl.isEmpty then List.replicate 6 Value.none else pl)).toArray } : Obj) = ob
  have hobd : ob.data = .fields ([head, .ref L, .none, rawInt L, .none] ++ (if pl.isEmpty then List.replicate 6 Value.none else pl)).toArray := by rw [← hob]
  have hobf : ob.isFreed = false := Obj.isFreed_of_fields hobd
  have old : ∀ b o, b ∉ (env :: outer).filterMap (·.frame) → s.heap.get? b = some o → (h₁.push ob).get? b = some o := fun b o hb e => Heap.get?_push_of_some _ ((hs₁.2.1 b hb).trans e)
  have hst : ∀ b o, base.get? b = some o → (h₁.push ob).get? b = some o := fun b o hbo => old b o (fun hm => by rw [(hl.mem hm).1] at hbo; cases hbo) (hkb b o hbo)
  have hnew : h₁.get? h₁.objs.size = none := by
    cases q : h₁.get? h₁.objs.size with
    | none => rfl
    | some o => exact absurd (Heap.lt_size q) (Nat.lt_irrefl _)
  have hbn : base.get? h₁.objs.size = none := by
    cases q : base.get? h₁.objs.size with
    | none => rfl
    | some o =>
      have hne : h₁.objs.size ∉ (env :: outer).filterMap (·.frame) := fun hm => by rw [(hl.mem hm).1] at q; cases q
      have := (hs₁.2.1 _ hne).trans (hkb _ o q)
      rw [hnew] at this
      cases this
  have hTe : h₁.objs.size ≠ e := fun q => by
    have := (hs₁.2.1 e hene).trans he
    rw [← q, hnew] at this
    cases this
  refine wpAny_setField (old e oe hene he) hd hsz (h _ ⟨⟨fun b o hbo => ?_, hen, ?_⟩, ?_⟩ ?_)
  · exact (Heap.get?_update_other _ _ (fun q => by rw [q] at hen; rw [hen] at hbo; cases hbo)).trans (hst b o hbo)
  · refine hl.of_keeps fun b o hb hnf => ?_
    obtain ⟨sl, hs⟩ := hs₁.2.2 b o hb
    refine ⟨_, (Heap.get?_update_other _ _ fun q => ?_).trans (Heap.get?_push_of_some _ hs), rfl⟩
    rw [← q, he] at hb
    cases hb
    exact hnf vs hd
  · refine ⟨_, _, h₁.objs.size, ob, _, ⟨Heap.get?_update_self _ (old e oe hene he) (Obj.isFreed_of_fields (Obj.data_mapFields hd _)), Obj.cls_mapFields _ _, Obj.data_mapFields hd _⟩, ⟨?_, ?_, ?_⟩, ⟨hbn, hTe⟩, ?_, hobd, ?_⟩
    · rw [Array.getElem?_setIfInBounds_ne (by decide)]
      exact h0
    · simp [hsz]
    · rw [Array.getElem?_setIfInBounds_ne (by decide)]
      exact h2
    · exact (Heap.get?_update_other _ _ (Ne.symm hTe)).trans (Heap.get?_push_size _ hobf)
    · simp
  · intro b o hb hnf
    obtain ⟨sl, hs⟩ := hs₁.2.2 b o hb
    refine ⟨sl, (Heap.get?_update_other _ _ fun q => ?_).trans (Heap.get?_push_of_some _ hs)⟩
    rw [← q, he] at hb
    cases hb
    exact hnf vs hd

theorem land2 {base : Heap} {l : List Env} {e : Addr} {cls a0 fl : Value} {Q : Unit → Shared → Prop} (x : Fl2 base l e cls a0 fl s.heap)
    (h : ∀ h', Fl2 base l e cls a0 .none h' → s.heap.UpToSlots h' → Q () { s with heap := h' }) : wpAny M A (setFlight (.ref e) none) Q E s := by
  obtain ⟨⟨f1, f2, f3⟩, oe, vs, T, oT, ts, ⟨a1, a2, a3⟩, ⟨b1, b2, b3⟩, ⟨c1, c2⟩, d1, d2, d3⟩ := x
  have other : ∀ (g : Obj → Obj) b, b ≠ T → (s.heap.update T g).get? b = s.heap.get? b := fun g b hb => Heap.get?_update_other _ _ (Ne.symm hb)
  have nr : ∀ b o, s.heap.get? b = some o → (∀ vs, o.data ≠ .fields vs) → b ≠ T := fun b o hb hnf q => by
    rw [q, d1] at hb
    cases hb
    exact hnf ts d2
  unfold setFlight
  refine wpAny_bind (wpAny_field a1 a3 b2 ?_)
  rw [if_pos (show (Value.ref T != Value.none) = true from by simp)]
  refine wpAny_setField d1 d2 (Array.getElem?_eq_some_iff.mp d3).1 (h _ ⟨⟨fun b o hbo => ?_, f2, ?_⟩, oe, vs, T, _, _, ⟨(other _ e (Ne.symm c2)).trans a1, a2, a3⟩, ⟨b1, b2, b3⟩, ⟨c1, c2⟩, Heap.get?_update_self _ d1 (Obj.isFreed_of_fields (Obj.data_mapFields d2 _)), Obj.data_mapFields d2 _, ?_⟩ ?_)
  · exact (other _ b fun q => by rw [q, c1] at hbo; cases hbo).trans (f1 b o hbo)
  · exact f3.of_keeps fun b o hb hnf => ⟨o, (other _ b (nr b o hb hnf)).trans hb, rfl⟩
  · have : 3 < ts.size := (Array.getElem?_eq_some_iff.mp d3).1
    simp [this]
  · exact fun b o hb hnf => ⟨o.slots, (other _ b (nr b o hb hnf)).trans hb⟩

/-- the frame in which it is first raised is left -/
theorem first2 {base : Heap} {env : Env} {outer : List Env} {L e : Addr} {oe : Obj} {vs : Array Value} {a0 : Value} {Q : Unit → Shared → Prop}
    (hfr : A.frames = some (env :: outer)) (hl : s.heap.FunFrames base (env :: outer)) (hf : env.frame = some L)
    (he : s.heap.get? e = some oe) (hkb : base.StaysIn s.heap) (hen : base.get? e = none) (hd : oe.data = .fields vs) (h0 : vs[0]? = some a0) (h1 : vs[1]? = some .none) (h2 : vs[2]? = some .none)
    (h : ∀ h', Fl2 base outer e oe.cls a0 .none h' → s.heap.UpToSlots h' → Q () { s with heap := h' }) : wpAny M A (leaving env (.ref e)) Q E s := by
  unfold leaving noteFrame
  simp only [hf]
  refine wpAny_bind (wpAny_bind (wpAny_field he hd h1 ?_))
  rw [if_neg (by decide)]
  refine entry2 hfr hl hf he hkb hen hd (Array.getElem?_eq_some_iff.mp h1).1 h0 h2 fun h₁ x u₁ => land2 x fun h₂ y u₂ => h h₂ ?_ (u₁.trans u₂)
  obtain ⟨⟨y1, y2, ⟨_, _, y3⟩⟩, y4⟩ := y
  exact ⟨⟨y1, y2, y3⟩, y4⟩

/-- the frame that looks at it -/
theorem note2 {base : Heap} {env : Env} {outer : List Env} {L e : Addr} {cls a0 : Value} {Q : Unit → Shared → Prop}
    (hfr : A.frames = some (env :: outer)) (hf : env.frame = some L) (x : Fl2 base (env :: outer) e cls a0 .none s.heap)
    (h : ∀ h', Fl2 base (env :: outer) e cls a0 (rawInt L) h' → s.heap.UpToSlots h' → Q () { s with heap := h' }) : wpAny M A (noteFrame (.ref e) env) Q E s := by
  obtain ⟨⟨f1, f2, f3⟩, oe, vs, T, oT, ts, ⟨a1, a2, a3⟩, ⟨b1, b2, b3⟩, ⟨c1, c2⟩, d1, d2, d3⟩ := x
  have other : ∀ (g : Obj → Obj) b, b ≠ T → (s.heap.update T g).get? b = s.heap.get? b := fun g b hb => Heap.get?_update_other _ _ (Ne.symm hb)
  have nr : ∀ b o, s.heap.get? b = some o → (∀ vs, o.data ≠ .fields vs) → b ≠ T := fun b o hb hnf q => by
    rw [q, d1] at hb
    cases hb
    exact hnf ts d2
  subst a2
  unfold noteFrame
  simp only [hf]
  refine wpAny_bind (wpAny_field a1 a3 b2 ?_)
  rw [if_pos (show (Value.ref T != Value.none) = true from by simp)]
  refine wpAny_bind (wpAny_field d1 d2 d3 ?_)
  rw [if_neg (show ¬ ((Value.none == rawInt L) = true) from by simp [rawInt])]
  refine wpAny_bind (wpAny_setField d1 d2 (Array.getElem?_eq_some_iff.mp d3).1 ?_)
  refine entry2 hfr (f3.of_keeps fun b o hb hnf => ⟨o, (other _ b (nr b o hb hnf)).trans hb, rfl⟩) hf ((other _ e (Ne.symm c2)).trans a1)
    (fun b o hbo => (other _ b fun q => by rw [q, c1] at hbo; cases hbo).trans (f1 b o hbo)) f2 a3 (Array.getElem?_eq_some_iff.mp b2).1 b1 b3
    fun h₁ y u => h h₁ y (Heap.UpToSlots.trans (fun b o hb hnf => ⟨o.slots, (other _ b (nr b o hb hnf)).trans hb⟩) u)
end
end Mine
namespace Mine
/-- raised, and on its way out of the frames l; made with no context -/
def Raised2 (base : Heap) (l : List Env) (e : Addr) (cls : Value) (t : Addr) (vs : List Value) (news : List (Addr × Obj)) (h : Heap) : Prop :=
  (∃ B, base.StaysIn B ∧ (∀ q ∈ news, B.get? q.1 = some q.2 ∧ base.get? q.1 = none) ∧ Fl2 B l e cls (.ref t) .none h ∧ B.get? t = none) ∧ h.TupAt t vs
/-- caught: it stands in the ledger, with no context -/
def Got2 (news : List (Addr × Obj)) (e : Addr) : Prop := ∃ oe fs, (e, oe) ∈ news ∧ oe.data = .fields fs ∧ fs[2]? = some .none
theorem Got2.hn {news news' : List (Addr × Obj)} {e : Addr} (G : Got2 news e) (k : ∀ p ∈ news, p ∈ news') : HN (some (.ref e)) news' := by
  obtain ⟨oe, fs, a, b, c⟩ := G
  exact .inr ⟨e, oe, fs, rfl, k _ a, b, c⟩
section
variable {M : Model} {A : Around} {E : Value → Shared → Prop} {s' : Shared} {base g h : Heap} {outer : List Env} {L a e t : Addr} {m : PySem.Str → Option Value} {name : PySem.Str} {scope : Scope} {cd : Value} {Q : Unit → Shared → Prop} {news : List (Addr × Obj)}
theorem leave2 {cls : Value} {vs : List Value} (K : Below A base outer g) (hx : Heap.MadeExcOf h s'.heap e cls vs) (F : Fr g L h m) (N : News g L h news)
    (hQ : ∀ h' t, Raised2 base outer e cls t vs news h' → g.UpToSlots h' → Q () { s' with heap := h' }) (hk : scope.kind = .function := by rfl) :
    wpAny M (A.deeper (envOf name scope L a cd)) (leaving (envOf name scope L a cd) (.ref e)) Q E s' := by
  have K' := K.push (name := name) (a := a) (cd := cd) F hk
  generalize hB : hideAll h ((envOf name scope L a cd :: outer).filterMap (·.frame)) = B
  have up : ∀ b o, B.get? b = some o → h.get? b = some o := fun b o q => of_hideAll _ (hB ▸ q)
  have st : base.StaysIn B := fun b o q => hB ▸ hideAll_get _ (K'.stays b o q) fun hm => by
    rw [(K'.frames.mem hm).1] at q
    cases q
  have fresh : ∀ b, h.get? b = none → B.get? b = none := fun b hb => by
    cases hq : B.get? b with
    | none => rfl
    | some o' =>
      have := up b o' hq
      rw [hb] at this
      cases this
  have hl : ∀ q ∈ news, B.get? q.1 = some q.2 ∧ base.get? q.1 = none := fun q hq => by
    refine ⟨hB ▸ hideAll_get _ (N q hq).1 fun hm => ?_, fresh_of_stays K.stays (N q hq).2.2⟩
    obtain ⟨env, he, hf⟩ := List.mem_filterMap.mp hm
    rcases List.mem_cons.mp he with rfl | he
    · exact (N q hq).2.1 (Option.some.inj hf).symm
    · obtain ⟨o, ho, _⟩ := (K.frames.mem (List.mem_filterMap.mpr ⟨env, he, hf⟩)).2
      rw [(N q hq).2.2] at ho
      cases ho
  have fr : h.FunFrames B (envOf name scope L a cd :: outer) := hB ▸ funFrames_hide K'.frames fun env he b hb => List.mem_filterMap.mpr ⟨env, he, hb⟩
  obtain ⟨t, he, htn, ht⟩ := hx.there
  refine first2 (a0 := .ref t) K'.stack (fr.of_keeps fun b o hb _ => ⟨o, hx.keeps b o hb, rfl⟩) rfl he (fun b o hb => hx.keeps b o (up b o hb)) (fresh e hx.new) rfl rfl rfl rfl fun h' x u => hQ h' t ⟨⟨B, st, hl, x, fresh t htn⟩, Heap.TupAt.of_slots ⟨_, _, ht, rfl, rfl⟩ u⟩ ?_
  exact ((Heap.UpToSlots.of_keeps F.keep).trans (Heap.UpToSlots.of_keeps hx.keeps)).trans u
end
section
variable {prog : Program} {w : World} {A₀ : Around} {E : Value → Shared → Prop} {s' : Shared} {h₀ h : Heap} {outer : List Env} {L a e t : Addr} {m : PySem.Str → Option Value} {name : PySem.Str} {scope : Scope} {cd : Value}
  {vs : List Value} {b₀ : Stmt} {suite : List Stmt} {pos np : Pos} {rest : List ExceptHandler} {Q : Flow → Shared → Prop} {news : List (Addr × Obj)} {KF : Frag} {C : Addr} {bmB : List Value} {newId : String}
  {p : Program} {loose : List PySem.Str} {mean : ExcName → Option Value} {mg mb : PySem.Str → Option Value} {x : PySem.Str}
theorem caught2 (K : Below A₀ h₀ outer h₀) (F : Fr h₀ L h m) (hsm : h.UpToSlots s'.heap) (R : Raised2 h₀ (envOf name scope L a cd :: outer) e (.ref C) t vs news s'.heap)
    (X : KF.In h₀) (T : TopRead p loose mg mb h₀) (ex : nsIn KF mainGlobals x = some (some (.ref C))) (q : excIn KF C bmB newId = true) (hbase : bmB.contains (.type "BaseException") = true)
    (k : ∀ h' news₂, Fr h₀ L h' m → News h₀ L h' (news₂ ++ news) → Got2 (news₂ ++ news) e →
      wpAny (model prog w) ((A₀.deeper (envOf name scope L a cd)).mark (some (.ref e))) (execs (b₀ :: suite) (envOf name scope L a cd)) Q E { s' with heap := h' })
    (hk : scope.kind = .function := by rfl) (hx : (envOf name scope L a cd).kindOf x = some .globalImplicit := by rfl) (hd : (x == ("__debug__" : PySem.Str)) = false := by decide)
    (hE : PassesOwnAt (model prog w) ((A₀.deeper (envOf name scope L a cd)).mark (some (.ref e))) (A₀.deeper (envOf name scope L a cd)) (envOf name scope L a cd) E := by passes_own) :
    wpAny (model prog w) (A₀.deeper (envOf name scope L a cd)) (noteFrame (.ref e) (envOf name scope L a cd))
      (fun _ s₂ => wpAny (model prog w) (A₀.deeper (envOf name scope L a cd)) (setFlight (.ref e) none) (fun _ s₃ =>
        wpAny (model prog w) (A₀.deeper (envOf name scope L a cd)) (handleBy (.ref e) (envOf name scope L a cd) (.ExceptHandler (some (.Name x np)) none (b₀ :: suite) pos :: rest)) Q E s₃) E s₂) E s' := by
  obtain ⟨⟨B, hB, hl, hfl, hnew⟩, htup⟩ := R
  have hL : B.get? L = none := by
    obtain ⟨_, ⟨L', _, hf, hn', _⟩, _⟩ := hfl.1.2.2
    cases hf
    exact hn'
  refine note2 (Around.frames_deeper K.stack) rfl hfl fun h₄ x₄ u₄ => land2 x₄ fun h₅ x₅ u₅ => ?_
  have F₅ := F.of_stays (x₅.base hB).1.1 (hsm.trans (u₄.trans u₅))
  obtain ⟨ob, hob, hobc⟩ := (x₅.base hB).flying.there
  refine wpAny_handleBy_cons (codeAny_handlers_test (name_K F₅ X T ex ?_ hk hx hd)) (by intro q; cases q)
  obtain ⟨bm, NN, nm, qn, bs, hdct, sn, sub, ab, col, dd, k0, k1, k2, k3, k5, mN, hC, hN, hni, TL⟩ := ((own_of_in X T ex q).keeps F₅.keep).obj
  refine wpAny_excMatches_sub_self hC hob hobc (TL.hasType hbase) (codeAny_handlers_suite ?_)
  refine land2 x₅ fun h₆ x₆ u₆ => ?_
  have st₆ := (x₆.base hB).1
  have F₆ := F.of_stays st₆.1 ((hsm.trans (u₄.trans u₅)).trans u₆)
  have Nl : News h₀ L h₆ news := fun q hq => ⟨x₆.1.1 _ _ (hl q hq).1, (fun z => by have := (hl q hq).1; rw [z, hL] at this; cases this), (hl q hq).2⟩
  obtain ⟨oe, ws, T', oT, ts, ⟨a1, a2, a3⟩, ⟨b1, b2, b3⟩, _⟩ := x₆.2
  have N₆ := News.more F₆ Nl a1 (fun es n q => by rw [a3] at q; cases q) st₆.2.1
  exact wpAny_passesOwnAt hE (k h₆ [(e, oe)] F₆ N₆ ⟨oe, ws, .head _, a3, b3⟩)
end
end Mine
end
section
open PySem PySem.W PyProof.Rows PySem.Calls
set_option maxRecDepth 100000
set_option maxHeartbeats 3000000
namespace Mine
local macro_rules | `(tactic| cell_enter) => `(tactic| (refine' code_def ?k1 ?k2 ?k3 ?k4 ?k5 ?kA ?kF ?kK ?k6 ?k7 ?k8 ?k9 ?kB ?_ ?c2 ?c3 ?c4 ?c5; (case kA => exact rfl); (case kF => exact rfl); (case kK => first | exact rfl | assumption); (case k1 => k_asm); (case k2 => k_asm); (case k3 => k_asm); (case k4 => k_asm); (case k5 => k_asm); (case k6 => k_is); (case k7 => k_is); (case k8 => ktr_room); (case k9 => first | exact BindsTo.of_eq rfl | exact binds_K (by k_in) rfl (by k_is) rfl rfl rfl); (case c5 => decide); (case kB => exact locs rfl); (case c2 => exact rfl); (case c3 => exact rfl); (case c4 => exact rfl); k_whole; intro g' L' h' FG' F' N' B' X' T'; (try dsimp only); (try k_lift B'); (try k_fold)))
local macro_rules | `(tactic| walk_at "call ref") => `(tactic| (k_here; (refine wpAny_call ?_); k_dflt cell_enter))
local macro_rules | `(tactic| walk_at "callWith ref") => `(tactic| (k_here; (with_reducible show wpAny _ _ (callWith _ (Value.ref _) _ (backTo _ (starEach (_ :: _) _)) (backToKw _ (keywordEach (_ :: _) _))) _ _ _); kfb_any; k_dflt (refine' callWith_bound_kw ?kfbN ?kfbM ?_; (case kfbN => k_asm); (case kfbM => k_mem); k_whole)))
local macro_rules | `(tactic| walk_at "callWith") => `(tactic| (k_here; (with_reducible show wpAny _ _ (callWith _ (Value.builtin _) (_ :: _) (backTo _ (starEach (_ :: _) _)) (backToKw _ (keywordEach (_ :: _) _))) _ _ _); k_dflt (refine callWith_method_kw ?_)))
local macro_rules | `(tactic| walk_at "call ref") => `(tactic| (k_here; (with_reducible show wpAny _ _ (call (Value.ref _) (Value.bytes _ _ :: _) _) _ _ _); kfb_any; k_dflt (first
  | (refine fb_call2 (by k_asm) (by k_mem) (by first | exact fb3 (by assumption) | exact Be32.val (by assumption)) (by first | exact fb3s (by assumption) | exact Be32.size64 (by assumption)) ?_)
  | (refine fb_call3 (by k_asm) (by k_mem) (by first | exact fb3 (by assumption) | exact Be32.val (by assumption)) (by first | exact fb3s (by assumption) | exact Be32.size64 (by assumption)) ?_)
  | (refine fb_call1 (by k_asm) (by k_mem) (by first | exact fb3 (by assumption) | exact Be32.val (by assumption)) (by first | exact fb3s (by assumption) | exact Be32.size64 (by assumption)) ?_)); intro _ _))
local macro_rules | `(tactic| walk_at "call type:bytes") => `(tactic| (k_here; (with_reducible show wpAny _ _ (call (Value.type _) [Value.bytes _ _]) _ _ _); (refine call_bytes_bytes ?_)))
local macro_rules | `(tactic| walk_at "call builtin:len") => `(tactic| (k_here; (with_reducible show wpAny _ _ (call (Value.builtin "len") [Value.bytes _ _]) _ _ _); first | (refine len4 (by assumption) ?_) | (refine Be32.len (by assumption) ?_)))
local macro_rules | `(tactic| walk_at "subscriptTail") => `(tactic| (k_here; (with_reducible show wpAny _ _ (subscriptTail _ _ (Value.bytes _ _) (Value.int _ _)) _ _ _); (first | refine item4_0 (by assumption) ?_ | refine item4_1 (by assumption) ?_); intro _ _))
local macro_rules | `(tactic| walk_at "subscriptTail") => `(tactic| (k_here; (with_reducible show wpAny _ _ (subscriptTail _ (Expr.Slice _ _ none _) (Value.bytes _ _) (Value.ref _)) _ _ _); (with_reducible rename Fr _ _ _ _ => F'); (with_reducible rename News _ _ _ _ => N'); (first | refine slice4_1 (s := ⟨_, _, _, _, _⟩) F' N' (by assumption) ?_ | refine slice4_2 (s := ⟨_, _, _, _, _⟩) F' N' (by assumption) ?_); intro _ _ _ _ _ _ kbcK))
local macro_rules | `(tactic| walk_at "binaryOp BitAnd int int") => `(tactic| (k_here; (first | (with_reducible refine mask_int ?_) | (with_reducible refine sign_int ?_))))
local macro_rules | `(tactic| walk_at "binaryOp LShift int int") => `(tactic| (k_here; (with_reducible refine shl_mask ?kb1 ?kb2 ?_); (case kb1 => omega); (case kb2 => omega)))
local macro_rules | `(tactic| k_mem) => `(tactic| assumption)
local macro_rules | `(tactic| k_all) => `(tactic| assumption)
local macro_rules | `(tactic| walk_at "call type:bytes") => `(tactic| (k_here; (with_reducible show wpAny _ _ (call (Value.type _) [Value.ref _]) _ _ _); k_dflt (refine' call_b1 ?bH ?bF ?bN ?bm ?b0 ?b1 ?_; (case bF => k_asm); (case bN => k_asm); (case bm => k_mem); (case bH => first | exact HN.none | exact HN.more (by assumption) (by intro p hp; repeat' (first | exact hp | refine List.Mem.tail _ ?_ | refine List.mem_append.mpr (Or.inr ?_)))); (case b0 => omega); (case b1 => omega)); intro _ _ _ _ F' N' hb1'))
local macro_rules | `(tactic| walk_at "binaryOp Add bytes bytes") => `(tactic| (k_here; (refine cat13 (by assumption) (by first | assumption | exact Eq.trans (by assumption) (little3 _)) ?_); intro _ _ _ hcat'))
local macro_rules | `(tactic| walk_at "getMethod bytes") => `(tactic| (k_here; (refine hex_method ?_)))
local macro_rules | `(tactic| walk_at "pyIter ref") => `(tactic| (k_here; (with_reducible show wpAny _ _ (pyIter (Value.ref _)) (fun it s₂ => LoopAtV _ _ _ _ _ _ _ _ _ it s₂) _ _); (with_unfolding_all refine' iter_tup1 ?tH ?tF ?tN ?tm ?tc ?td (fun own' h' tk' F' N' => ?_) (fun h' tk' F' N' => ?_); (case tF => k_asm); (case tN => k_asm); (case tm => k_mem); (case tc => exact rfl); (case td => exact rfl); (case tH => first | exact HN.none | exact HN.more (by assumption) (by intro p hp; repeat' (first | exact hp | refine List.Mem.tail _ ?_ | refine List.mem_append.mpr (Or.inr ?_))))); (all_goals (try k_fold))))
local macro_rules | `(tactic| walk_at "exec For Name Name cons nil") => `(tactic| (k_here; (rename Fr _ _ _ _ => lF'); (with_unfolding_all refine' For_invVF lF' ?k1 ?k2 ?_; (case k1 => exact rfl); (case k2 => exact rfl); k_whole)))
local macro_rules | `(tactic| walk_at "call ref") => `(tactic| (k_here; (with_reducible show wpAny _ _ (call (Value.ref 80) [Value.bytes _ _]) _ _ _); k_dflt (refine' tell_use (value_tell _ _ _ _ _ _ _ _ _ _ _ _ ?hb) ?k1 ?k2 ?k3 ?k4 ?k5 ?kK ?kd ?ku ?_; (case hb => assumption); (case k1 => k_asm); (case k2 => k_asm); (case k3 => k_asm); (case k4 => k_asm); (case k5 => k_asm); (case kK => first | exact rfl | assumption); (case kd => ktr_room); (case ku => ktr_units)); intro _ h' tk' F' N' hr'; obtain ⟨_, hr'⟩ := hr'; subst hr'))
local macro_rules | `(tactic| walk_at "call ref") => `(tactic| (k_here; (with_reducible show wpAny _ _ (call (Value.ref 59) [Value.bytes _ _, Value.int 4 _]) _ _ _); k_dflt (refine' tell_use (bfo4_tell _ _ _ _ _ _ ?hH _ _ _ _ _ _ _ ?hb) ?k1 ?k2 ?k3 ?k4 ?k5 ?kK ?kd ?ku ?_; (case k1 => k_asm); (case k2 => k_asm); (case k3 => k_asm); (case k4 => k_asm); (case k5 => k_asm); (case hb => assumption); (case kK => first | exact rfl | assumption); (case kd => ktr_room); (case ku => ktr_units); (case hH => first | exact HN.none | exact HN.more (by assumption) (by intro p hp; repeat' (first | exact hp | refine List.Mem.tail _ ?_ | refine List.mem_append.mpr (Or.inr ?_))))); intro _ h' tk' F' N' hr'; subst hr'))
local macro_rules | `(tactic| walk_at "call ref") => `(tactic| (k_here; (with_reducible show wpAny _ _ (call (Value.ref 59) [Value.bytes _ _]) _ _ _); k_dflt (refine' tell_use (bfo_tell _ _ _ _ _ _ _ _) ?k1 ?k2 ?k3 ?k4 ?k5 ?kK ?kd ?ku ?_; (case k1 => k_asm); (case k2 => k_asm); (case k3 => k_asm); (case k4 => k_asm); (case k5 => k_asm); (case kK => first | exact rfl | assumption); (case kd => ktr_room); (case ku => ktr_units)); intro _ h' tk' F' N' hr'; subst hr'))
local macro_rules | `(tactic| walk_at "call ref") => `(tactic| (k_here; (with_reducible show wpAny _ _ (call (Value.ref 101) [Value.bytes _ _]) _ _ _); k_dflt (refine' tell_use (bits_tell _ _ _ _ _ _ ?hH _ _ _ ?hb) ?k1 ?k2 ?k3 ?k4 ?k5 ?kK ?kd ?ku ?_; (case k1 => k_asm); (case k2 => k_asm); (case k3 => k_asm); (case k4 => k_asm); (case k5 => k_asm); (case kK => first | exact rfl | assumption); (case kd => ktr_room); (case ku => ktr_units); (case hb => assumption); (case hH => first | exact HN.none | exact HN.more (by assumption) (by intro p hp; repeat' (first | exact hp | refine List.Mem.tail _ ?_ | refine List.mem_append.mpr (Or.inr ?_))))); intro _ h' tk' F' N' hr'; obtain ⟨_, _, hr', hq'⟩ := hr'; subst hr'))
local macro_rules | `(tactic| walk_at "call ref") => `(tactic| (k_here; (with_reducible show wpAny _ _ (call (Value.ref 87) [Value.bytes _ _]) _ _ _); k_dflt (refine' tell_use (target_tell _ _ _ _ _ _ ?hH _ _ _ _ _ _ ?hb ?hv) ?k1 ?k2 ?k3 ?k4 ?k5 ?kK ?kd ?ku ?_; (case k1 => k_asm); (case k2 => k_asm); (case k3 => k_asm); (case k4 => k_asm); (case k5 => k_asm); (case kK => first | exact rfl | assumption); (case kd => ktr_room); (case ku => ktr_units); (case hb => assumption); (case hv => first | assumption | omega); (case hH => first | exact HN.none | exact HN.more (by assumption) (by intro p hp; repeat' (first | exact hp | refine List.Mem.tail _ ?_ | refine List.mem_append.mpr (Or.inr ?_))))); intro _ h' tk' F' N' hr'; obtain ⟨_, _, hr', hq'⟩ := hr'; subst hr'))
local macro_rules | `(tactic| walk_at "binaryOp Pow int int") => `(tactic| (k_here; first | (with_reducible refine pow_256_32 ?_) | (with_reducible refine pow_2_256 ?_) | (with_reducible refine pow_2_23 ?_) | (with_reducible refine pow_2_24 ?_) | (with_reducible refine pow_2_14 ?_) | ((with_reducible refine pow_h ?p0 ?p1 ?_); (case p0 => omega); (case p1 => omega); intro _ _ _ hP' hSm' hP1' hP2')))
local macro_rules | `(tactic| walk_at "binaryOp Mult int int") => `(tactic| (k_here; (with_reducible refine mul_h ?m0 ?m1 ?_); (case m0 => first | assumption | exact Sm.of (by omega) (by omega)); (case m1 => first | assumption | exact Sm.of (by omega) (by omega)); intro _ _ _ hM' hM0'))
local macro_rules | `(tactic| walk_at "binaryOp FloorDiv int int") => `(tactic| (k_here; (with_reducible refine div_h ?d0 ?d1 ?d2 ?_); (case d0 => omega); (case d1 => first | assumption | exact Sm.of (by omega) (by omega)); (case d2 => omega); intro _ _ _ hD' hD0' hD1'))
local macro_rules | `(tactic| walk_at "execs cons") => `(tactic| (k_here; dsimp only))
local macro_rules | `(tactic| walk_at "execs nil") => `(tactic| (k_here; dsimp only))
theorem work_tell (w mean mg mb) (news : List (Addr × Obj)) (hv : Option Value) (hH : HN hv news) (b : Array UInt8) (t : Tok) (e x y z : Int) (hb : KBw.bInts b = [e, x, y, z]) (hval : valI e ((x * 256 + y) * 256 + z) < 2 ^ 256) (hne : valI e ((x * 256 + y) * 256 + z) ≠ 0) :
  Tell w mean mg mb 4 32 hv 108 [.bytes b t] news news (fun r => ∃ W t', r = .int W t' ∧ DivIs (2 ^ 256) (valI e ((x * 256 + y) * 256 + z) + 1) W) := by
  intro dp un gd cn cs a ccd cl outer A₀ base h₀ L m s Q E B F X N T hk hd hu hret
  have hin := in4 hb
  have hnn : 0 ≤ valI e ((x * 256 + y) * 256 + z) := valI_nn hin.1.1
  refine wpAny_call ?_
  k_dflt cell_enter
  k_steps
  all_goals first | exact absurd (by assumption) hne | exact hret _ _ _ (by assumption) (cb_drop (by assumption) (by kcj_all)) ⟨_, _, rfl, by assumption⟩
end Mine
end
section
open PySem PySem.W PyProof.Rows PySem.Calls
set_option maxRecDepth 100000
set_option maxHeartbeats 1000000
namespace Mine
theorem tell_mono {w : World} {mean : ExcName → Option Value} {mg mb : PySem.Str → Option Value} {D U : Nat} {hv : Option Value} {f : Addr} {vs : List Value} {news news' : List (Addr × Obj)} {Post Post' : Value → Prop}
    (C : Tell w mean mg mb D U hv f vs news news' Post) (k : ∀ r, Post r → Post' r) : Tell w mean mg mb D U hv f vs news news' Post' :=
  fun dp un gd cn cs a ccd cl outer A₀ base h₀ L m s Q E B F X N T hk hd hu ret => C dp un gd cn cs a ccd cl outer A₀ base h₀ L m s Q E B F X N T hk hd hu fun r h' tk' F' N' p => ret r h' tk' F' N' (k r p)
theorem bInts_inj {a b : Array UInt8} (h : KBw.bInts a = KBw.bInts b) : a = b := by
  have inj : Function.Injective fun c : UInt8 => (c.toNat : Int) := fun c d e => UInt8.toNat_inj.mp (Int.ofNat_inj.mp e)
  have := (List.map_inj_right fun c d e => inj e).mp h
  exact Array.toList_inj.mp this
/-- the compact form of the target v -/
structure OwnOf (b : Array UInt8) (v : Int) : Prop where
  is : KBw.bInts b = ownB v
  h0 : 0 ≤ v
  h1 : v < 2 ^ 256
theorem OwnOf.e33 {b : Array UInt8} {v : Int} (h : OwnOf b v) : ownE v ≤ 33 := (own_bounds h.h0 h.h1).2.1
theorem OwnOf.list {b : Array UInt8} {v : Int} (h : OwnOf b v) : KBw.bInts b = [ownE v, ownS v / 256 / 256 % 256, ownS v / 256 % 256, ownS v % 256] := h.is
theorem OwnOf.sig {b : Array UInt8} {v : Int} (h : OwnOf b v) : ((ownS v / 256 / 256 % 256) * 256 + ownS v / 256 % 256) * 256 + ownS v % 256 = ownS v := by
  obtain ⟨_, _, a, b⟩ := own_bounds h.h0 h.h1
  exact bytes3 a (by omega)
theorem OwnOf.near {b : Array UInt8} {v : Int} (h : OwnOf b v) : valI (ownE v) (((ownS v / 256 / 256 % 256) * 256 + ownS v / 256 % 256) * 256 + ownS v % 256) = nearI v := by rw [h.sig]; rfl
theorem OwnOf.same {a b : Array UInt8} {v : Int} (h : OwnOf a v) (k : OwnOf b (nearI v)) : KBw.bInts b = KBw.bInts a := by
  rw [h.is, k.is]
  unfold ownB
  rw [(near_same h.h0 h.h1).1, (near_same h.h0 h.h1).2]
theorem own136 (w mean mg mb news hv) (H : HN hv news) (v : Int) (t : Tok) (h0 : 0 ≤ v) (h1 : v < 2 ^ 256) :
    Tell w mean mg mb 4 32 hv 136 [.int v t] news news (fun r => ∃ b' t', r = .bytes b' t' ∧ OwnOf b' v) :=
  tell_mono (own_tell w mean mg mb news hv H v t h0 h1) fun r ⟨b, t', e, q⟩ => ⟨b, t', e, q, h0, h1⟩
theorem val129 (w mean mg mb news hv) (H : HN hv news) (b : Array UInt8) (t : Tok) (v : Int) (h : OwnOf b v) :
    Tell w mean mg mb 4 32 hv 129 [.bytes b t] news news (fun r => ∃ t', r = .int (nearI v) t' ∧ 0 ≤ nearI v ∧ nearI v ≤ v) :=
  tell_mono (valA_tell w mean mg mb news hv H b t _ _ _ _ h.list (by rw [h.near]; exact near_lt h.h0 h.h1)) fun r ⟨t', e⟩ => ⟨t', by rw [e, h.near], near_bounds h.h0 h.h1⟩
theorem neg94 (w mean mg mb news hv) (H : HN hv news) (b : Array UInt8) (t : Tok) (v : Int) (h : OwnOf b v) :
    Tell w mean mg mb 3 24 hv 94 [.bytes b t] news news (fun r => r = .bool false) :=
  tell_mono (neg_tell w mean mg mb news hv H b t _ _ _ _ h.list) fun r e => by
    obtain ⟨_, _, p, q⟩ := own_bounds h.h0 h.h1
    rw [e, decide_eq_false]
    rintro ⟨k, _⟩
    omega
theorem neg94f (w mean mg mb news hv) (H : HN hv news) (b : Array UInt8) (t : Tok) (e x y z : Int) (hb : KBw.bInts b = [e, x, y, z]) (hx : x < 128) :
    Tell w mean mg mb 3 24 hv 94 [.bytes b t] news news (fun r => r = .bool false) :=
  tell_mono (neg_tell w mean mg mb news hv H b t _ _ _ _ hb) fun r e => by
    rw [e, decide_eq_false]
    rintro ⟨k, _⟩
    omega
theorem neg94s (w mean mg mb news hv) (H : HN hv news) (b : Array UInt8) (t : Tok) (e x y z : Int) (hb : KBw.bInts b = [e, x + 128, y, z]) (hx : 0 ≤ x) :
    Tell w mean mg mb 3 24 hv 94 [.bytes b t] news news (fun r => r = .bool (decide (valI e ((x * 256 + y) * 256 + z) ≠ 0))) :=
  tell_mono (neg_tell w mean mg mb news hv H b t _ _ _ _ hb) fun r e' => by
    have s : ((x + 128) * 256 + y) * 256 + z = ((x * 256 + y) * 256 + z) + 8388608 := by omega
    rw [e', s, valI_sign]
    congr 1
    apply decide_eq_decide.mpr
    constructor
    · exact fun k => k.2
    · exact fun k => ⟨by omega, k⟩
theorem work108 (w mean mg mb) (news : List (Addr × Obj)) (hv : Option Value) (hH : HN hv news) (b : Array UInt8) (t : Tok) (v : Int) (h : OwnOf b v) (hne : nearI v ≠ 0) :
    Tell w mean mg mb 4 32 hv 108 [.bytes b t] news news (fun r => ∃ W t', r = .int W t' ∧ DivIs (2 ^ 256) (nearI v + 1) W) :=
  tell_mono (work_tell w mean mg mb news hv hH b t _ _ _ _ h.list (by rw [h.near]; exact near_lt h.h0 h.h1) (by rw [h.near]; exact hne)) fun r ⟨W, t', e, q⟩ => ⟨W, t', e, by rw [h.near] at q; exact q⟩
section
variable {prog : Program} {w : World} {A : Around} {E : Value → Shared → Prop} {s : Shared} {t u : Tok} {Q : Value → Shared → Prop}
theorem ne_same {a b : Array UInt8} {v : Int} (h : OwnOf a v) (k : OwnOf b (nearI v)) (q : Q (.bool false) s) : wpAny (model prog w) A (compareOp .NotEq (.bytes b t) (.bytes a u)) Q E s :=
  ne_bytes (by rw [bInts_inj (h.same k)]; simpa using q)
theorem cat22 {b c : Array UInt8} {e x y z : Int} (hb : KBw.bInts b = [e, x]) (hc : KBw.bInts c = [y, z]) (h : ∀ (d : Array UInt8) t' k, KBw.bInts d = [e, x, y, z] → Q (.bytes d t') { s with toks := k }) :
    wpAny (model prog w) A (binaryOp .Add (.bytes b t) (.bytes c u)) Q E s :=
  KBa.add_K hb hc (by simp) fun t' k hd => h _ t' k hd
end
end Mine
end
section
open PySem PySem.W PyProof.Rows PySem.Calls
set_option maxRecDepth 100000
set_option maxHeartbeats 3000000
namespace Mine
theorem stOk_of {l D : Addr} {ws : List Value} {ns : List Int} (hi : IntsAre ws (ns.take 40)) (h : D < l) : StOk l D ws [] where
  ne := Nat.ne_of_lt h
  off := fun _ h => by cases h
  vals := ⟨_, hi⟩
  len := by
    have := hi.length
    have := List.length_take_le 40 ns
    omega
end Mine
end
section
open PySem PySem.W PyProof.Rows PySem.Calls
set_option maxRecDepth 100000
set_option maxHeartbeats 1000000
namespace Mine
section
variable {prog : Program} {w : World} {A : Around} {E : Value → Shared → Prop} {s : Shared} {env : Env} {h₀ : Heap} {body : List Stmt} {Q : Flow → Shared → Prop}
theorem map5 {x y₁ y₂ y₃ y₄ : PySem.Str} {m₁ m₀ : PySem.Str → Option Value} {v : Value} (hm : ∀ z, z ≠ x → z ≠ y₁ → z ≠ y₂ → z ≠ y₃ → z ≠ y₄ → m₁ z = m₀ z) :
    (fun z => if z = x then some v else m₁ z) = fun z => if z = x then some v else if z = y₁ then m₁ z else if z = y₂ then m₁ z else if z = y₃ then m₁ z else if z = y₄ then m₁ z else m₀ z := by
  funext z
  by_cases h : z = x
  · simp only [if_pos h]
  by_cases h1 : z = y₁
  · simp only [if_neg h, if_pos h1]
  by_cases h2 : z = y₂
  · simp only [if_neg h, if_neg h1, if_pos h2]
  by_cases h3 : z = y₃
  · simp only [if_neg h, if_neg h1, if_neg h2, if_pos h3]
  by_cases h4 : z = y₄
  · simp only [if_neg h, if_neg h1, if_neg h2, if_neg h3, if_pos h4]
  simp only [if_neg h, if_neg h1, if_neg h2, if_neg h3, if_neg h4]
  exact hm z h h1 h2 h3 h4
theorem map5' {x y₁ y₂ y₃ y₄ : PySem.Str} {m₁ m₀ : PySem.Str → Option Value} (hm : ∀ z, z ≠ x → z ≠ y₁ → z ≠ y₂ → z ≠ y₃ → z ≠ y₄ → m₁ z = m₀ z) :
    m₁ = fun z => if z = x then m₁ z else if z = y₁ then m₁ z else if z = y₂ then m₁ z else if z = y₃ then m₁ z else if z = y₄ then m₁ z else m₀ z := by
  funext z
  by_cases h : z = x
  · simp only [if_pos h]
  by_cases h1 : z = y₁
  · simp only [if_neg h, if_pos h1]
  by_cases h2 : z = y₂
  · simp only [if_neg h, if_neg h1, if_pos h2]
  by_cases h3 : z = y₃
  · simp only [if_neg h, if_neg h1, if_neg h2, if_pos h3]
  by_cases h4 : z = y₄
  · simp only [if_neg h, if_neg h1, if_neg h2, if_neg h3, if_pos h4]
  simp only [if_neg h, if_neg h1, if_neg h2, if_neg h3, if_neg h4]
  exact hm z h h1 h2 h3 h4
/-- what one turn of the loop leaves -/
def TurnEnd (h₀ : Heap) (L : Addr) (x y₁ y₂ y₃ y₄ : PySem.Str) (m₀ : PySem.Str → Option Value) (st sl : Addr) (ws : List Value) (i : Int) (own : List (Addr × Obj)) (s : Shared) (f : Flow) (s₂ : Shared) : Prop :=
  f = .next ∧ ∃ i' tk' m' h' tok', s₂ = { s with heap := h', toks := tok' } ∧ i ≤ i' ∧ i' ≤ i + 8 ∧ (∀ z, z ≠ x → z ≠ y₁ → z ≠ y₂ → z ≠ y₃ → z ≠ y₄ → m' z = m₀ z) ∧ Fr h₀ L h' m' ∧ News h₀ L h' (StNews st sl ws i' tk' own)
theorem iter_state {r st sl : Addr} {ws : List Value} {b₀ i : Int} {tk t₀ u₀ v₀ : Tok} {x y₁ y₂ y₃ y₄ : PySem.Str} {m₀ : PySem.Str → Option Value}
    (hh : A.handled = none) (hr : IsRange s.heap r 0 b₀ 1 t₀ u₀ v₀) (hb0 : 0 ≤ b₀) (hb1 : b₀ ≤ 1000) (hS : StOk st sl ws []) (F : Fr h₀ env.locals s.heap m₀) (N : News h₀ env.locals s.heap (StNews st sl ws i tk []))
    (turn : ∀ k t i' tk' (u : PySem.Str → Option Value) h tok own, i ≤ i' → i' ≤ i + 8000 → StOk st sl ws own →
      Fr h₀ env.locals h (fun z => if z = x then some (.int k t) else if z = y₁ then u z else if z = y₂ then u z else if z = y₃ then u z else if z = y₄ then u z else m₀ z) → News h₀ env.locals h (StNews st sl ws i' tk' own) →
      wpAny (model prog w) A (execs body env) (TurnEnd h₀ env.locals x y₁ y₂ y₃ y₄ m₀ st sl ws i' own { s with heap := h, toks := tok }) E { s with heap := h, toks := tok })
    (done : ∀ i' tk' (u : PySem.Str → Option Value) h tok, i ≤ i' → i' ≤ i + 8000 →
      Fr h₀ env.locals h (fun z => if z = x then u z else if z = y₁ then u z else if z = y₂ then u z else if z = y₃ then u z else if z = y₄ then u z else m₀ z) → News h₀ env.locals h (StNews st sl ws i' tk' []) → Q .next { s with heap := h, toks := tok }) :
    wpAny (model prog w) A (pyIter (.ref r)) (fun it s₂ => LoopAtV prog w A h₀ env x body Q E it s₂) E s := by
  have hsmall : Builtin.Range.small 0 b₀ 1 = true := small_one (by decide) (by decide) (by omega) (by omega)
  have hn : Builtin.Range.rangeSize 0 b₀ 1 = (b₀.toNat : Int) := by
    unfold Builtin.Range.rangeSize
    rw [if_pos (by decide)]
    split
    · rw [Int.ediv_one]
      omega
    · omega
  refine wpAny_pyIter_range hr hsmall ?_
  have W : Walks prog w A s.heap.objs.size [s.heap.objs.size] [s.heap.objs.size] b₀.toNat (fun i v => i < b₀.toNat ∧ ∃ t, v = .int (0 + i * 1) t)
      (fun i h => IsRangeIter h s.heap.objs.size (0 + (i : Nat) * 1) ((b₀.toNat : Int) - (i : Nat)) 1) := (Walks.range hh _ 0 1 b₀.toNat).bound
  refine loop_invN (fun c m nx => (∃ i' tk', i ≤ i' ∧ i' ≤ i + 8 * (c : Int) ∧ nx = StNews st sl ws i' tk' []) ∧ ∀ z, z ≠ x → z ≠ y₁ → z ≠ y₂ → z ≠ y₃ → z ≠ y₄ → m z = m₀ z) W ?_ ?_ ?_ ?_ (by show IsRangeIter _ _ _ _ _; rw [hn]; simpa using Heap.get?_push_size _ rfl) (F.push _) (fun p hp => ⟨Heap.get?_push_of_some _ (N p hp).1, (N p hp).2⟩) ⟨⟨i, tk, by omega, by omega, rfl⟩, fun _ _ _ _ _ _ => rfl⟩ ?_ ?_
  · intro hm
    exact absurd F.ns.lt ((List.mem_singleton.mp hm) ▸ Nat.lt_irrefl _)
  · intro b hb
    rw [List.mem_singleton.mp hb]
    exact next_is_new F
  · intro p hp hI
    exact absurd (Heap.lt_size (N p hp).1) ((List.mem_singleton.mp hI) ▸ Nat.lt_irrefl _)
  · intro p hp hI
    exact absurd (Heap.lt_size (N p hp).1) ((List.mem_singleton.mp hI) ▸ Nat.lt_irrefl _)
  · rintro c v m₁ nx h tok own hc ⟨_, t, rfl⟩ _ hoff ⟨⟨i', tk', hi1, hi2, rfl⟩, hm⟩ F₁ N₁
    rw [map5 hm] at F₁
    have hS' : StOk st sl ws own := ⟨hS.ne, fun p hp => hoff p hp st (by simp), hS.vals, hS.len⟩
    refine wpAny_mono (turn _ t i' tk' m₁ h tok own hi1 (by omega) hS' F₁ N₁) (fun f s₂ p => ?_) fun _ _ e => e
    obtain ⟨rfl, i'', tk'', m', h', tok', rfl, h1, h2, hm', F₂, N₂⟩ := p
    refine ⟨h', tok', m', _, StNews st sl ws i'' tk'' [], rfl, F₂, N₂, ?_, ?_, rfl, ⟨i'', tk'', by omega, by push_cast; omega, rfl⟩, hm'⟩
    · intro p hp
      rcases List.mem_cons.mp hp with rfl | hp
      · exact .head _
      · rw [List.mem_singleton.mp hp]
        exact .tail _ (.head _)
    · exact fun p hp => .tail _ (.tail _ hp)
  · rintro m₁ nx h tok ⟨⟨i', tk', hi1, hi2, rfl⟩, hm⟩ F₁ N₁
    rw [map5' hm] at F₁
    exact done i' tk' m₁ h tok hi1 (by omega) F₁ N₁
end
theorem plain_is' {e n P1 P2 x z : Int} (hz : DivIs x P2 z) (hx : MulIs n P1 x) (hP1 : PowIs (max 0 (e - 3)) P1) (hP2 : PowIs (max 0 (3 - e)) P2) (he : 0 ≤ e) (hn0 : 0 ≤ n) (hn : n < 8388608) : z = valI e n := plain_is he hn0 hn hP1 hx hP2 hz
theorem valF_use {w : World} {mean : ExcName → Option Value} {mg mb : PySem.Str → Option Value} {news : List (Addr × Obj)} {b : Array UInt8} {t : Tok} {e x y z : Int}
    {dp un : Nat} {gd : Option (List Code)} {cn : PySem.Str} {cs : Scope} {a : Addr} {ccd : Value} {A₀ : Around} {base h₀ : Heap} {L : Addr} {m : PySem.Str → Option Value} {s : Shared} {Q E : Value → Shared → Prop}
    (hb : KBw.bInts b = [e, x, y, z]) (XB : (hd.heap_39 w.params).In base) (TB : Top hd.view_39 LOO mean mg mb base) (B : Below A₀ base [] h₀) (F : Fr h₀ L s.heap m) (X : (hd.heap_39 w.params).In h₀) (N : News h₀ L s.heap news) (T : Top hd.view_39 LOO mean mg mb h₀) (hk : cs.kind = .function)
    (hd : dp + 4 < recursionLimit) (hu : un + 32 < cLine)
    (h1 : ∀ t' h' tk', valI e ((x * 256 + y) * 256 + z) < 2 ^ 256 → Fr h₀ L h' m → News h₀ L h' news → Q (.int (valI e ((x * 256 + y) * 256 + z)) t') { s with heap := h', toks := tk' })
    (h2 : ∀ h' tk', ¬ valI e ((x * 256 + y) * 256 + z) < 2 ^ 256 → Fr h₀ L h' m → News h₀ L h' news → Q .none { s with heap := h', toks := tk' }) :
    wpAny (model PR w) { handled := none, depth := dp, frames := some [envOf cn cs L a ccd], guards := gd, units := un } (call (.ref 129) [.bytes b t]) Q E s := by
  refine valB_tell w mean mg mb news b t e x y z hb dp un gd cn cs a ccd A₀ base h₀ L m s Q E XB TB B F X N T hk hd hu ?_
  intro r h' tk' F' N' hr
  split at hr
  · obtain ⟨t', rfl⟩ := hr
    exact h1 _ _ _ (by assumption) F' N'
  · subst hr
    exact h2 _ _ (by assumption) F' N'
theorem form143 (w mean mg mb) (st sl : Addr) (ws : List Value) (i : Int) (tk : Tok) (rest : List (Addr × Obj)) (hS : StOk st sl ws rest) (hi0 : 0 ≤ i) (hi1 : i ≤ 100000) (b : Array UInt8) (t : Tok) (v : Int) (h : OwnOf b v) :
    TellS w mean mg mb 2 16 3 none 143 [.ref st, .bytes b t] st sl ws i tk rest (fun r => ∃ b' t' e' x' y' z', r = .bytes b' t' ∧ KBw.bInts b' = [e', x', y', z'] ∧ e' ≤ 35 ∧ x' < 128) :=
  form_tellS w mean mg mb st sl ws i tk rest hS hi0 hi1 b t _ _ _ _ h.list h.e33
end Mine
end
section
open PySem PySem.W PyProof.Rows PySem.Calls
set_option maxRecDepth 100000
set_option maxHeartbeats 1000000
namespace Mine
theorem plain_if {e n P1 P2 x z : Int} (hz : DivIs x P2 z) (hx : MulIs n P1 x) (hP1 : PowIs (if e - 3 > 0 then e - 3 else 0) P1) (hP2 : PowIs (if 3 - e > 0 then 3 - e else 0) P2) (he : 0 ≤ e) (hn0 : 0 ≤ n) (hn : n < 8388608) : z = valI e n := by
  have h1 : (if e - 3 > 0 then e - 3 else 0) = max 0 (e - 3) := by split <;> omega
  have h2 : (if 3 - e > 0 then 3 - e else 0) = max 0 (3 - e) := by split <;> omega
  rw [h1] at hP1
  rw [h2] at hP2
  exact plain_is' hz hx hP1 hP2 he hn0 hn
theorem kill_f {V : Int} (c : (false != decide ((2 : Int) ^ 256 ≤ V)) = true) (h : V < 2 ^ 256) : False := by
  have : decide ((2 : Int) ^ 256 ≤ V) = true := by simpa using c
  have := of_decide_eq_true this
  omega
theorem kill_t {V : Int} (c : (true != decide ((2 : Int) ^ 256 ≤ V)) = true) (h : ¬ V < 2 ^ 256) : False := by
  have : decide ((2 : Int) ^ 256 ≤ V) = false := by simpa using c
  have := of_decide_eq_false this
  omega
theorem kill_le {b b' : Array UInt8} {v e x y z : Int} (c : (decide (valI e ((x * 256 + y) * 256 + z) ≤ v) != decide (valI e ((x * 256 + y) * 256 + z) ≤ nearI v)) = true) (h : OwnOf b v) (hb : KBw.bInts b' = [e, x, y, z]) (hx : x < 128) : False := by
  obtain ⟨⟨e0, _⟩, ⟨x0, _⟩, ⟨y0, _⟩, z0, _⟩ := in4 hb
  have k := near_great h.h0 h.h1 (e := e) (n := (x * 256 + y) * 256 + z) e0 (by omega) (by omega)
  have : decide (valI e ((x * 256 + y) * 256 + z) ≤ v) = decide (valI e ((x * 256 + y) * 256 + z) ≤ nearI v) := decide_eq_decide.mpr k
  rw [this] at c
  simp at c
theorem kill_form {b' : Array UInt8} {e x y z : Int} (c : nearI (valI e ((x * 256 + y) * 256 + z)) ≠ valI e ((x * 256 + y) * 256 + z)) (hv : valI e ((x * 256 + y) * 256 + z) < 2 ^ 256) (hb : KBw.bInts b' = [e, x, y, z]) (hx : x < 128) : False := by
  obtain ⟨⟨e0, _⟩, ⟨x0, _⟩, ⟨y0, _⟩, z0, _⟩ := in4 hb
  exact c (near_form e0 (by omega) (by omega) hv)
theorem kill_sg {V : Int} (c : (decide (V ≠ 0) != (V != 0)) = true) : False := by
  by_cases h : V = 0 <;> simp [h] at c
theorem kill_sg' {V : Int} (c : (decide (V ≠ 0) != decide (V ≠ 0)) = true) : False := by
  simp at c
section
variable {prog : Program} {w : World} {A : Around} {E : Value → Shared → Prop} {s : Shared} {h₀ : Heap} {L : Addr} {m : PySem.Str → Option Value} {news : List (Addr × Obj)}
theorem call_b2 {D : Addr} {x y : Int} {t u : Tok} {k : Nat} {Q : Value → Shared → Prop} (hh : A.handled = none) (F' : Fr h₀ L s.heap m) (N : News h₀ L s.heap news) (hm : (D, PySem.W.listOf #[.int x t, .int y u] k) ∈ news) (hx0 : 0 ≤ x) (hx1 : x < 256) (hy0 : 0 ≤ y) (hy1 : y < 256)
    (h : ∀ (b : Array UInt8) h' t' k', Fr h₀ L h' m → News h₀ L h' news → KBw.bInts b = [x, y] → Q (.bytes b t') { s with heap := h', toks := k' }) :
    wpAny (model prog w) A (call (.type "bytes") [.ref D]) Q E s := by
  have hr : KBa.In [x, y] := fun n hn => by
    rcases List.mem_cons.mp hn with rfl | hn
    · exact ⟨hx0, hx1⟩
    · rw [List.mem_singleton.mp hn]
      exact ⟨hy0, hy1⟩
  exact KBa.make_K F' N hh (vs := [.int x t, .int y u]) ⟨_, (N _ hm).1, rfl, _, rfl⟩ (.cons _ _ (.cons _ _ .nil)) hr (by simp) fun h' t' k' F₁ N₁ _ => h _ _ _ _ F₁ N₁ (KBa.ints_make hr)
end
end Mine
namespace Mine
theorem kill_mono {b b' : Array UInt8} {u v : Int} (c : u ≤ v) (k : nearI v < nearI u) (h : OwnOf b u) (h' : OwnOf b' v) : False := by
  have := near_mono h'.h0 h'.h1 h.h0 h.h1 c
  omega
end Mine
end
section
open PySem PySem.W PyProof.Rows PySem.Calls
set_option maxRecDepth 100000
set_option maxHeartbeats 1000000
set_option exponentiation.threshold 2000
namespace Mine
theorem kill_mono' {b b' : Array UInt8} {u v : Int} (k : nearI v < nearI u) (c : u ≤ v) (h : OwnOf b u) (h' : OwnOf b' v) : False := kill_mono c k h h'
/-- what the loop over the two targets appends for the number x -/
def WorkOf (x : Int) (a : Value) : Prop := (nearI x = 0 ∧ a = .none) ∨ (nearI x ≠ 0 ∧ ∃ W t, a = .int W t ∧ DivIs (2 ^ 256) (nearI x + 1) W)
theorem target87 (w mean mg mb news hv) (H : HN hv news) (b : Array UInt8) (t : Tok) (v : Int) (h : OwnOf b v) :
    Tell w mean mg mb 3 24 hv 87 [.bytes b t] news news (fun r => ∃ b' t', r = .bytes b' t' ∧ Be32 b' (nearI v)) :=
  tell_mono (target_tell w mean mg mb news hv H b t _ _ _ _ h.list (by rw [h.near]; exact near_lt h.h0 h.h1)) fun _ ⟨b', t', e, q⟩ => ⟨b', t', e, by rw [h.near] at q; exact q⟩
section
variable {prog : Program} {w : World} {A : Around} {E : Value → Shared → Prop} {s : Shared} {env : Env} {h₀ : Heap} {body : List Stmt} {Q : Flow → Shared → Prop} {L : Addr} {m : PySem.Str → Option Value} {news : List (Addr × Obj)}
theorem perm_two {a b : Int} {ns : List Int} (h : ns.Perm [a, b]) (o : ns.Pairwise (· ≤ ·)) : ns = [min a b, max a b] := by
  have hl := h.length_eq
  match ns, hl with
  | [p, q], _ =>
    have o' : p ≤ q := by simpa using o
    have hp : p ∈ [a, b] := h.mem_iff.mp (by simp)
    have key : (p = a ∧ q = b) ∨ (p = b ∧ q = a) := by
      rcases List.mem_cons.mp hp with rfl | hp
      · exact .inl ⟨rfl, by simpa using List.perm_singleton.mp (List.Perm.cons_inv h)⟩
      · have e := List.mem_singleton.mp hp
        subst e
        exact .inr ⟨rfl, by simpa using List.perm_singleton.mp (List.Perm.cons_inv (h.trans (List.Perm.swap _ _ _)))⟩
    rcases key with ⟨rfl, rfl⟩ | ⟨rfl, rfl⟩
    · rw [Int.min_eq_left o', Int.max_eq_right o']
    · rw [Int.min_eq_right o', Int.max_eq_left o']
theorem sorted2 {l : Addr} {a b : Int} {t u : Tok} {k : Nat} {Q : Value → Shared → Prop} (F : Fr h₀ L s.heap m) (N : News h₀ L s.heap news) (hm : (l, PySem.W.listOf #[.int a t, .int b u] k) ∈ news)
    (h : ∀ D t' u' c h', Fr h₀ L h' m → News h₀ L h' ((D, PySem.W.listOf #[.int (min a b) t', .int (max a b) u'] c) :: news) → (∀ q ∈ news, q.1 < D) → Q (.ref D) { s with heap := h' }) :
    wpAny (model prog w) A (call (.builtin "sorted") [.ref l]) Q E s := by
  refine kso_sorted F N (vs := [.int a t, .int b u]) (ns := [a, b]) ⟨_, (N _ hm).1, rfl, _, rfl⟩ (.cons _ _ (.cons _ _ .nil)) (by simp) ?_
  intro D vs' ns' c h' F' N' hlt hi _ hp ho _
  have e := perm_two hp ho
  subst e
  cases hi with
  | cons n t' hi =>
    cases hi with
    | cons n u' hi =>
      cases hi
      exact h D t' u' c h' F' N' hlt
def WorkEnd (h₀ : Heap) (L : Addr) (y : PySem.Str) (m₀ : PySem.Str → Option Value) (W : Addr) (x : Int) (t : Tok) (ws : Array Value) (rest : List (Addr × Obj)) (s : Shared) (f : Flow) (s₂ : Shared) : Prop :=
  f = .next ∧ ∃ a c h' tk, s₂ = { s with heap := h', toks := tk } ∧ WorkOf x a ∧ Fr h₀ L h' (fun z => if z = y then some (.int x t) else m₀ z) ∧ News h₀ L h' ((W, PySem.W.listOf (ws.push a) c) :: rest)
theorem iter_works {D W : Addr} {lo hi : Int} {tl th : Tok} {c k : Nat} {y : PySem.Str} {m₀ : PySem.Str → Option Value}
    (hh : A.handled = none) (F : Fr h₀ env.locals s.heap m₀) (N : News h₀ env.locals s.heap news) (hD : (D, PySem.W.listOf #[.int lo tl, .int hi th] c) ∈ news) (hW : (W, PySem.W.listOf #[] k) ∈ news) (hne : D ≠ W)
    (hlo0 : 0 ≤ lo) (hlo1 : lo < 2 ^ 256) (hhi0 : 0 ≤ hi) (hhi1 : hi < 2 ^ 256)
    (turn : ∀ x t ws c' rest h tk, 0 ≤ x → x < 2 ^ 256 → (∀ p ∈ rest, p.1 ≠ W) → ws.size ≤ 1 → Fr h₀ env.locals h (fun z => if z = y then some (.int x t) else m₀ z) → News h₀ env.locals h ((W, PySem.W.listOf ws c') :: rest) →
      wpAny (model prog w) A (execs body env) (WorkEnd h₀ env.locals y m₀ W x t ws rest { s with heap := h, toks := tk }) E { s with heap := h, toks := tk })
    (done : ∀ a b c' (u : PySem.Str → Option Value) h tk, WorkOf lo a → WorkOf hi b → Fr h₀ env.locals h (fun z => if z = y then u z else m₀ z) → News h₀ env.locals h [(W, PySem.W.listOf #[a, b] c')] → Q .next { s with heap := h, toks := tk }) :
    wpAny (model prog w) A (pyIter (.ref D)) (fun it s₂ => LoopAtV prog w A h₀ env y body Q E it s₂) E s := by
  refine iter_listUnr (vs := [.int lo tl, .int hi th]) hh F N hD rfl rfl fun I hI => ?_
  have hDI : D ≠ I := Nat.ne_of_lt (hI _ hD)
  have hWI : W ≠ I := Nat.ne_of_lt (hI _ hW)
  refine ListRest.succ fun it h tk hit F₁ N₁ => ?_
  have N₁' : News h₀ env.locals h ((W, PySem.W.listOf #[] k) :: [(I, it), (D, PySem.W.listOf #[.int lo tl, .int hi th] c)]) := fun p hp => by
    rcases List.mem_cons.mp hp with rfl | hp
    · exact N₁ _ (.tail _ hW)
    rcases List.mem_cons.mp hp with rfl | hp
    · exact N₁ _ (.head _)
    rw [List.mem_singleton.mp hp]
    exact N₁ _ (.tail _ hD)
  have off : ∀ p ∈ [(I, it), (D, PySem.W.listOf #[.int lo tl, .int hi th] c)], p.1 ≠ W := fun p hp => by
    rcases List.mem_cons.mp hp with rfl | hp
    · exact Ne.symm hWI
    rw [List.mem_singleton.mp hp]
    exact hne
  refine wpAny_mono (turn lo tl #[] k _ h tk hlo0 hlo1 off (by decide) F₁ N₁') (fun f s₂ p => ?_) fun _ _ e => e
  obtain ⟨rfl, a, c₁, h₂, tk₂, rfl, ha, F₂, N₂⟩ := p
  refine ⟨h₂, tk₂, _, [(W, PySem.W.listOf (#[].push a) c₁), (D, PySem.W.listOf #[.int lo tl, .int hi th] c)], rfl, F₂, ?_, ?_, .tail _ (.head _), ?_⟩
  · intro p hp
    rcases List.mem_cons.mp hp with rfl | hp
    · exact N₂ _ (.tail _ (.head _))
    rcases List.mem_cons.mp hp with rfl | hp
    · exact N₂ _ (.head _)
    rw [List.mem_singleton.mp hp]
    exact N₂ _ (.tail _ (.tail _ (.head _)))
  · intro p hp
    rcases List.mem_cons.mp hp with rfl | hp
    · exact hWI
    rw [List.mem_singleton.mp hp]
    exact hDI
  refine ListRest.succ fun it' h₃ tk₃ hit' F₃ N₃ => ?_
  have em : (fun z => if z = y then some (Value.int hi th) else if z = y then some (Value.int lo tl) else m₀ z) = fun z => if z = y then some (Value.int hi th) else m₀ z := by
    funext z
    by_cases hz : z = y
    · simp only [if_pos hz]
    · simp only [if_neg hz]
  rw [em] at F₃
  have N₃' : News h₀ env.locals h₃ ((W, PySem.W.listOf (#[].push a) c₁) :: [(I, it'), (D, PySem.W.listOf #[.int lo tl, .int hi th] c)]) := fun p hp => by
    rcases List.mem_cons.mp hp with rfl | hp
    · exact N₃ _ (.tail _ (.head _))
    rcases List.mem_cons.mp hp with rfl | hp
    · exact N₃ _ (.head _)
    rw [List.mem_singleton.mp hp]
    exact N₃ _ (.tail _ (.tail _ (.head _)))
  have off' : ∀ p ∈ [(I, it'), (D, PySem.W.listOf #[.int lo tl, .int hi th] c)], p.1 ≠ W := fun p hp => by
    rcases List.mem_cons.mp hp with rfl | hp
    · exact Ne.symm hWI
    rw [List.mem_singleton.mp hp]
    exact hne
  refine wpAny_mono (turn hi th (#[].push a) c₁ _ h₃ tk₃ hhi0 hhi1 off' (by simp) F₃ N₃') (fun f s₂ p => ?_) fun _ _ e => e
  obtain ⟨rfl, b, c₂, h₄, tk₄, rfl, hb, F₄, N₄⟩ := p
  refine ⟨h₄, tk₄, _, [(W, PySem.W.listOf ((#[].push a).push b) c₂), (D, PySem.W.listOf #[.int lo tl, .int hi th] c)], rfl, F₄, ?_, ?_, .tail _ (.head _), ?_⟩
  · intro p hp
    rcases List.mem_cons.mp hp with rfl | hp
    · exact N₄ _ (.tail _ (.head _))
    rcases List.mem_cons.mp hp with rfl | hp
    · exact N₄ _ (.head _)
    rw [List.mem_singleton.mp hp]
    exact N₄ _ (.tail _ (.tail _ (.head _)))
  · intro p hp
    rcases List.mem_cons.mp hp with rfl | hp
    · exact hWI
    rw [List.mem_singleton.mp hp]
    exact hDI
  refine ListRest.zero fun h₅ tk₅ F₅ N₅ => done a b c₂ (fun _ => some (.int hi th)) h₅ tk₅ ha hb F₅ fun p hp => ?_
  rw [List.mem_singleton.mp hp]
  exact N₅ _ (.head _)
end
end Mine
namespace Mine
theorem fdiv_facts {x W : Int} (hx : 1 ≤ x) (h : DivIs (2 ^ 256) x W) : W * x ≤ 2 ^ 256 ∧ (2 : Int) ^ 256 < (W + 1) * x ∧ 0 ≤ W ∧ W ≤ 2 ^ 256 := by
  obtain rfl := h.eq
  rw [Int.fdiv_eq_ediv_of_nonneg _ (by omega)]
  have h1 := Int.mul_ediv_add_emod (2 ^ 256) x
  have h2 := Int.emod_nonneg (2 ^ 256) (b := x) (by omega)
  have h3 := Int.emod_lt_of_pos (2 ^ 256) (b := x) (by omega)
  have h4 : 0 ≤ (2 : Int) ^ 256 / x := Int.ediv_nonneg (by decide) (by omega)
  have h5 : (2 : Int) ^ 256 / x ≤ 2 ^ 256 := Int.ediv_le_self _ (by decide)
  generalize (2 : Int) ^ 256 / x = q at *
  generalize (2 : Int) ^ 256 % x = r at *
  generalize (2 : Int) ^ 256 = B at *
  have h6 : (q + 1) * x = x * q + x := by rw [Int.add_mul, Int.one_mul, Int.mul_comm]
  have h7 : q * x = x * q := Int.mul_comm _ _
  refine ⟨by omega, by omega, h4, h5⟩
theorem works_anti {x y W V : Int} (hx : 1 ≤ x) (hxy : x ≤ y) (h : DivIs (2 ^ 256) x W) (k : DivIs (2 ^ 256) y V) : V ≤ W := by
  obtain ⟨a1, a2, a3, _⟩ := fdiv_facts hx h
  obtain ⟨b1, b2, b3, _⟩ := fdiv_facts (by omega) k
  apply Int.not_lt.mp
  intro hlt
  have h1 : (W + 1) * x ≤ V * x := Int.mul_le_mul_of_nonneg_right (by omega) (by omega)
  have h2 : V * x ≤ V * y := Int.mul_le_mul_of_nonneg_left hxy b3
  omega
end Mine
namespace Mine
section
variable {prog : Program} {w : World} {A : Around} {E : Value → Shared → Prop} {s : Shared} {env : Env} {h₀ : Heap} {body : List Stmt} {Q : Flow → Shared → Prop} {L : Addr} {m : PySem.Str → Option Value} {news : List (Addr × Obj)}
theorem iter_works' {D W : Addr} {v u : Int} {tl th : Tok} {c k : Nat} {y : PySem.Str} {m₀ : PySem.Str → Option Value}
    (hh : A.handled = none) (F : Fr h₀ env.locals s.heap m₀) (N : News h₀ env.locals s.heap news) (hD : (D, PySem.W.listOf #[.int (min v u) tl, .int (max v u) th] c) ∈ news) (hW : (W, PySem.W.listOf #[] k) ∈ news) (hne : D ≠ W)
    (hv0 : 0 ≤ v) (hv1 : v < 2 ^ 256) (hu0 : 0 ≤ u) (hu1 : u < 2 ^ 256)
    (turn : ∀ x t ws c' rest h tk, 0 ≤ x → x < 2 ^ 256 → (∀ p ∈ rest, p.1 ≠ W) → ws.size ≤ 1 → Fr h₀ env.locals h (fun z => if z = y then some (.int x t) else m₀ z) → News h₀ env.locals h ((W, PySem.W.listOf ws c') :: rest) →
      wpAny (model prog w) A (execs body env) (WorkEnd h₀ env.locals y m₀ W x t ws rest { s with heap := h, toks := tk }) E { s with heap := h, toks := tk })
    (d0 : ∀ b c' (u' : PySem.Str → Option Value) h tk, Fr h₀ env.locals h (fun z => if z = y then u' z else m₀ z) → News h₀ env.locals h [(W, PySem.W.listOf #[.none, b] c')] → Q .next { s with heap := h, toks := tk })
    (d1 : ∀ a t b t' c' (u' : PySem.Str → Option Value) h tk, b ≤ a → a * (nearI (min v u) + 1) ≤ 2 ^ 256 → (2 : Int) ^ 256 < (a + 1) * (nearI (min v u) + 1) → 0 ≤ a → a ≤ 2 ^ 256 → Fr h₀ env.locals h (fun z => if z = y then u' z else m₀ z) → News h₀ env.locals h [(W, PySem.W.listOf #[.int a t, .int b t'] c')] → Q .next { s with heap := h, toks := tk }) :
    wpAny (model prog w) A (pyIter (.ref D)) (fun it s₂ => LoopAtV prog w A h₀ env y body Q E it s₂) E s := by
  refine iter_works hh F N hD hW hne (by omega) (by omega) (by omega) (by omega) turn ?_
  have l0 : 0 ≤ min v u := by omega
  have l1 : min v u < 2 ^ 256 := by omega
  have r0 : 0 ≤ max v u := by omega
  have r1 : max v u < 2 ^ 256 := by omega
  have mono := near_mono r0 r1 l0 l1 (by omega)
  have nl := (near_bounds l0 l1).1
  have nr := (near_bounds r0 r1).1
  rintro a b c' u' h tk (⟨_, rfl⟩ | ⟨na, x, t, rfl, hx⟩) hb F' N'
  · exact d0 b c' u' h tk F' N'
  · rcases hb with ⟨zb, rfl⟩ | ⟨nb, z, t', rfl, hz⟩
    · exact absurd zb (by omega)
    · obtain ⟨f1, f2, f3, f4⟩ := fdiv_facts (by omega) hx
      exact d1 x t z t' c' u' h tk (works_anti (by omega) (by omega) hx hz) f1 f2 f3 f4 F' N'
theorem append_W {W : Addr} {ws : Array Value} {c : Nat} {rest : List (Addr × Obj)} {x : Value} {Q : Value → Shared → Prop} (hoff : ∀ p ∈ rest, p.1 ≠ W) (hz : ws.size ≤ 1) (F : Fr h₀ L s.heap m) (N : News h₀ L s.heap news) (k : ∀ p ∈ (W, PySem.W.listOf ws c) :: rest, p ∈ news)
    (h : ∀ h', Fr h₀ L h' m → News h₀ L h' ((W, PySem.W.listOf (ws.push x) (c + 1)) :: rest) → Q .none { s with heap := h' }) : wpAny (model prog w) A (call (.builtin "list.append") [.ref W, x]) Q E s :=
  append_K F (fun p hp => N p (k p hp)) (.head hoff) h (by rw [sizeLine_eq]; omega)
theorem em_of {b : Array UInt8} {v : Int} (h : OwnOf b v) {P : Prop} (h1 : nearI v = 0 → KBw.bInts b = [ownE v, ownS v / 256 / 256 % 256, ownS v / 256 % 256, ownS v % 256] → P) (h2 : nearI v ≠ 0 → P) : P := by
  by_cases hz : nearI v = 0
  · exact h1 hz h.list
  · exact h2 hz
def CutEnd (h₀ : Heap) (L : Addr) (m : PySem.Str → Option Value) (news : List (Addr × Obj)) (s : Shared) (b : Bool) (s₁ : Shared) : Prop :=
  b = false ∧ ∃ h' tk', s₁ = { s with heap := h', toks := tk' } ∧ Fr h₀ L h' m ∧ News h₀ L h' news
theorem cut_If {test : PySem.Expr} {b₀ : List Stmt} {pos : Pos} (F₀ : Fr h₀ L s.heap m) (N₀ : News h₀ L s.heap news)
    (h : wpAny (model prog w) A (isTrue test env (eval test env)) (CutEnd h₀ L m news s) E s)
    (k : ∀ h' tk', Fr h₀ L h' m → News h₀ L h' news → Q .next { s with heap := h', toks := tk' }) :
    wpAny (model prog w) A (exec (.If test b₀ [] pos) env) Q E s := by
  refine wpAny_If (wpAny_mono h (fun b s₁ p => ?_) fun _ _ e => e)
  obtain ⟨rfl, h', tk', rfl, F, N⟩ := p
  exact wpAny_execs_nil (k h' tk' F N)
end
theorem fin_le {v u q W z : Int} (hm : MulIs W (nearI q + 1) z) (hq : q = min v u) (hle : W * (nearI (min v u) + 1) ≤ 2 ^ 256) : z ≤ 2 ^ 256 := by
  rw [hm.eq, hq]
  exact hle
theorem fin_lt {v u q W z : Int} (hm : MulIs (W + 1) (nearI q + 1) z) (hq : q = min v u) (hlt : (2 : Int) ^ 256 < (W + 1) * (nearI (min v u) + 1)) : (2 : Int) ^ 256 < z := by
  rw [hm.eq, hq]
  exact hlt
end Mine
namespace Mine
section
variable {prog : Program} {w : World} {A : Around} {E : Value → Shared → Prop} {s : Shared} {h₀ : Heap} {L : Addr} {m : PySem.Str → Option Value} {news : List (Addr × Obj)} {value slice : PySem.Expr} {u : Tok} {Q : Value → Shared → Prop}
theorem item_w0 {W : Addr} {a b : Value} {c : Nat} (N : News h₀ L s.heap news) (hm : (W, PySem.W.listOf #[a, b] c) ∈ news) (h : Q a s)
    (hs : subscripted slice false (.ref W) (.int 0 u) = operate [.ref W, .int 0 u] (getItem (.ref W) (.int 0 u)) := by with_unfolding_all rfl) (hg : ∀ r, letTemporaryGo value (.ref W) r = pure () := by intro _; with_unfolding_all rfl) :
    wpAny (model prog w) A (subscriptTail value slice (.ref W) (.int 0 u)) Q E s :=
  item_list (x := a) (items := #[a, b]) ⟨_, (N _ hm).1, rfl, _, rfl⟩ (by decide) (by simp) (by rfl) h hs hg
theorem item_w1 {W : Addr} {a b : Value} {c : Nat} (N : News h₀ L s.heap news) (hm : (W, PySem.W.listOf #[a, b] c) ∈ news) (h : Q b s)
    (hs : subscripted slice false (.ref W) (.int 1 u) = operate [.ref W, .int 1 u] (getItem (.ref W) (.int 1 u)) := by with_unfolding_all rfl) (hg : ∀ r, letTemporaryGo value (.ref W) r = pure () := by intro _; with_unfolding_all rfl) :
    wpAny (model prog w) A (subscriptTail value slice (.ref W) (.int 1 u)) Q E s :=
  item_list (x := b) (items := #[a, b]) ⟨_, (N _ hm).1, rfl, _, rfl⟩ (by decide) (by simp) (by rfl) h hs hg
end
end Mine
namespace Mine
theorem Sm.wide {z : Int} (h0 : 0 ≤ z) (h1 : z ≤ 2 ^ 300) : Sm z where
  lo := h0
  hi := by
    have : z.natAbs ≤ 2 ^ 300 := by omega
    exact Nat.lt_of_le_of_lt this (Nat.pow_lt_pow_right (by decide) (by decide))
end Mine
end
section
open PySem PySem.W PyProof.Rows PySem.Calls
set_option maxRecDepth 100000
set_option maxHeartbeats 1000000
set_option exponentiation.threshold 2000
namespace Mine
theorem sub_cons {α : Type} {a : α} {l news : List α} (h : ∀ p ∈ news, p ∈ l) : ∀ p ∈ news, p ∈ a :: l := fun p hp => .tail _ (h p hp)
theorem if_min (u v : Int) : (if u < v then u else v) = min v u := by
  split <;> omega
section
variable {prog : Program} {w : World} {A : Around} {E : Value → Shared → Prop} {s : Shared} {Q : Value → Shared → Prop}
theorem le_fin {u v W z : Int} {t t' : Tok} (hm : MulIs W (nearI (if u < v then u else v) + 1) z) (hle : W * (nearI (min v u) + 1) ≤ 2 ^ 256) (h : Q (.bool true) s) :
    wpAny (model prog w) A (compareOp .LtE (.int z t) (.int (2 ^ 256) t')) Q E s := by
  refine le_int ?_
  rw [if_min] at hm
  rw [decide_eq_true (by rw [hm.eq]; exact hle)]
  exact h
theorem lt_fin {u v W z : Int} {t t' : Tok} (hm : MulIs (W + 1) (nearI (if u < v then u else v) + 1) z) (hlt : (2 : Int) ^ 256 < (W + 1) * (nearI (min v u) + 1)) (h : Q (.bool true) s) :
    wpAny (model prog w) A (compareOp .Lt (.int (2 ^ 256) t') (.int z t)) Q E s := by
  refine lt_int ?_
  rw [if_min] at hm
  rw [decide_eq_true (by rw [hm.eq]; exact hlt)]
  exact h
end
end Mine
end
section
open PySem PySem.W PyProof.Rows PySem.Calls
namespace Mine
set_option maxRecDepth 100000
set_option maxHeartbeats 40000000
local macro_rules | `(tactic| cell_enter) => `(tactic| (refine' code_def ?k1 ?k2 ?k3 ?k4 ?k5 ?kA ?kF ?kK ?k6 ?k7 ?k8 ?k9 ?kB ?_ ?c2 ?c3 ?c4 ?c5; (case kA => exact rfl); (case kF => exact rfl); (case kK => first | exact rfl | assumption); (case k1 => k_asm); (case k2 => k_asm); (case k3 => k_asm); (case k4 => k_asm); (case k5 => k_asm); (case k6 => k_is); (case k7 => k_is); (case k8 => ktr_room); (case k9 => first | exact BindsTo.of_eq rfl | exact binds_K (by k_in) rfl (by k_is) rfl rfl rfl); (case c5 => decide); (case kB => exact locs rfl); (case c2 => exact rfl); (case c3 => exact rfl); (case c4 => exact rfl); k_whole; intro g' L' h' FG' F' N' B' X' T'; (try dsimp only); (try k_lift B'); (try k_fold)))
local macro_rules | `(tactic| walk_at "call ref") => `(tactic| (k_here; (refine wpAny_call ?_); k_dflt cell_enter))
local macro_rules | `(tactic| walk_at "callWith ref") => `(tactic| (k_here; (with_reducible show wpAny _ _ (callWith _ (Value.ref _) _ (backTo _ (starEach (_ :: _) _)) (backToKw _ (keywordEach (_ :: _) _))) _ _ _); kfb_any; k_dflt (refine' callWith_bound_kw ?kfbN ?kfbM ?_; (case kfbN => k_asm); (case kfbM => k_mem); k_whole)))
local macro_rules | `(tactic| walk_at "callWith") => `(tactic| (k_here; (with_reducible show wpAny _ _ (callWith _ (Value.builtin _) (_ :: _) (backTo _ (starEach (_ :: _) _)) (backToKw _ (keywordEach (_ :: _) _))) _ _ _); k_dflt (refine callWith_method_kw ?_)))
local macro_rules | `(tactic| walk_at "call ref") => `(tactic| (k_here; (with_reducible show wpAny _ _ (call (Value.ref _) (Value.bytes _ _ :: _) _) _ _ _); kfb_any; k_dflt (first
  | (refine fb_call2 (by k_asm) (by k_mem) (by first | exact fb3 (by assumption) | exact Be32.val (by assumption)) (by first | exact fb3s (by assumption) | exact Be32.size64 (by assumption)) ?_)
  | (refine fb_call3 (by k_asm) (by k_mem) (by first | exact fb3 (by assumption) | exact Be32.val (by assumption)) (by first | exact fb3s (by assumption) | exact Be32.size64 (by assumption)) ?_)
  | (refine fb_call1 (by k_asm) (by k_mem) (by first | exact fb3 (by assumption) | exact Be32.val (by assumption)) (by first | exact fb3s (by assumption) | exact Be32.size64 (by assumption)) ?_)); intro _ _))
local macro_rules | `(tactic| walk_at "call type:bytes") => `(tactic| (k_here; (with_reducible show wpAny _ _ (call (Value.type _) [Value.bytes _ _]) _ _ _); (refine call_bytes_bytes ?_)))
local macro_rules | `(tactic| walk_at "call builtin:len") => `(tactic| (k_here; (with_reducible show wpAny _ _ (call (Value.builtin "len") [Value.bytes _ _]) _ _ _); first | (refine len4 (by assumption) ?_) | (refine Be32.len (by assumption) ?_)))
local macro_rules | `(tactic| walk_at "subscriptTail") => `(tactic| (k_here; (with_reducible show wpAny _ _ (subscriptTail _ _ (Value.bytes _ _) (Value.int _ _)) _ _ _); (first | refine item4_0 (by assumption) ?_ | refine item4_1 (by assumption) ?_); intro _ _))
local macro_rules | `(tactic| walk_at "subscriptTail") => `(tactic| (k_here; (with_reducible show wpAny _ _ (subscriptTail _ (Expr.Slice _ _ none _) (Value.bytes _ _) (Value.ref _)) _ _ _); (with_reducible rename Fr _ _ _ _ => F'); (with_reducible rename News _ _ _ _ => N'); (first | refine slice4_1 (s := ⟨_, _, _, _, _⟩) F' N' (by assumption) ?_ | refine slice4_2 (s := ⟨_, _, _, _, _⟩) F' N' (by assumption) ?_); intro _ _ _ _ _ _ kbcK))
local macro_rules | `(tactic| walk_at "binaryOp BitAnd int int") => `(tactic| (k_here; (first | (with_reducible refine mask_int ?_) | (with_reducible refine sign_int ?_))))
local macro_rules | `(tactic| walk_at "binaryOp LShift int int") => `(tactic| (k_here; (with_reducible refine shl_mask ?kb1 ?kb2 ?_); (case kb1 => omega); (case kb2 => omega)))
local macro_rules | `(tactic| k_mem) => `(tactic| assumption)
local macro_rules | `(tactic| k_all) => `(tactic| assumption)
local macro_rules | `(tactic| walk_at "call type:bytes") => `(tactic| (k_here; (with_reducible show wpAny _ _ (call (Value.type _) [Value.ref _]) _ _ _); k_dflt (refine' call_b1 ?bH ?bF ?bN ?bm ?b0 ?b1 ?_; (case bF => k_asm); (case bN => k_asm); (case bm => k_mem); (case bH => first | exact HN.none | exact HN.more (by assumption) (by intro p hp; repeat' (first | exact hp | refine List.Mem.tail _ ?_ | refine List.mem_append.mpr (Or.inr ?_)))); (case b0 => omega); (case b1 => omega)); intro _ _ _ _ F' N' hb1'))
local macro_rules | `(tactic| walk_at "binaryOp Add bytes bytes") => `(tactic| (k_here; (refine cat13 (by assumption) (by first | assumption | exact Eq.trans (by assumption) (little3 _)) ?_); intro _ _ _ hcat'))
local macro_rules | `(tactic| walk_at "getMethod bytes") => `(tactic| (k_here; (refine hex_method ?_)))
local macro_rules | `(tactic| walk_at "pyIter ref") => `(tactic| (k_here; (with_reducible show wpAny _ _ (pyIter (Value.ref _)) (fun it s₂ => LoopAtV _ _ _ _ _ _ _ _ _ it s₂) _ _); (with_unfolding_all refine' iter_tup1 ?tH ?tF ?tN ?tm ?tc ?td (fun own' h' tk' F' N' => ?_) (fun h' tk' F' N' => ?_); (case tF => k_asm); (case tN => k_asm); (case tm => k_mem); (case tc => exact rfl); (case td => exact rfl); (case tH => first | exact HN.none | exact HN.more (by assumption) (by intro p hp; repeat' (first | exact hp | refine List.Mem.tail _ ?_ | refine List.mem_append.mpr (Or.inr ?_))))); (all_goals (try k_fold))))
local macro_rules | `(tactic| walk_at "exec For Name Name cons nil") => `(tactic| (k_here; (rename Fr _ _ _ _ => lF'); (with_unfolding_all refine' For_invVF lF' ?k1 ?k2 ?_; (case k1 => exact rfl); (case k2 => exact rfl); k_whole)))
local macro_rules | `(tactic| walk_at "call builtin:bytes.hex") => `(tactic| (k_here; (refine hex4 (by assumption) ?_); intro _ _ _ hhx'))
local macro_rules | `(tactic| walk_at "formatField str") => `(tactic| (k_here; (with_reducible refine fmt8 (by assumption) ?_); intro _ _))
local macro_rules | `(tactic| walk_at "exec Raise some none") => `(tactic| (k_here; (with_reducible show wpAny _ _ (exec (Stmt.Raise (some (Expr.Call (Expr.Name _ _) (_ :: _) [] _)) none _) _) _ _ _); k_dflt (refine' Raise_dia ?F ?g ?O ?h ?_ ?a ?b ?c ?d ?e; (case F => k_asm); (case g => exact TopRead.g (by k_asm)); (case O => exact own_of_in (by k_asm) (by k_asm) (by k_is) (by k_exc)); (case h => first | rfl | assumption); (case a => rfl); (case b => rfl); (case c => rfl); (case d => rfl); (case e => decide); k_whole)))
local macro_rules | `(tactic| walk_at "binaryOp Pow int int") => `(tactic| (k_here; first | (with_reducible refine pow_256_32 ?_) | (with_reducible refine pow_2_256 ?_) | (with_reducible refine pow_2_23 ?_) | (with_reducible refine pow_2_24 ?_) | (with_reducible refine pow_2_14 ?_) | ((with_reducible refine pow_h ?p0 ?p1 ?_); (case p0 => omega); (case p1 => omega); intro _ _ _ hP' hSm' hP1' hP2')))
local macro_rules | `(tactic| walk_at "binaryOp Mult int int") => `(tactic| (k_here; (with_reducible refine mul_h ?m0 ?m1 ?_); (case m0 => first | assumption | exact Sm.of (by omega) (by omega)); (case m1 => first | assumption | exact Sm.of (by omega) (by omega)); intro _ _ _ hM' hM0'))
local macro_rules | `(tactic| walk_at "binaryOp FloorDiv int int") => `(tactic| (k_here; (with_reducible refine div_h ?d0 ?d1 ?d2 ?_); (case d0 => omega); (case d1 => first | assumption | exact Sm.of (by omega) (by omega)); (case d2 => omega); intro _ _ _ hD' hD0' hD1'))
local macro_rules | `(tactic| walk_at "execs cons") => `(tactic| (k_here; dsimp only))
local macro_rules | `(tactic| walk_at "execs nil") => `(tactic| (k_here; dsimp only))
local macro_rules | `(tactic| walk_at "pyIter ref") => `(tactic| (k_here; (with_reducible show wpAny _ _ (pyIter (Value.ref _)) (fun it s₂ => LoopAtV _ _ _ _ _ _ _ _ _ it s₂) _ _); k_dflt (refine' iter_state (x := PySem.Str.ofString "k") (y₁ := PySem.Str.ofString "form") (y₂ := PySem.Str.ofString "value") (y₃ := PySem.Str.ofString "number") (y₄ := PySem.Str.ofString "plain") ?ih ?ir ?ib0 ?ib1 ?iS ?iF ?iN (fun _ _ i' _ u' h' tok' own' hi1' hi2' hS' F' N' => ?_) (fun i' _ u' h' tok' hi1' hi2' F' N' => ?_); (case ih => rfl); (case ir => assumption); (case iF => k_asm); (case iN => k_asm); (case ib0 => omega); (case ib1 => omega); (case iS => first | assumption | exact stOk_of (by assumption) (by assumption))); (all_goals (try k_fold))))
local macro_rules | `(tactic| walk_at "call ref") => `(tactic| (k_here; (with_reducible show wpAny _ _ (call (Value.ref 129) [Value.bytes _ _]) _ _ _); k_dflt (refine' valF_use ?fb ?fXB ?fTB ?k1 ?k2 ?k3 ?k4 ?k5 ?kK ?kd ?ku ?_ ?_; (case fb => with_reducible assumption); (case k1 => k_asm); (case k2 => k_asm); (case k3 => k_asm); (case k4 => k_asm); (case k5 => k_asm); (case kK => first | exact rfl | assumption); (case kd => ktr_room); (case ku => ktr_units); (case fXB => k_asm); (case fTB => k_asm)); (all_goals intro) ))
local macro_rules | `(tactic| walk_at "binaryOp FloorDiv int int") => `(tactic| (k_here; (with_reducible refine div_h ?d0 ?d1 ?d2 ?_); (case d0 => omega); (case d1 => first | assumption | exact Sm.of (by omega) (by omega)); (case d2 => omega); intro _ _ _ hD' hD0' hD1'; (have hz' := plain_if hD' (by assumption) (by assumption) (by assumption) (by omega) (by omega) (by omega)); subst hz'))
local macro_rules | `(tactic| walk_at "binaryOp BitOr int int") => `(tactic| (k_here; (with_reducible refine bit_or_128 ?o0 ?o1 ?_); (case o0 => omega); (case o1 => omega)))
local macro_rules | `(tactic| walk_at "call type:bytes") => `(tactic| (k_here; (with_reducible show wpAny _ _ (call (Value.type _) [Value.ref _]) _ _ _); k_dflt (refine' call_b2 ?bH ?bF ?bN ?bm ?b0 ?b1 ?b2 ?b3 ?_; (case bF => k_asm); (case bN => k_asm); (case bm => k_mem); (case bH => rfl); (case b0 => omega); (case b1 => omega); (case b2 => omega); (case b3 => omega)); intro _ _ _ _ F' N' hb2'))
local macro_rules | `(tactic| walk_at "binaryOp Add bytes bytes") => `(tactic| (k_here; (refine cat22 (by assumption) (by assumption) ?_); intro _ _ _ hcat'))
local macro_rules | `(tactic| walk_at "call ref") => `(tactic| (k_here; (with_reducible show wpAny _ _ (call (Value.ref 122) [Value.ref _]) _ _ _); k_dflt (refine' tellS_use (target_tellS _ _ _ _ _ _ _ _ _ _ ?hS ?h0 ?h1) ?k1 ?k2 ?k3 ?k4 ?k5 ?kK ?kd ?ku ?_; (case hS => first | assumption | exact stOk_of (by assumption) (by assumption)); (case k1 => k_asm); (case k2 => k_asm); (case k3 => k_asm); (case k4 => first | k_asm | exact cb_drop (by assumption) (by kcj_all)); (case k5 => k_asm); (case kK => first | exact rfl | assumption); (case kd => ktr_room); (case ku => ktr_units); (case h0 => omega); (case h1 => omega)); intro _ i' _ h' tk' hi1' hi2' F' N' hr'; obtain ⟨_, _, hr', hv0', hv1'⟩ := hr'; subst hr'))
local macro_rules | `(tactic| walk_at "call ref") => `(tactic| (k_here; (with_reducible show wpAny _ _ (call (Value.ref 115) [Value.ref _, Value.int _ _]) _ _ _); k_dflt (refine' tellS_use (next_tell _ _ _ _ _ _ _ _ _ _ ?hS _ _ ?hl ?h0 ?h1) ?k1 ?k2 ?k3 ?k4 ?k5 ?kK ?kd ?ku ?_; (case hS => first | assumption | exact stOk_of (by assumption) (by assumption)); (case k1 => k_asm); (case k2 => k_asm); (case k3 => k_asm); (case k4 => first | k_asm | exact cb_drop (by assumption) (by kcj_all)); (case k5 => k_asm); (case kK => first | exact rfl | assumption); (case kd => ktr_room); (case ku => ktr_units); (case hl => first | decide | omega); (case h0 => omega); (case h1 => omega)); intro _ i' _ h' tk' hi1' hi2' F' N' hr'; obtain ⟨_, _, hr', hv0', hv1'⟩ := hr'; subst hr'))
local macro_rules | `(tactic| walk_at "call ref") => `(tactic| (k_here; (with_reducible show wpAny _ _ (call (Value.ref 143) [Value.ref _, Value.bytes _ _]) _ _ _); k_dflt (refine' tellS_use (form143 _ _ _ _ _ _ _ _ _ _ ?hS ?h0 ?h1 _ _ _ ?hb) ?k1 ?k2 ?k3 ?k4 ?k5 ?kK ?kd ?ku ?_; (case hb => assumption); (case hS => first | assumption | exact stOk_of (by assumption) (by assumption)); (case k1 => k_asm); (case k2 => k_asm); (case k3 => k_asm); (case k4 => first | k_asm | exact cb_drop (by assumption) (by kcj_all)); (case k5 => k_asm); (case kK => first | exact rfl | assumption); (case kd => ktr_room); (case ku => ktr_units); (case h0 => omega); (case h1 => omega)); intro _ i' _ h' tk' hi1' hi2' F' N' hr'; obtain ⟨_, _, _, _, _, _, hr', hb', he', hx'⟩ := hr'; subst hr'; (have hin' := in4 hb')))
local macro_rules | `(tactic| walk_at "call ref") => `(tactic| (k_here; (with_reducible show wpAny _ _ (call (Value.ref 136) [Value.int _ _]) _ _ _); k_dflt (refine' tell_use (own136 _ _ _ _ _ _ ?hH _ _ ?ha ?hb) ?k1 ?k2 ?k3 ?k4 ?k5 ?kK ?kd ?ku ?_; (case k1 => k_asm); (case k2 => k_asm); (case k3 => k_asm); (case k4 => k_asm); (case k5 => k_asm); (case kK => first | exact rfl | assumption); (case kd => ktr_room); (case ku => ktr_units); (case ha => first | assumption | omega); (case hb => first | assumption | omega); (case hH => first | exact HN.none | exact Got2.hn (by assumption) (by intro p hp; repeat' (first | exact hp | refine List.Mem.tail _ ?_ | refine List.mem_append.mpr (Or.inr ?_))))); intro _ h' tk' F' N' hr'; obtain ⟨_, _, hr', hq'⟩ := hr'; subst hr'))
local macro_rules | `(tactic| walk_at "call ref") => `(tactic| (k_here; (with_reducible show wpAny _ _ (call (Value.ref 129) [Value.bytes _ _]) _ _ _); k_dflt (refine' tell_use (val129 _ _ _ _ _ _ ?hH _ _ _ ?hb) ?k1 ?k2 ?k3 ?k4 ?k5 ?kK ?kd ?ku ?_; (case hb => assumption); (case k1 => k_asm); (case k2 => k_asm); (case k3 => k_asm); (case k4 => k_asm); (case k5 => k_asm); (case kK => first | exact rfl | assumption); (case kd => ktr_room); (case ku => ktr_units); (case hH => first | exact HN.none | exact Got2.hn (by assumption) (by intro p hp; repeat' (first | exact hp | refine List.Mem.tail _ ?_ | refine List.mem_append.mpr (Or.inr ?_))))); intro _ h' tk' F' N' hr'; obtain ⟨_, hr', hn0', hn1'⟩ := hr'; subst hr'))
local macro_rules | `(tactic| walk_at "call ref") => `(tactic| (k_here; (with_reducible show wpAny _ _ (call (Value.ref 94) [Value.bytes _ _]) _ _ _); k_dflt ((first | (refine' tell_use (neg94 _ _ _ _ _ _ ?hH _ _ _ ?hb) ?k1 ?k2 ?k3 ?k4 ?k5 ?kK ?kd ?ku ?_; (case hb => assumption)) | (refine' tell_use (neg94s _ _ _ _ _ _ ?hH _ _ _ _ _ _ ?hb ?hx) ?k1 ?k2 ?k3 ?k4 ?k5 ?kK ?kd ?ku ?_; (case hb => with_reducible assumption); (case hx => omega)) | (refine' tell_use (neg94f _ _ _ _ _ _ ?hH _ _ _ _ _ _ ?hb ?hx) ?k1 ?k2 ?k3 ?k4 ?k5 ?kK ?kd ?ku ?_; (case hb => with_reducible assumption); (case hx => omega))); (case k1 => k_asm); (case k2 => k_asm); (case k3 => k_asm); (case k4 => k_asm); (case k5 => k_asm); (case kK => first | exact rfl | assumption); (case kd => ktr_room); (case ku => ktr_units); (case hH => first | exact HN.none | exact Got2.hn (by assumption) (by intro p hp; repeat' (first | exact hp | refine List.Mem.tail _ ?_ | refine List.mem_append.mpr (Or.inr ?_))))); intro _ h' tk' F' N' hr'; subst hr'))
local macro_rules | `(tactic| walk_at "compareOp NotEq bytes bytes") => `(tactic| (k_here; (with_reducible refine' ne_same ?ha ?hb ?_); (case ha => assumption); (case hb => assumption)))
local macro_rules | `(tactic| walk_at "exec Return some") => `(tactic| (k_here; (with_reducible show wpAny _ _ (exec (Stmt.Return (some (Expr.Constant (Const.bool false) _ _)) _) _) _ _ _); exfalso; first | omega | exact kill_f (by assumption) (by assumption) | exact kill_t (by assumption) (by assumption) | exact kill_le (by assumption) (by assumption) (by assumption) (by assumption) | exact kill_form (by assumption) (by assumption) (by assumption) (by assumption) | exact kill_mono' (by assumption) (by omega) (by assumption) (by assumption) | exact kill_sg (by assumption) | exact kill_sg' (by assumption) | fail "no kill"))
local macro_rules | `(tactic| walk_at "exec If") => `(tactic| (k_here; (with_reducible show wpAny _ _ (exec (Stmt.If (Expr.BoolOp _ [Expr.BoolOp _ _ _, Expr.BoolOp _ _ _] _) _ [] _) _) _ _ _); (with_reducible rename Fr _ _ _ _ => F'); (with_reducible rename News _ _ _ _ => N'); refine' cut_If F' N' ?_ (fun h' tk' F' N' => ?_)))
local macro_rules | `(tactic| walk_at "call builtin:sorted") => `(tactic| (k_here; (with_reducible show wpAny _ _ (call (Value.builtin _) [Value.ref _]) _ _ _); k_dflt (refine' sorted2 ?k1 ?k2 ?k3 ?_; (case k1 => k_asm); (case k2 => k_asm); (case k3 => k_mem)); intro D' _ _ _ h' F' N' l1; (try k_lt l1)))
local macro_rules | `(tactic| walk_at "pyIter ref") => `(tactic| (k_here; (with_reducible show wpAny _ _ (pyIter (Value.ref _)) (fun it s₂ => LoopAtV _ _ _ _ _ (Str.ofString "number") _ _ _ it s₂) _ _); k_dflt (refine' iter_works' ?wh ?wF ?wN ?wD ?wW ?wne ?wv0 ?wv1 ?wu0 ?wu1 (fun _ _ _ _ rest' h' tok' hx0' hx1' hoff' hsz' F' N' => ?_) (fun _ _ u' h' tok' F' N' => ?_) (fun _ _ _ _ _ u' h' tok' hle' hf1' hf2' hw0' hw1' F' N' => ?_); (case wh => rfl); (case wF => k_asm); (case wN => k_asm); (case wD => k_mem); (case wW => k_mem); (case wne => first | omega | (apply Nat.ne_of_gt; omega)); (case wv0 => omega); (case wv1 => omega); (case wu0 => omega); (case wu1 => omega)); (all_goals (try k_fold))))
local macro_rules | `(tactic| walk_at "call ref") => `(tactic| (k_here; (with_reducible show wpAny _ _ (call (Value.ref 87) [Value.bytes _ _]) _ _ _); k_dflt (refine' tell_use (target87 _ _ _ _ _ _ ?hH _ _ _ ?hb) ?k1 ?k2 ?k3 ?k4 ?k5 ?kK ?kd ?ku ?_; (case hb => assumption); (case k1 => k_asm); (case k2 => k_asm); (case k3 => k_asm); (case k4 => k_asm); (case k5 => k_asm); (case kK => first | exact rfl | assumption); (case kd => ktr_room); (case ku => ktr_units); (case hH => exact HN.none)); intro _ h' tk' F' N' hr'; obtain ⟨_, _, hr', hq'⟩ := hr'; subst hr'))
local macro_rules | `(tactic| walk_at "call ref") => `(tactic| (k_here; (with_reducible show wpAny _ _ (call (Value.ref 108) [Value.bytes _ _]) _ _ _); first
  | (k_dflt (refine' tell_use (work108 _ _ _ _ _ _ ?hH _ _ _ ?hb ?hne) ?k1 ?k2 ?k3 ?k4 ?k5 ?kK ?kd ?ku ?_; (case hb => assumption); (case hne => assumption); (case k1 => k_asm); (case k2 => k_asm); (case k3 => k_asm); (case k4 => k_asm); (case k5 => k_asm); (case kK => first | exact rfl | assumption); (case kd => ktr_room); (case ku => ktr_units); (case hH => exact HN.none)); intro _ h' tk' F' N' hr'; obtain ⟨_, _, hr', hq'⟩ := hr'; subst hr')
  | ((have hz' := (by assumption : nearI _ = 0)); clear hz'; (refine wpAny_call ?_); k_dflt cell_enter)
  | ((with_reducible rename OwnOf _ _ => hOw); refine em_of hOw (fun hz' hl' => ?_) (fun hz' => ?_))))
local macro_rules | `(tactic| walk_at "leaving ref") => `(tactic| (k_here; (refine' leave2 ?k1 ?kM ?k2 ?k3 ?_; (case kM => first | assumption | exact Heap.MadeExc.of (by assumption)); (case k1 => assumption); (case k2 => assumption); (case k3 => k_asm); k_whole); intro h' t' R' U'; (try dsimp only at R' U' ⊢)))
local macro_rules | `(tactic| walk_at "noteFrame ref") => `(tactic| (k_here; (rename Raised2 _ _ _ _ _ _ _ _ => rkX); k_dflt (refine' caught2 (bmB := [.type "ValueError", .type "Exception", .type "BaseException", .type "object"]) (newId := "Exception.__new__") ?K ?F ?U ?R ?X ?T ?ex ?q ?hb ?_; (case K => assumption); (case F => assumption); (case U => assumption); (case R => exact rkX); (case X => k_asm); (case T => k_asm); (case ex => k_is); (case q => k_exc); (case hb => rfl); k_whole); intro h' n₂ F' N' G'))
local macro_rules | `(tactic| walk_at "call builtin:list.append") => `(tactic| (k_here; (with_reducible show wpAny _ _ (call (Value.builtin _) [Value.ref _, _]) _ _ _); k_dflt (refine' append_W ?ao ?az ?aF ?aN ?ak ?_; (case ao => assumption); (case az => assumption); (case aF => k_asm); (case aN => k_asm); (case ak => kcj_all)); intro h' F' N'))
local macro_rules | `(tactic| walk_at "subscriptTail") => `(tactic| (k_here; first | ((with_reducible show wpAny _ _ (subscriptTail _ _ (Value.ref _) (Value.int 0 _)) _ _ _); k_dflt (refine' item_w0 ?wN ?wm ?_; (case wN => k_asm); (case wm => k_mem))) | ((with_reducible show wpAny _ _ (subscriptTail _ _ (Value.ref _) (Value.int 1 _)) _ _ _); k_dflt (refine' item_w1 ?wN ?wm ?_; (case wN => k_asm); (case wm => k_mem)))))
local macro_rules | `(tactic| walk_at "subscriptTail Name Constant ref int") => `(tactic| (k_here; first | ((with_reducible show wpAny _ _ (subscriptTail _ _ (Value.ref _) (Value.int 0 _)) _ _ _); k_dflt (refine' item_w0 ?wN ?wm ?_; (case wN => k_asm); (case wm => k_mem))) | ((with_reducible show wpAny _ _ (subscriptTail _ _ (Value.ref _) (Value.int 1 _)) _ _ _); k_dflt (refine' item_w1 ?wN ?wm ?_; (case wN => k_asm); (case wm => k_mem)))))
local macro_rules | `(tactic| walk_at "binaryOp Mult int int") => `(tactic| (k_here; (with_reducible refine mul_h ?m0 ?m1 ?_); (case m0 => first | with_reducible assumption | exact Sm.wide (by omega) (by omega)); (case m1 => first | with_reducible assumption | exact Sm.wide (by omega) (by omega)); intro _ _ _ hM' hM0'))
local macro_rules | `(tactic| walk_at "compareOp LtE int int") => `(tactic| (k_here; (with_reducible show wpAny _ _ (compareOp _ _ (Value.int (2 ^ 256) _)) _ _ _); refine le_fin (by assumption) (by assumption) ?_))
local macro_rules | `(tactic| walk_at "compareOp Lt int int") => `(tactic| (k_here; (with_reducible show wpAny _ _ (compareOp _ (Value.int (2 ^ 256) _) _) _ _ _); refine lt_fin (by assumption) (by assumption) ?_))
local macro_rules | `(tactic| k_in) => `(tactic| first | k_in_fast | exact Frag.In.keeps (by k_asm) (Fr.keep (by k_asm)))
local macro_rules | `(tactic| kcj_all) => `(tactic| kcj_in)
theorem law_holds : PySem.Challenge.rw_fc0025_01.Holds := Mine.hd (by
  k_go0
  k_steps
  all_goals first
    | ((with_reducible show CutEnd _ _ _ _ _ _ _); first | exact ⟨rfl, _, _, rfl, by assumption, by assumption⟩ | (exfalso; exact kill_mono' (by assumption) (by omega) (by assumption) (by assumption)))
    | ((with_reducible show WorkEnd _ _ _ _ _ _ _ _ _ _ _ _); refine ⟨rfl, _, _, _, _, rfl, ?wow, (by assumption), (cb_drop (by assumption) (by kcj_all))⟩; (case wow => first | exact .inl ⟨by assumption, rfl⟩ | exact .inr ⟨by assumption, _, _, rfl, by assumption⟩))
    | ((with_reducible show TurnEnd _ _ _ _ _ _ _ _ _ _ _ _ _ _ _ _); refine ⟨rfl, _, _, _, _, _, rfl, ?tea, ?teb, ?tec, (by assumption), (cb_drop (by assumption) (by repeat' (first | with_reducible exact fun _ hp => hp | with_reducible refine sub_cons ?_)))⟩; (case tea => omega); (case teb => omega); (case tec => intro z h1 h2 h3 h4 h5; simp only [h1, h2, h3, h4, h5, if_false])))
end Mine
end
set_option maxRecDepth 100000 in
set_option maxHeartbeats 8000000 in
theorem PySem.Challenge.cw_fc0025_01_holds : PySem.Challenge.rw_fc0025_01.Holds := by
  exact Mine.law_holds
