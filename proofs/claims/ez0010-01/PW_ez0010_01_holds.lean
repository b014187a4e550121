import PyProof.Rows.All
import Wide.All
import OpenK.AllK
import Wide.FinOn
import PySem.Challenge.RW_ez0010_01
open PySem PySem.W PyProof.Rows
set_option Elab.async false
set_option maxRecDepth 100000
namespace Mine
set_option maxHeartbeats 8000000 in
open_top hd for PySem.Challenge.rw_ez0010_01
section
noncomputable abbrev PG : Program := PySem.Challenge.rw_ez0010_01.row.prog
noncomputable abbrev KK (w : World) : Frag := hd.heap_39 w.params
noncomputable abbrev LO : List Str := looseW hd.view_39 [Str.ofString "BTClibValueError", Str.ofString "BTClibTypeError", Str.ofString "bytes_from_octets"]
/-- What a call of the def at `f` upon `vs` hands back: some value of `R`, the frame and the ledger as they stood. -/
abbrev CB (w : World) (mean : ExcName → Option Value) (mg mb : Str → Option Value) (n : Nat) (f : Addr) (vs : List Value) (R : Value → Prop) : Prop :=
  ∀ (news : List (Addr × Obj)) (dp un : Nat) (gd : Option (List Code)) (cn : Str) (cs : Scope) (a : Addr) (ccd : Value) (cl : List (Str × Addr)) (outer : List Env) (A₀ : Around) (base h₀ : Heap) (L : Addr) (m : Str → Option Value) (s : Shared) (Q E : Value → Shared → Prop),
    Below A₀ base outer h₀ → Fr h₀ L s.heap m → (KK w).In h₀ → News h₀ L s.heap news → Top hd.view_39 LO mean mg mb h₀ → cs.kind = .function → dp + n < recursionLimit → un + 16 * n < cLine →
      (∀ (v : Value) (h' : Heap) (tk' : Nat), R v → Fr h₀ L h' m → News h₀ L h' news → Q v { s with heap := h', toks := tk' }) →
      wpAny (model PG w) (ktrTop dp un gd cn cs L a ccd cl outer) (call (.ref f) vs) Q E s
theorem CB.use {w : World} {mean : ExcName → Option Value} {mg mb : Str → Option Value} {n : Nat} {f : Addr} {vs : List Value} {R : Value → Prop} (C : CB w mean mg mb n f vs R)
    {news : List (Addr × Obj)} {dp un : Nat} {gd : Option (List Code)} {cn : Str} {cs : Scope} {a : Addr} {ccd : Value} {cl : List (Str × Addr)} {outer : List Env} {A₀ : Around} {base h₀ : Heap} {L : Addr} {m : Str → Option Value} {s : Shared} {Q E : Value → Shared → Prop}
    (B : Below A₀ base outer h₀) (F : Fr h₀ L s.heap m) (X : (hd.heap_39 w.params).In h₀) (N : News h₀ L s.heap news)
    (T : Top hd.view_39 (looseW hd.view_39 [Str.ofString "BTClibValueError", Str.ofString "BTClibTypeError", Str.ofString "bytes_from_octets"]) mean mg mb h₀) (hk : cs.kind = .function) (hd : dp + n < recursionLimit) (hu : un + 16 * n < cLine)
    (k : ∀ (v : Value) (h' : Heap) (tk' : Nat), R v → Fr h₀ L h' m → News h₀ L h' news → Q v { s with heap := h', toks := tk' }) :
    wpAny (model PySem.Challenge.rw_ez0010_01.row.prog w) (ktrTop dp un gd cn cs L a ccd cl outer) (call (.ref f) vs) Q E s := C _ _ _ _ _ _ _ _ _ _ _ _ _ _ _ _ _ _ B F X N T hk hd hu k
end
section
section
variable {prog : Program} {w : World} {M : Model} {A : Around} {E : Value → Shared → Prop} {s : Shared}

/-! ## bool << int -/
theorem lshift_bool_int {p : Bool} {n : Int} {u : Tok} {Q : Value → Shared → Prop} (hn : 0 ≤ n) (hsz : n ≤ 1000) (h : Q (.int ((if p = true then 1 else 0) * 2 ^ n.toNat) s.toks) { s with toks := s.toks + 1 }) :
    wpAny (model prog w) A (binaryOp .LShift (.bool p) (.int n u)) Q E s := by
  refine wpAny_binaryOp_two (op := .LShift) (T := "bool") (U := "int") (idl := "int.__lshift__") (idr := "int.__rlshift__") (by decide) rfl (fun s' => typeIs_int s' n u) F.fills_bool_lshift F.fills_int_lshift F.sub_int_bool F.slot_bool_lshift F.slot_int_rlshift ?_
  refine wpAny_call_entry F.slot_bool_lshift rfl F.entry_int_lshift ?_ (F.args_int_lshift_2 _ _)
  cases p with
  | false =>
    show wpAny _ _ (if n < 0 then _ else _) _ _ s
    rw [if_neg (by omega)]
    show wpAny _ _ (if ((0 : Int) == 0) = true then _ else _) _ _ s
    rw [if_pos (by decide)]
    have e : (if false = true then (1 : Int) else 0) * 2 ^ n.toNat = 0 := by simp
    rw [e] at h
    repeat (first | refine wpAny_pure ?_ | refine wpAny_mkInt ?_ | refine wpAny_rule ?_ | refine wpAny_bind ?_)
    exact ⟨_, rfl, .inl ⟨by simp, h⟩⟩
  | true =>
    show wpAny _ _ (if n < 0 then _ else _) _ _ s
    rw [if_neg (by omega)]
    show wpAny _ _ (if ((1 : Int) == 0) = true then _ else _) _ _ s
    rw [if_neg (by decide)]
    have hb : Builtin.Int.intBits 1 = 1 := by decide
    have h3 : ¬ (((Builtin.Int.intBits 1 : Int) + 29) / 30 + n / 30 + (if n % 30 == 0 then 0 else 1) > Builtin.maxDigits) := by
      unfold Builtin.maxDigits
      rw [hb]
      split <;> omega
    show wpAny _ _ (if ((Builtin.Int.intBits 1 : Int) + 29) / 30 + n / 30 + (if n % 30 == 0 then 0 else 1) > Builtin.maxDigits then _ else _) _ _ s
    rw [if_neg h3]
    have hbig : Builtin.Int.intTooBig ((Builtin.Int.intBits 1 : Int) + n) = false := decide_eq_false (by rw [hb]; unfold bitsLine; omega)
    show wpAny _ _ (if Builtin.Int.intTooBig ((Builtin.Int.intBits 1 : Int) + n) = true then _ else _) _ _ s
    rw [if_neg (by rw [hbig]; exact Bool.false_ne_true)]
    simp only [if_true] at h
    repeat (first | refine wpAny_pure ?_ | refine wpAny_mkInt ?_ | refine wpAny_rule ?_ | refine wpAny_bind ?_)
    exact ⟨_, rfl, .inl ⟨by simp, h⟩⟩

/-! ## int.to_bytes(n, byteorder="little", signed=False) -/
abbrev kwLS (u : Tok) : List (Str × Value) := [(PySem.Str.ofString "byteorder", .str (PySem.Str.ofString "little") u), (PySem.Str.ofString "signed", .bool false)]
theorem args_to_bytes (x : Int) (n : Int) (t u v : Tok) : argsOk "int.to_bytes" ⟨[.int x t, .int n u], kwLS v⟩ := by unfold argsOk; kernel_rfl
theorem to_little_kw {x : Int} {k : Nat} {t u v : Tok} {Q : Value → Shared → Prop} (hk : k ≤ 100) (h0 : 0 ≤ x) (h1 : x < 256 ^ k) (h : ∀ (b : Array UInt8) t' k', KBw.bInts b = KTBy.little k x → Q (.bytes b t') { s with toks := k' }) :
    wpAny (model prog w) A (call (.builtin "int.to_bytes") [.int x t, .int (k : Int) u] (kwLS v)) Q E s := by
  refine wpAny_call_entry_kw KTBy.slot (typeIs_int s x t) KTBy.entry ?_ (args_to_bytes _ _ _ _ _)
  have hb := KTBy.bits_le (x := x) (k := k) rfl h0 h1
  show wpAny _ _ (Builtin.Int.intOfSelf (.int x t) >>= fun y => _) _ _ s
  refine wpAny_bind (wpAny_of_eq (a := x) rfl ?_)
  show wpAny _ _ (Builtin.Int.intBindNamed "to_bytes" ["length", "byteorder", "signed"] 0 2 [.int (k : Int) u] (kwLS v) >>= fun l => _) _ _ s
  refine wpAny_bind (wpAny_of_eq (a := [some (.int (k : Int) u), some (.str (PySem.Str.ofString "little") v), some (.bool false)]) (by kernel_rfl) ?_)
  show wpAny _ _ (Builtin.Int.intIndex "int.to_bytes" (.int (k : Int) u) >>= fun n => _) _ _ s
  refine wpAny_bind (wpAny_of_eq (a := (k : Int)) rfl ?_)
  refine KTBy.if_not (by show (decide ((k : Int) < -(2 ^ 63 : Int)) || decide ((k : Int) ≥ 2 ^ 63)) = false; rw [decide_eq_false (show ¬ ((k : Int) < -(2 ^ 63 : Int)) by omega), decide_eq_false (show ¬ ((k : Int) ≥ 2 ^ 63) by omega)]; rfl) ?_
  refine wpAny_bind (wpAny_of_eq (a := PySem.Str.ofString "little") (by kernel_rfl) ?_)
  refine wpAny_bind (wpAny_of_eq (a := false) (by kernel_rfl) ?_)
  refine wpAny_bind (wpAny_of_eq (a := true) (by kernel_rfl) ?_)
  refine wpAny_ite_false (decide_eq_false (show ¬ ((k : Int) < 0) by omega)) ?_
  refine wpAny_ite_false (decide_eq_false (show ¬ ((k : Int) > 2 ^ 63 - 1 - 33) by omega)) ?_
  refine wpAny_ite_false (decide_eq_false (show ¬ ((k : Int) > (sizeLine : Int)) by rw [sizeLine_eq]; omega)) ?_
  refine KTBy.if_not (by show (decide (x < 0) && !false) = false; rw [decide_eq_false (show ¬ x < 0 by omega)]; rfl) ?_
  refine KTBy.if_not (by show (_ && decide ((Builtin.Int.intBits x : Int) > 8 * (k : Int))) = false; rw [decide_eq_false (show ¬ ((Builtin.Int.intBits x : Int) > 8 * (k : Int)) by omega), Bool.and_false]) ?_
  refine wpAny_bind (wpAny_mkBytes (wpAny_pure ⟨_, rfl, h _ _ _ ?_⟩) (by show (KTBy.low x (Int.toNat (k : Int))).length ≤ sizeLine; rw [KTBy.low_length, Int.toNat_natCast, sizeLine_eq]; omega))
  show (List.map (fun c : UInt8 => ((c.toNat : Nat) : Int)) (KTBy.low x (Int.toNat (k : Int)))) = KTBy.little k x
  rw [Int.toNat_natCast, KTBy.low_ints h0 h1, ← KTBy.little_eq]

/-! ## int.from_bytes, up to 16 octets -/
abbrev kwOS (o : PySem.Str) (u : Tok) : List (Str × Value) := [(PySem.Str.ofString "byteorder", .str o u), (PySem.Str.ofString "signed", .bool false)]
theorem fb_grown {n : Nat} {Q : Value → Shared → Prop} (hn : n < 2 ^ 200) (h : Q (.int (n : Int) s.toks) { s with toks := s.toks + 1 }) : wpAny M A (mkIntGrown (n : Int)) Q E s := by
  unfold mkIntGrown
  have hl : ¬ ((n : Int).natAbs.log2 ≥ bitsLine) := by
    rw [Int.natAbs_natCast]
    have hb : bitsLine = 134217728 := by first | rfl | decide
    by_cases hz : n = 0
    · subst hz
      rw [hb]
      decide
    · have h1 := (Nat.log2_lt hz).mpr hn
      omega
  rw [if_neg hl]
  exact wpAny_mkInt h
theorem fb_small {l : List UInt8} (hl : l.length ≤ 16) : l.foldl (fun (acc : Nat) (b : UInt8) => acc * 256 + b.toNat) 0 < 2 ^ 200 := by
  have h1 := KFB.fold_lt l 0
  rw [Nat.zero_add, Nat.one_mul] at h1
  have h2 : 256 ^ l.length ≤ 256 ^ 16 := Nat.pow_le_pow_right (by decide) hl
  have h3 : (256 : Nat) ^ 16 ≤ 2 ^ 200 := by decide
  omega
theorem fb_tree {b : Array UInt8} {t u : Tok} {rest : List Value} {kw : List (Str × Value)} {o : PySem.Str} {lit : Bool} {sv : Option Value} {P : Fin → Shared → Prop}
    (hbind : Builtin.Int.intBindNamed "from_bytes" ["bytes", "byteorder", "signed"] 1 2 (.bytes b t :: rest) kw = pure [some (.bytes b t), some (.str o u), sv])
    (hord : lit = true ∧ o = PySem.Str.ofString "little" ∨ lit = false ∧ o = PySem.Str.ofString "big") (hsv : sv = none ∨ sv = some (.bool false))
    (hl : b.size ≤ 16) (h : P (.done (.ret (.int (KFB.value (if lit then (KBw.bInts b).reverse else KBw.bInts b)) s.toks))) { s with toks := s.toks + 1 }) :
    wpAny M A (Builtin.«int.from_bytes» ⟨.type "int" :: .bytes b t :: rest, kw⟩) P E s := by
  unfold Builtin.«int.from_bytes»
  refine wpAny_bind (wpAny_of_eq (a := true) KFB.type_int ?_)
  refine KFB.if_not rfl ?_
  refine wpAny_bind (wpAny_of_eq (a := true) F.conv_sub_int ?_)
  refine KFB.if_not rfl ?_
  refine wpAny_bind (wpAny_of_eq hbind ?_)
  rcases hord with ⟨rfl, rfl⟩ | ⟨rfl, rfl⟩
  · have hv : ((b.toList.reverse.foldl (fun (acc : Nat) (b : UInt8) => acc * 256 + b.toNat) 0 : Nat) : Int) = KFB.value (KBw.bInts b).reverse := by
      rw [KFB.fold_cast, List.map_reverse]
      rfl
    rcases hsv with rfl | rfl
    all_goals (
      refine wpAny_bind (wpAny_of_eq (a := PySem.Str.ofString "little") (by kernel_rfl) ?_)
      refine wpAny_bind (wpAny_of_eq (a := false) (by first | rfl | kernel_rfl) ?_)
      refine wpAny_bind (wpAny_of_eq (a := true) (by kernel_rfl) ?_)
      refine wpAny_bind (wpAny_of_eq (a := b) rfl ?_)
      show wpAny _ _ (mkIntGrown (b.toList.reverse.foldl (fun (acc : Int) (b : UInt8) => acc * 256 + (b.toNat : Int)) ((0 : Nat) : Int)) >>= fun v => _) _ _ _
      rw [KFB.foldI_eq]
      refine wpAny_bind (fb_grown (fb_small (by rw [List.length_reverse, Array.length_toList]; exact hl)) ?_)
      rw [hv]
      refine KFB.if_so (by decide +kernel) ?_
      exact wpAny_bind (wpAny_pure (wpAny_pure h)))
  · have hv : ((b.toList.foldl (fun (acc : Nat) (b : UInt8) => acc * 256 + b.toNat) 0 : Nat) : Int) = KFB.value (KBw.bInts b) := KFB.fold_cast b.toList 0
    rcases hsv with rfl | rfl
    all_goals (
      refine wpAny_bind (wpAny_of_eq (a := PySem.Str.ofString "big") (by kernel_rfl) ?_)
      refine wpAny_bind (wpAny_of_eq (a := false) (by first | rfl | kernel_rfl) ?_)
      refine wpAny_bind (wpAny_of_eq (a := false) (by kernel_rfl) ?_)
      refine wpAny_bind (wpAny_of_eq (a := b) rfl ?_)
      show wpAny _ _ (mkIntGrown (b.toList.foldl (fun (acc : Int) (b : UInt8) => acc * 256 + (b.toNat : Int)) ((0 : Nat) : Int)) >>= fun v => _) _ _ _
      rw [KFB.foldI_eq]
      refine wpAny_bind (fb_grown (fb_small (by rw [Array.length_toList]; exact hl)) ?_)
      rw [hv]
      refine KFB.if_so (by decide +kernel) ?_
      exact wpAny_bind (wpAny_pure (wpAny_pure h)))
theorem fb_call {x : Addr} {args : List Value} {kw : List (Str × Value)} {z : Int} {Q : Value → Shared → Prop} (ho : KFB.StandsAt x s.heap)
    (hcheck : checkBoundCall "int.from_bytes" ⟨.type "int" :: args, kw⟩ = pure ())
    (tree : ∀ {P : Fin → Shared → Prop} {E' : Value → Shared → Prop} {A' : Around}, P (.done (.ret (.int z s.toks))) { s with toks := s.toks + 1 } → wpAny (model prog w) A' (Builtin.«int.from_bytes» ⟨.type "int" :: args, kw⟩) P E' s)
    (h : Q (.int z s.toks) { s with toks := s.toks + 1 }) : wpAny (model prog w) A (call (.ref x) args kw) Q E s := by
  refine wpAny_call (codeAny_of_tree ?_)
  show wpAny _ A.in1 (callAny (.ref x) ⟨args, kw⟩) _ _ s
  simp only [callAny]
  refine wpAny_bind (wpAny_load ho ?_)
  simp only [KFB.bound, show (Value.type "builtin_function_or_method" == Value.type "method" || Value.type "builtin_function_or_method" == Value.type "builtin_function_or_method" || Value.type "builtin_function_or_method" == Value.type "method-wrapper") = true by decide, if_true]
  refine KFB.if_so (by decide) ?_
  refine wpAny_bind (wpAny_of_eq (a := ()) hcheck ?_)
  refine wpAny_bind (wpAny_pure (wpAny_pure ?_))
  exact ⟨KFB.quiet_fb, codeAny_builtin KFB.entry_fb (tree h)⟩
theorem fb_check_pos {b : Array UInt8} {t u : Tok} {o : PySem.Str} : checkBoundCall "int.from_bytes" ⟨[.type "int", .bytes b t, .str o u], []⟩ = pure () := by first | kernel_rfl | rfl
theorem fb_check_kw {b : Array UInt8} {t u : Tok} {o : PySem.Str} : checkBoundCall "int.from_bytes" ⟨[.type "int", .bytes b t], kwOS o u⟩ = pure () := by first | kernel_rfl | rfl
variable {h₀ : Heap} {L : Addr} {news : List (Addr × Obj)}
theorem fb_pos_big {x : Addr} {b : Array UInt8} {t u : Tok} {ks : List Int} {Q : Value → Shared → Prop} (N : News h₀ L s.heap news) (hm : (x, KFB.bound) ∈ news) (hb : KBw.bInts b = ks) (hl : ks.length ≤ 16)
    (h : ∀ t' k, Q (.int (KFB.value ks) t') { s with toks := k }) : wpAny (model prog w) A (call (.ref x) [.bytes b t, .str (PySem.Str.ofString "big") u]) Q E s := by
  subst hb
  exact fb_call (KFB.at_of N hm) fb_check_pos (fun z => fb_tree (u := u) (lit := false) (sv := none) (by kernel_rfl) (.inr ⟨rfl, rfl⟩) (.inl rfl) (by rw [← KBw.ints_length]; exact hl) z) (h _ _)
theorem fb_kw_big {x : Addr} {b : Array UInt8} {t u : Tok} {ks : List Int} {Q : Value → Shared → Prop} (N : News h₀ L s.heap news) (hm : (x, KFB.bound) ∈ news) (hb : KBw.bInts b = ks) (hl : ks.length ≤ 16)
    (h : ∀ t' k, Q (.int (KFB.value ks) t') { s with toks := k }) : wpAny (model prog w) A (call (.ref x) [.bytes b t] (kwOS (PySem.Str.ofString "big") u)) Q E s := by
  subst hb
  exact fb_call (KFB.at_of N hm) fb_check_kw (fun z => fb_tree (u := u) (lit := false) (sv := some (.bool false)) (by kernel_rfl) (.inr ⟨rfl, rfl⟩) (.inr rfl) (by rw [← KBw.ints_length]; exact hl) z) (h _ _)
theorem fb_kw_little {x : Addr} {b : Array UInt8} {t u : Tok} {ks : List Int} {Q : Value → Shared → Prop} (N : News h₀ L s.heap news) (hm : (x, KFB.bound) ∈ news) (hb : KBw.bInts b = ks) (hl : ks.length ≤ 16)
    (h : ∀ t' k, Q (.int (KFB.value ks.reverse) t') { s with toks := k }) : wpAny (model prog w) A (call (.ref x) [.bytes b t] (kwOS (PySem.Str.ofString "little") u)) Q E s := by
  subst hb
  exact fb_call (KFB.at_of N hm) fb_check_kw (fun z => fb_tree (u := u) (lit := true) (sv := some (.bool false)) (by kernel_rfl) (.inl ⟨rfl, rfl⟩) (.inr rfl) (by rw [← KBw.ints_length]; exact hl) z) (h _ _)

/-! ## keyword arguments: a bound built-in, and a built-in method -/
theorem callWith_fieldsKw {pos : Pos} {u : Addr} {first : List Value} {args : List (Bool × Sem Value)} {kws : List (Option Str × Sem Value)} {Q : Value → Shared → Prop} (hplain : args.any (·.1) = false) (hkw : kws.any (·.1.isNone) = false)
    (h : wpAny M A (evalArgs (.ref u) true args kws) (fun x s₁ => KFB.StandsAt u s₁.heap ∧ wpAny M A (call (.ref u) (first ++ x.pos) x.kw) Q E s₁) E s) : wpAny M A (callWith pos (.ref u) first args kws) Q E s := by
  unfold callWith
  refine wpAny_bind (wpAny_holding (wpAny_mono h (fun x s₁ h₁ => wpAny_bind (wpAny_standAt ?_)) fun _ _ x => x))
  obtain ⟨ho, hcall⟩ := h₁
  simp only [hplain, hkw, Bool.or_false]
  refine wpAny_bind (m := keeperOf (.ref u)) ?_
  unfold keeperOf
  refine wpAny_bind (wpAny_load ho ?_)
  simp only [KFB.bound, show (Value.type "builtin_function_or_method" != Value.type "method") = true by decide, show (Value.type "builtin_function_or_method" == Value.type "builtin_function_or_method" || Value.type "builtin_function_or_method" == Value.type "method-wrapper") = true by decide, if_true]
  refine wpAny_pure ?_
  exact wpAny_bind (wpAny_mono hcall (fun r s₂ hr => wpAny_bind (wpAny_holding (wpAny_point (wpAny_pure hr)))) fun _ _ x => x)
theorem callWith_boundKw {pos : Pos} {u : Addr} {first : List Value} {env : Env} {e : Expr} {rest : List Expr} {kws : List Keyword} {Q : Value → Shared → Prop} (_N : News h₀ L s.heap news) (_hm : (u, KFB.bound) ∈ news) (hall : (backToKw pos (keywordEach kws env)).all (·.1.isSome) = true)
    (h : wpAny M A (spliced (backTo pos (starEach (e :: rest) env))) (fun vs s₁ => wpAny M A (evalAll ((backToKw pos (keywordEach kws env)).map (·.2)))
      (fun ks s₂ => KFB.StandsAt u s₂.heap ∧ wpAny M A (call (.ref u) (first ++ vs) (((backToKw pos (keywordEach kws env)).filterMap (·.1)).zip ks)) Q E s₂) E s₁) E s)
    (hplain : (backTo pos (starEach (e :: rest) env)).any (·.1) = false := by rfl) (hkw : (backToKw pos (keywordEach kws env)).any (·.1.isNone) = false := by rfl) (he : starEach (e :: rest) env = (false, eval e env) :: starEach rest env := by rfl) :
    wpAny M A (callWith pos (.ref u) first (backTo pos (starEach (e :: rest) env)) (backToKw pos (keywordEach kws env))) Q E s :=
  callWith_fieldsKw hplain hkw (evalArgs_kw2 hall h he)
theorem callWith_methKw {pos : Pos} {id : String} {first : List Value} {env : Env} {e : Expr} {rest : List Expr} {kws : List Keyword} {Q : Value → Shared → Prop} (hall : (backToKw pos (keywordEach kws env)).all (·.1.isSome) = true)
    (h : wpAny M A (spliced (backTo pos (starEach (e :: rest) env))) (fun vs s₁ => wpAny M A (evalAll ((backToKw pos (keywordEach kws env)).map (·.2)))
      (fun ks s₂ => wpAny M A (call (.builtin id) (first ++ vs) (((backToKw pos (keywordEach kws env)).filterMap (·.1)).zip ks)) Q E s₂) E s₁) E s)
    (hplain : (backTo pos (starEach (e :: rest) env)).any (·.1) = false := by rfl) (hkw : (backToKw pos (keywordEach kws env)).any (·.1.isNone) = false := by rfl) (he : starEach (e :: rest) env = (false, eval e env) :: starEach rest env := by rfl) :
    wpAny M A (callWith pos (.builtin id) first (backTo pos (starEach (e :: rest) env)) (backToKw pos (keywordEach kws env))) Q E s :=
  callWith_builtin_kwB hplain hkw (evalArgs_kw2 hall h he)

theorem to_little_kwI {x n : Int} {t u v : Tok} {Q : Value → Shared → Prop} (hn : 0 ≤ n ∧ n ≤ 100) (hx : 0 ≤ x ∧ x < 256 ^ n.toNat) (h : ∀ (b : Array UInt8) t' k', KBw.bInts b = KTBy.little n.toNat x → Q (.bytes b t') { s with toks := k' }) :
    wpAny (model prog w) A (call (.builtin "int.to_bytes") [.int x t, .int n u] (kwLS v)) Q E s := by
  obtain ⟨k, rfl⟩ := Int.eq_ofNat_of_zero_le hn.1
  exact to_little_kw (by omega) hx.1 hx.2 h

/-- An int that is stored is named, its token and the count of tokens too: the walk goes on with letters. -/
theorem gen_store {env : Env} {y : PySem.Str} {e : Int} {t : Tok} {Q : Unit → Shared → Prop} (h : ∀ z t' k', z = e → wpAny M A (storeName env y (.int z t')) Q E ⟨s.heap, s.gens, s.drawn, k', s.os⟩) : wpAny M A (storeName env y (.int e t)) Q E s := h e t s.toks rfl
/-- A walk that is to halt: no line of the walk knows this word. -/
def Halt (P : Prop) : Prop := P
theorem halt {P : Prop} (h : Halt P) : P := h
theorem Halt.go {P : Prop} (h : P) : Halt P := h

/-! ## bytes(b) of bytes: the very value -/
theorem look_bytes_bytes : typeLookup (.type "bytes") "__bytes__" = pure (some (.builtin "bytes.__bytes__")) := by rw [typeLookup_type, builtinLookup_eq_fast]; kernel_rfl
theorem bytes_of_bytes {b : Array UInt8} {t : Tok} {Q : Value → Shared → Prop} (hQ : Q (.bytes b t) s) : wpAny (model prog w) A (call (.type "bytes") [.bytes b t]) Q E s := by
  refine callType_codes (Q₁ := fun obj s₁ => s₁.TypeIs obj "bytes" ∧ Q obj s₁) F.bm_called (F.bm_typeCall _) F.entry_object_init ?_ fun obj s₁ h₁ =>
    ⟨h₁.1, F.args_object_init_2 obj _, object_init_meets F.bm_called.init.lookup F.bm_called.made (by decide) prog w A.in1 _ s₁ ⟨h₁.1, rfl, h₁.2⟩⟩
  refine codeAny_of_tree ?_
  show wpAny _ _ (do checkBuiltinCall "bytes.__new__" ⟨[.type "bytes", .bytes b t], []⟩; again (.builtin "bytes.__new__" ⟨[.type "bytes", .bytes b t], []⟩)) _ _ s
  refine wpAny_bind (wpAny_of_eq (F.bm_newCall _) (wpAny_pure ⟨plainId_quiet F.bm_plain _, codeAny_builtin F.bm_entry ?_⟩))
  rw [Around.under_plainId F.bm_plain _]
  have hT : s.TypeIs (.bytes b t) "bytes" := PySem.W.typeIs_bytes _ _ _
  unfold Builtin.«bytes.__new__»
  refine wpAny_bind (wpAny_of_eq (a := true) rfl ?_)
  refine bm_if_false rfl ?_
  refine wpAny_bind (wpAny_of_eq F.bm_sub ?_)
  refine bm_if_false rfl ?_
  refine wpAny_bind (wpAny_of_eq (F.bm_bind _) ?_)
  refine wpAny_bind (wpAny_of_eq (a := ()) rfl ?_)
  refine wpAny_bind (wpAny_of_eq (a := ()) rfl ?_)
  refine bm_if_false rfl ?_
  refine wpAny_bind (wpAny_specialOf hT look_bytes_bytes ?_)
  refine wpAny_bind (wpAny_rule (wpAny_bind (wpAny_typeOf hT ?_)))
  refine bm_if_true (by decide) ?_
  exact wpAny_pure ⟨hT, hQ⟩

/-! ## a while over a state of one's own: the frame and the ledger are functions of the state -/
def WEnd {σ : Type} (h₀ : Heap) (L : Addr) (s : Shared) (mm : σ → PySem.Str → Option Value) (led : σ → List (Addr × Obj)) (P : σ → Prop) (μ : σ → Nat) (c : σ) (f : Flow) (s₃ : Shared) : Prop :=
  f = .next ∧ ∃ c' h' tk', s₃ = { s with heap := h', toks := tk' } ∧ Fr h₀ L h' (mm c') ∧ News h₀ L h' (led c') ∧ P c' ∧ μ c' < μ c
theorem while_st {σ : Type} {env : Env} {test : Expr} {body : List Stmt} {pos : Pos} {m : PySem.Str → Option Value} {Q : Flow → Shared → Prop} (mm : σ → PySem.Str → Option Value) (led : σ → List (Addr × Obj)) (P : σ → Prop) (μ : σ → Nat) (c₀ : σ)
    (F : Fr h₀ L s.heap m) (hm : m = mm c₀) (N : News h₀ L s.heap (led c₀)) (hP : P c₀)
    (turn : ∀ c h₁ tk₁, P c → Fr h₀ L h₁ (mm c) → News h₀ L h₁ (led c) →
      wpAny (model prog w) A (isTrue test env (eval test env)) (fun b s₂ =>
        if b = true then wpAny (model prog w) A (execs body env) (WEnd h₀ L s mm led P μ c) E s₂ else Q .next s₂) E { s with heap := h₁, toks := tk₁ })
    (hE : PassesOwn (model prog w) A env E) :
    wpAny (model prog w) A (exec (.While test body [] pos) env) Q E s := by
  subst hm
  refine While_inv2 (h₀ := h₀) (L := L) (fun n m' nx => ∃ c, n = μ c ∧ m' = mm c ∧ nx = led c ∧ P c) F N ⟨c₀, rfl, rfl, rfl, hP⟩ ?_ hE
  rintro n m₁ nx h₁ tk₁ F₁ N₁ ⟨c, rfl, rfl, rfl, hc⟩
  refine wpAny_mono (turn c h₁ tk₁ hc F₁ N₁) (fun b s₂ hb => ?_) fun _ _ x => x
  cases b with
  | false => exact hb
  | true =>
    simp only [if_true] at hb ⊢
    refine wpAny_mono hb (fun f s₃ hf => ?_) fun _ _ x => x
    obtain ⟨rfl, c', h', tk', e, F', N', hP', hμ⟩ := hf
    exact ⟨h', tk', mm c', led c', μ c', e, F', N', hμ, c', rfl, rfl, rfl, hP'⟩
theorem upd_upd {x : PySem.Str} {a b : Option Value} {m : PySem.Str → Option Value} : (fun y => if y = x then a else (fun y => if y = x then b else m y) y) = fun y => if y = x then a else m y := by
  funext y
  by_cases h : y = x <;> simp [h]
theorem upd_self {x : PySem.Str} {a : Option Value} {m : PySem.Str → Option Value} (h : m x = a) : m = fun y => if y = x then a else m y := by
  funext y
  by_cases e : y = x
  · rw [if_pos e, e]; exact h
  · rw [if_neg e]


theorem upd_in {x : PySem.Str} {v : Value} {m k : PySem.Str → Option Value} (e : m x = some v) (h : ∀ y, y ≠ x → k y = m y) : (fun y => if y = x then some v else k y) = m := by
  funext y
  by_cases h1 : y = x
  · rw [if_pos h1, h1, e]
  · rw [if_neg h1, h y h1]
theorem fr_one {h : Heap} {m : PySem.Str → Option Value} {x₁ : PySem.Str} {v₁ : Value} (F : Fr h₀ L h m) (e₁ : m x₁ = some v₁) : ∃ u : PySem.Str → Option Value, Fr h₀ L h (fun y => if y = x₁ then some v₁ else u y) :=
  ⟨m, by rw [upd_in e₁ fun _ _ => rfl]; exact F⟩
theorem fr_two {h : Heap} {m : PySem.Str → Option Value} {x₁ x₂ : PySem.Str} {v₁ v₂ : Value} (F : Fr h₀ L h m) (e₁ : m x₁ = some v₁) (e₂ : m x₂ = some v₂) :
    ∃ u : PySem.Str → Option Value, Fr h₀ L h (fun y => if y = x₁ then some v₁ else if y = x₂ then some v₂ else u y) :=
  ⟨m, by rw [upd_in e₁ fun y _ => congrFun (upd_in e₂ fun _ _ => rfl) y]; exact F⟩
theorem fr_three {h : Heap} {m : PySem.Str → Option Value} {x₁ x₂ x₃ : PySem.Str} {v₁ v₂ v₃ : Value} (F : Fr h₀ L h m) (e₁ : m x₁ = some v₁) (e₂ : m x₂ = some v₂) (e₃ : m x₃ = some v₃) :
    ∃ u : PySem.Str → Option Value, Fr h₀ L h (fun y => if y = x₁ then some v₁ else if y = x₂ then some v₂ else if y = x₃ then some v₃ else u y) :=
  ⟨m, by rw [upd_in e₁ fun y _ => congrFun (upd_in e₂ fun y _ => congrFun (upd_in e₃ fun _ _ => rfl) y) y]; exact F⟩

/-! ## xs[-1] = v on a made list of ints -/
theorem set_at_last {l : Addr} {items : Array Value} {n : Nat} {t : Tok} {v : Value} {Q : Unit → Shared → Prop} (ho : s.heap.get? l = some (W.listOf items n)) (h0 : 0 < items.size)
    (hQ : Q () { s with heap := s.heap.update l (Obj.mapSeq (·.setIfInBounds (items.size - 1) v)) }) : wpAny (model prog w) A (setItem (.ref l) (.int (-1) t) v) Q E s := by
  have hl : s.heap.IsList l items := PySem.IsL.isList (n := n) ho
  unfold setItem
  try with_reducible refine wpAny_holding ?_
  first | refine wpAny_bind (wpAny_pure ?_) | skip
  refine wpAny_bind (wpAny_sequenceKey hl.typeIs (by decide) ?_)
  refine wpAny_bind (wpAny_callSpecial?_slot (name := PySem.Str.ofString "__setitem__") hl.typeIs slot_list_setitem
    (wpAny_call_entry slot_list_setitem hl.typeIs entry_list_setitem ?_ (args_list_setitem _ _ _)))
  show wpAny _ _ (Builtin.List.listSubscript? (.int (-1) t) >>= _) _ _ s
  refine wpAny_bind (wpAny_listSubscript_int (fitsIndex_neg (by decide) (by decide)) ?_)
  have hidx : seqIndex? (-1) items.size = some (items.size - 1) := by
    rw [seqIndex_neg (by decide) (by omega)]
    congr 1
    omega
  have hx : items[items.size - 1]? = some items[items.size - 1] := Array.getElem?_eq_getElem (by omega)
  show wpAny _ _ ((Builtin.List.listItems (.ref l) >>= fun xs => pure ((seqIndex? (Int.negSucc 0) xs.size).bind fun i => xs[i]?.map (i, ·))) >>= _) _ _ s
  refine wpAny_bind (wpAny_bind ?_)
  show wpAny _ _ (seqItems? (.ref l) >>= _) _ _ s
  refine wpAny_bind (wpAny_seqItems ho rfl (wpAny_pure (wpAny_pure ?_)))
  have hidx' : seqIndex? (Int.negSucc 0) items.size = some (items.size - 1) := hidx
  rw [hidx']
  simp only [Option.bind_some, hx, Option.map_some]
  show wpAny _ _ (setSeqItemAt l (items.size - 1) v >>= _) _ _ s
  refine wpAny_bind (wpAny_setSeqItemAt ho rfl ?_)
  first
    | exact wpAny_bind (wpAny_pure (wpAny_pure ⟨.none, rfl, wpAny_pure hQ⟩))
    | exact wpAny_pure ⟨.none, rfl, wpAny_pure hQ⟩
variable {D : Addr} {m : PySem.Str → Option Value} {news' : List (Addr × Obj)}
theorem set_last {vs : List Value} {ns : List Int} {n : Nat} {x : Int} {t u : Tok} {Q : Unit → Shared → Prop} (F : Fr h₀ L s.heap m) (N : News h₀ L s.heap news)
    (U : W.Upd D (W.listOf vs.toArray n) (W.listOf (vs.set (vs.length - 1) (.int x u)).toArray n) news news') (hi : IntsAre vs ns) (h0 : 0 < ns.length)
    (h : ∀ h', Fr h₀ L h' m → News h₀ L h' news' → IntsAre (vs.set (vs.length - 1) (.int x u)) (ns.set (ns.length - 1) x) → Q () { s with heap := h' }) :
    wpAny (model prog w) A (setItem (.ref D) (.int (-1) t) (.int x u)) Q E s := by
  obtain ⟨pre, post, rfl, rfl, a, b⟩ := U.split
  have z := N (D, W.listOf vs.toArray n) (List.mem_append.mpr (.inr (.head _)))
  have hl : vs.length = ns.length := hi.length
  refine set_at_last (n := n) z.1 (by rw [List.size_toArray]; omega) (h _ (F.change (Heap.SameBut.update ..) z.2.1 z.2.2) (ki_turn _ N a b ?_ ?_) ?_)
  · show vs.toArray.setIfInBounds (vs.toArray.size - 1) (.int x u) = (vs.set (vs.length - 1) (.int x u)).toArray
    apply Array.toList_inj.mp
    simp
  · simp
  · have e : ns.length - 1 = vs.length - 1 := by omega
    rw [e]
    exact ints_set hi _

theorem ints_snoc {x : Int} {u : Tok} : ∀ {vs : List Value} {ns : List Int}, IntsAre vs ns → IntsAre (vs ++ [Value.int x u]) (ns ++ [x])
  | _, _, .nil => .cons x u .nil
  | _, _, .cons i t h => .cons i t (ints_snoc h)
theorem append_ints {vs : List Value} {ns : List Int} {n : Nat} {x : Int} {u : Tok} {Q : Value → Shared → Prop} (F : Fr h₀ L s.heap m) (N : News h₀ L s.heap news)
    (U : W.Upd D (W.listOf vs.toArray n) (W.listOf (vs ++ [Value.int x u]).toArray (n + 1)) news news') (hi : IntsAre vs ns) (hsz : ns.length ≤ 1000)
    (h : ∀ h', Fr h₀ L h' m → News h₀ L h' news' → IntsAre (vs ++ [Value.int x u]) (ns ++ [x]) → Q .none { s with heap := h' }) :
    wpAny (model prog w) A (call (.builtin "list.append") [.ref D, .int x u]) Q E s := by
  have e : W.listOf (vs ++ [Value.int x u]).toArray (n + 1) = W.listOf (vs.toArray.push (.int x u)) (n + 1) := by simp
  rw [e] at U
  refine append_K F N U (fun h' F' N' => h h' F' N' (ints_snoc hi)) ?_
  rw [List.size_toArray, hi.length, sizeLine_eq]
  omega

/-! ## comparing bytes by their ints -/
theorem bInts_inj {b c : Array UInt8} (h : KBw.bInts b = KBw.bInts c) : b.toList = c.toList := by
  have h' : b.toList.map (fun x : UInt8 => ((x.toNat : Nat) : Int)) = c.toList.map (fun x : UInt8 => ((x.toNat : Nat) : Int)) := h
  refine (List.map_inj_right (fun x y e => ?_)).mp h'
  have e' : x.toNat = y.toNat := by omega
  exact UInt8.toNat_inj.mp e'
theorem eq_bytes_ints {b c : Array UInt8} {t u : Tok} {ks ls : List Int} {Q : Value → Shared → Prop} (hb : KBw.bInts b = ks) (hc : KBw.bInts c = ls) (h : Q (.bool (decide (ks = ls))) s) :
    wpAny (model prog w) A (compareOp .Eq (.bytes b t) (.bytes c u)) Q E s := by
  refine eq_bytes ?_
  have e : (b.toList == c.toList) = decide (ks = ls) := by
    by_cases q : b.toList = c.toList
    · have : ks = ls := by rw [← hb, ← hc]; show b.toList.map _ = c.toList.map _; rw [q]
      rw [decide_eq_true this, q, beq_self_eq_true]
    · have : ks ≠ ls := fun e => q (bInts_inj (by rw [hb, hc, e]))
      rw [decide_eq_false this]
      exact beq_eq_false_iff_ne.mpr q
  rw [e]; exact h
theorem ne_bytes_ints {b c : Array UInt8} {t u : Tok} {ks ls : List Int} {Q : Value → Shared → Prop} (hb : KBw.bInts b = ks) (hc : KBw.bInts c = ls) (h : Q (.bool (!decide (ks = ls))) s) :
    wpAny (model prog w) A (compareOp .NotEq (.bytes b t) (.bytes c u)) Q E s := by
  refine ne_bytes ?_
  have e : (b.toList != c.toList) = !decide (ks = ls) := by
    by_cases q : b.toList = c.toList
    · have : ks = ls := by rw [← hb, ← hc]; show b.toList.map _ = c.toList.map _; rw [q]
      rw [decide_eq_true this, q]; simp
    · have : ks ≠ ls := fun e => q (bInts_inj (by rw [hb, hc, e]))
      rw [decide_eq_false this]
      simpa using q
  rw [e]; exact h
theorem eq_bytes_nil {b : Array UInt8} {t u : Tok} {ks : List Int} {Q : Value → Shared → Prop} (hb : KBw.bInts b = ks) (h : Q (.bool (decide ((ks.length : Int) = 0))) s) :
    wpAny (model prog w) A (compareOp .Eq (.bytes b t) (.bytes ([] : List UInt8).toArray u)) Q E s := by
  refine eq_bytes_ints (ls := []) hb rfl ?_
  have e : decide (ks = []) = decide ((ks.length : Int) = 0) := by
    cases ks with
    | nil => rfl
    | cons a r => exact (decide_eq_false (by simp)).trans (decide_eq_false (by simp; omega)).symm
  rw [e]; exact h

theorem all_ne {l : List (Addr × Obj)} {c d : Addr} (h : ∀ p ∈ l, p.1 < c) (hc : @LE.le Nat _ c d) : ∀ p ∈ l, p.1 ≠ d := fun p hp => Nat.ne_of_lt (Nat.lt_of_lt_of_le (h p hp) hc)
end
end
section
/-! # The plain law: octets of an int -/
/-- The octets of an int, least first: what both readings give. -/
def octs (x : Int) : List Int :=
  if x = 0 then [] else KTBy.little ((Builtin.Int.intBits x + 8) / 8) ((x.natAbs : Int) + (if x < 0 then 2 ^ (8 * ((Builtin.Int.intBits x + 8) / 8) - 1) else 0))
/-- The digits of an int to the base 256, least first. -/
def dig (z : Int) : List Int := if _h : 0 < z then z.fmod 256 :: dig (z.fdiv 256) else []
termination_by z.toNat
decreasing_by
  have e : z.fdiv 256 = z / 256 := Int.fdiv_eq_ediv_of_nonneg _ (by decide)
  rw [e]
  omega
theorem dig_pos {z : Int} (h : 0 < z) : dig z = z.fmod 256 :: dig (z.fdiv 256) := by rw [dig, dif_pos h]
theorem dig_zero {z : Int} (h : ¬ 0 < z) : dig z = [] := by rw [dig, dif_neg h]
def Small (n : Int) : Prop := n.natAbs < 256 ^ 20
def DigOk (n z : Int) (f : List Int) : Prop := f ++ dig z = dig n.natAbs ∧ z < 256 ^ (20 - f.length)
theorem digOk_start {n : Int} (hn : Small n) : 0 ≤ (if n < 0 then -n else n) ∧ ([] : List Int).length ≤ 20 ∧ DigOk n (if n < 0 then -n else n) [] := by
  have e : (if n < 0 then -n else n) = (n.natAbs : Int) := by split <;> omega
  rw [e]
  refine ⟨by omega, by simp, by simp, ?_⟩
  have h2 : ((256 : Int) ^ 20) = ((256 ^ 20 : Nat) : Int) := KTBy.p256 20
  show (n.natAbs : Int) < 256 ^ 20
  rw [h2]
  exact Int.ofNat_lt.mpr hn
theorem digOk_turn {n z : Int} {f : List Int} (h0 : 0 ≤ z) (hl : f.length ≤ 20) (h : DigOk n z f) (hz : 0 < z) : 0 ≤ z.fdiv 256 ∧ (f ++ [z.fmod 256]).length ≤ 20 ∧ DigOk n (z.fdiv 256) (f ++ [z.fmod 256]) := by
  obtain ⟨h1, h2⟩ := h
  have e : z.fdiv 256 = z / 256 := Int.fdiv_eq_ediv_of_nonneg _ (by decide)
  have hl2 : f.length ≠ 20 := by
    intro e2
    rw [e2] at h2
    have : z < 1 := h2
    omega
  refine ⟨by rw [e]; omega, by simp; omega, ?_, ?_⟩
  · rw [← h1, dig_pos hz, List.append_assoc]; rfl
  · have e3 : 20 - f.length = (20 - (f ++ [z.fmod 256]).length) + 1 := by simp; omega
    rw [e3, Int.pow_succ] at h2
    rw [e]
    exact Int.ediv_lt_of_lt_mul (by decide) h2
theorem digOk_end {n z : Int} {f : List Int} (h : DigOk n z f) (hz : ¬ 0 < z) : f = dig n.natAbs := by
  have := h.1
  rw [dig_zero hz, List.append_nil] at this
  exact this

open KTBy (little)
theorem little_get {n i : Nat} {x : Int} (h : i < n) : (little n x).getD i 0 = x / 256 ^ i % 256 := by
  rw [KTBy.little_eq, List.getD_eq_getElem?_getD, List.getElem?_map, List.getElem?_range h]
  rfl
theorem little_snoc (n : Nat) (x : Int) : little (n + 1) x = little n x ++ [x / 256 ^ n % 256] := by
  rw [KTBy.little_eq, KTBy.little_eq, List.range_succ, List.map_append]
  rfl
theorem p256_pos (k : Nat) : (0 : Int) < 256 ^ k := by
  rw [KTBy.p256]
  exact Int.natCast_pos.mpr (Nat.pow_pos (by decide))
theorem little_sign : ∀ (k : Nat) (x : Int), 0 ≤ x → x < 128 * 256 ^ k → little (k + 1) (x + 128 * 256 ^ k) = (little (k + 1) x).set k ((little (k + 1) x).getD k 0 + 128)
  | 0, x, h0, h1 => by
    rw [Int.pow_zero] at h1 ⊢
    show [(x + 128 * 1) % 256] = [x % 256 + 128]
    congr 1
    omega
  | k + 1, x, h0, h1 => by
    have hp := p256_pos k
    rw [Int.pow_succ] at h1 ⊢
    generalize hg : (256 : Int) ^ k = g at *
    have ih := little_sign k (x / 256) (by omega) (by rw [hg]; omega)
    rw [hg] at ih
    have e1 : (x + 128 * (g * 256)) % 256 = x % 256 := by omega
    have e2 : (x + 128 * (g * 256)) / 256 = x / 256 + 128 * g := by omega
    show (x + 128 * (g * 256)) % 256 :: little (k + 1) ((x + 128 * (g * 256)) / 256) = (x % 256 :: little (k + 1) (x / 256)).set (k + 1) ((x % 256 :: little (k + 1) (x / 256)).getD (k + 1) 0 + 128)
    rw [e1, e2, ih, List.set_cons_succ, List.getD_cons_succ]
theorem dig_little : ∀ (m : Nat), 0 < m → ∃ k, dig m = little (k + 1) m ∧ 256 ^ k ≤ m ∧ m < 256 ^ (k + 1) := by
  intro m
  induction m using Nat.strongRecOn with
  | ind m ih =>
    intro hm
    have hz : (0 : Int) < m := by omega
    have ef : (m : Int).fmod 256 = (m : Int) % 256 := Int.fmod_eq_emod_of_nonneg _ (by decide)
    have ed : (m : Int).fdiv 256 = ((m / 256 : Nat) : Int) := by
      rw [Int.fdiv_eq_ediv_of_nonneg _ (by decide)]
      rfl
    rw [dig_pos hz, ef, ed]
    by_cases h : m / 256 = 0
    · refine ⟨0, ?_, by rw [Nat.pow_zero]; omega, by omega⟩
      rw [h, dig_zero (by decide)]
      rfl
    · obtain ⟨k, e, h1, h2⟩ := ih (m / 256) (by omega) (by omega)
      refine ⟨k + 1, ?_, ?_, ?_⟩
      · rw [e]; rfl
      · rw [Nat.pow_succ]; omega
      · rw [Nat.pow_succ (n := 256) (m := k + 1)]; omega
open Builtin.Int (intBits)
theorem two8 (k : Nat) : 2 ^ (8 * k) = 256 ^ k := by
  rw [Nat.pow_mul]
theorem two8i (k : Nat) : (2 : Int) ^ (8 * (k + 1) - 1) = 128 * 256 ^ k := by
  have e : 8 * (k + 1) - 1 = 8 * k + 7 := by omega
  rw [e, Int.pow_add, Int.pow_mul]
  have e2 : (2 : Int) ^ 8 = 256 := by decide
  have e3 : (2 : Int) ^ 7 = 128 := by decide
  rw [e2, e3, Int.mul_comm]
theorem octs_lo {n : Int} {k : Nat} (h0 : n ≠ 0) (h1 : 256 ^ k ≤ n.natAbs) (h2 : n.natAbs < 128 * 256 ^ k) :
    octs n = little (k + 1) ((n.natAbs : Int) + (if n < 0 then 128 * 256 ^ k else 0)) := by
  have b1 : intBits n ≤ 8 * k + 7 := intBits_le_iff.mpr (by rw [Nat.pow_add, two8]; omega)
  have b2 : ¬ intBits n ≤ 8 * k := fun h => by have := intBits_le_iff.mp h; rw [two8] at this; omega
  have e : (intBits n + 8) / 8 = k + 1 := by omega
  rw [octs, if_neg h0, e, two8i]
theorem octs_hi {n : Int} {k : Nat} (h0 : n ≠ 0) (h1 : 128 * 256 ^ k ≤ n.natAbs) (h2 : n.natAbs < 256 ^ (k + 1)) :
    octs n = little (k + 2) ((n.natAbs : Int) + (if n < 0 then 128 * 256 ^ (k + 1) else 0)) := by
  have b1 : intBits n ≤ 8 * (k + 1) := intBits_le_iff.mpr (by rw [two8]; exact h2)
  have b2 : ¬ intBits n ≤ 8 * k + 7 := fun h => by have := intBits_le_iff.mp h; rw [Nat.pow_add, two8] at this; omega
  have e : (intBits n + 8) / 8 = k + 1 + 1 := by omega
  rw [octs, if_neg h0, e, two8i]

/-! What the law's reading ends with, way by way. -/
section
variable {n z : Int} {f : List Int} {i : Nat}
theorem dig_ne (h : 0 < (dig n.natAbs).length) : n ≠ 0 := by
  rintro rfl
  rw [show ((0 : Int).natAbs : Int) = 0 from rfl, dig_zero (by decide)] at h
  exact absurd h (by decide)
theorem dig_nil (h : ¬ 0 < (dig n.natAbs).length) : n = 0 := by
  refine Decidable.byContradiction fun h0 => h ?_
  rw [dig_pos (by omega)]
  exact Nat.succ_pos _
theorem top_hi (hf : 0 < (dig n.natAbs).length) (hi : i = (dig n.natAbs).length - 1) (h : 128 ≤ (dig n.natAbs).getD i 0) : ∃ k, dig n.natAbs = little (k + 1) n.natAbs ∧ 128 * 256 ^ k ≤ n.natAbs ∧ n.natAbs < 256 ^ (k + 1) := by
  obtain ⟨k, e, h1, h2⟩ := dig_little n.natAbs (by have := dig_ne hf; omega)
  refine ⟨k, e, ?_, h2⟩
  rw [hi, e, KTBy.little_length, Nat.add_sub_cancel, little_get (Nat.lt_succ_self k), KTBy.p256, ← Int.natCast_ediv] at h
  have h3 : 128 ≤ n.natAbs / 256 ^ k := by
    generalize n.natAbs / 256 ^ k = q at h
    omega
  have := (Nat.le_div_iff_mul_le (Nat.pow_pos (by decide))).mp h3
  omega
theorem top_lo (hf : 0 < (dig n.natAbs).length) (hi : i = (dig n.natAbs).length - 1) (h : ¬ 128 ≤ (dig n.natAbs).getD i 0) : ∃ k, dig n.natAbs = little (k + 1) n.natAbs ∧ 256 ^ k ≤ n.natAbs ∧ n.natAbs < 128 * 256 ^ k := by
  obtain ⟨k, e, h1, h2⟩ := dig_little n.natAbs (by have := dig_ne hf; omega)
  refine ⟨k, e, h1, ?_⟩
  rw [hi, e, KTBy.little_length, Nat.add_sub_cancel, little_get (Nat.lt_succ_self k), KTBy.p256, ← Int.natCast_ediv] at h
  have hq : n.natAbs / 256 ^ k < 256 := by
    rw [Nat.div_lt_iff_lt_mul (Nat.pow_pos (by decide))]
    rw [Nat.pow_succ] at h2
    omega
  have h3 : n.natAbs / 256 ^ k < 128 := by
    generalize n.natAbs / 256 ^ k = q at h hq
    omega
  have := (Nat.div_lt_iff_lt_mul (Nat.pow_pos (by decide))).mp h3
  omega
theorem cast_lt {k c : Nat} {x : Nat} (h : x < c * 256 ^ k) : (x : Int) < c * 256 ^ k := by
  rw [KTBy.p256]
  exact Int.ofNat_lt.mpr h
theorem little_pad {k : Nat} {x : Nat} (h : x < 256 ^ (k + 1)) : little (k + 2) (x : Int) = little (k + 1) x ++ [0] := by
  rw [little_snoc (k + 1), KTBy.p256, ← Int.natCast_ediv, Nat.div_eq_of_lt h]
  rfl
theorem octs_A (d : DigOk n z f) (hz : ¬ 0 < z) (hf : 0 < f.length) (h : 128 ≤ f.getD i 0) (hi : i = f.length - 1) (hn : n < 0) : (f ++ [0]).set ((f ++ [0]).length - 1) (0 + 128) = octs n := by
  have e := digOk_end d hz
  subst e
  obtain ⟨k, e, h1, h2⟩ := top_hi hf hi h
  rw [octs_hi (dig_ne hf) h1 h2, if_pos hn, little_sign (k + 1) _ (by omega) (cast_lt (c := 128) (by omega)), little_pad h2, e]
  simp [KTBy.little_length]
theorem octs_B (d : DigOk n z f) (hz : ¬ 0 < z) (hf : 0 < f.length) (h : 128 ≤ f.getD i 0) (hi : i = f.length - 1) (hn : ¬ n < 0) : f ++ [0] = octs n := by
  have e := digOk_end d hz
  subst e
  obtain ⟨k, e, h1, h2⟩ := top_hi hf hi h
  rw [octs_hi (dig_ne hf) h1 h2, if_neg hn, Int.add_zero, little_pad h2, e]
theorem octs_C {j : Nat} (d : DigOk n z f) (hz : ¬ 0 < z) (hf : 0 < f.length) (h : ¬ 128 ≤ f.getD i 0) (hi : i = f.length - 1) (hn : n < 0) (hj : j = f.length - 1) : f.set (f.length - 1) (f.getD j 0 + 128) = octs n := by
  have e := digOk_end d hz
  subst e
  obtain ⟨k, e, h1, h2⟩ := top_lo hf hi h
  rw [octs_lo (dig_ne hf) h1 h2, if_pos hn, little_sign k _ (by omega) (cast_lt (c := 128) (by omega)), hj, e]
  simp [KTBy.little_length]
theorem octs_D (d : DigOk n z f) (hz : ¬ 0 < z) (hf : 0 < f.length) (h : ¬ 128 ≤ f.getD i 0) (hi : i = f.length - 1) (hn : ¬ n < 0) : f = octs n := by
  have e := digOk_end d hz
  subst e
  obtain ⟨k, e, h1, h2⟩ := top_lo hf hi h
  rw [octs_lo (dig_ne hf) h1 h2, if_neg hn, Int.add_zero, e]
theorem octs_E (d : DigOk n z f) (hz : ¬ 0 < z) (hf : ¬ 0 < f.length) (hn : ¬ n < 0) : f = octs n := by
  have e := digOk_end d hz
  subst e
  have h0 := dig_nil hf
  subst h0
  rw [octs, if_pos rfl, show ((0 : Int).natAbs : Int) = 0 from rfl, dig_zero (by decide)]
theorem octs_F (d : DigOk n z f) (hz : ¬ 0 < z) (hf : ¬ 0 < f.length) (hn : n < 0) : False := by
  have e := digOk_end d hz
  subst e
  have h0 := dig_nil hf
  omega
end
theorem little_in (k : Nat) (x : Int) : KBa.In (little k x) := by
  intro n hn
  rw [KTBy.little_eq] at hn
  obtain ⟨i, _, rfl⟩ := List.mem_map.mp hn
  omega
theorem octs_in (n : Int) : KBa.In (octs n) := by
  unfold octs
  split
  · intro n hn; exact absurd hn List.not_mem_nil
  · exact little_in _ _
theorem octs_small {n : Int} (h : Small n) : (octs n).length ≤ 21 := by
  unfold octs
  split
  · exact Nat.zero_le _
  · rw [KTBy.little_length]
    have : intBits n ≤ 8 * 20 := intBits_le_iff.mpr (by rw [two8]; exact h)
    omega

/-! encode_num's reading -/
def EncOk (x nb e : Int) : Prop := (0 ≤ nb ∧ nb ≤ 100) ∧ (0 ≤ e ∧ e < 256 ^ nb.toNat) ∧ KTBy.little nb.toNat e = octs x
theorem bitOr_nat (a b : Nat) : Builtin.bitOr (a : Int) (b : Int) = ((a ||| b : Nat) : Int) := by
  unfold Builtin.bitOr Builtin.bitAnd Builtin.bitNot
  have h1 : decide (0 ≤ -(a : Int) - 1) = false := decide_eq_false (by omega)
  have h2 : decide (0 ≤ -(b : Int) - 1) = false := decide_eq_false (by omega)
  rw [h1, h2]
  have e1 : (-(-(a : Int) - 1) - 1) = a := by omega
  have e2 : (-(-(b : Int) - 1) - 1) = b := by omega
  show -(-(((-(-(a : Int) - 1) - 1).toNat ||| (-(-(b : Int) - 1) - 1).toNat : Nat) : Int) - 1) - 1 = _
  rw [e1, e2, Int.toNat_natCast, Int.toNat_natCast]
  omega
theorem or_pow {m j : Nat} (h : m < 2 ^ j) : m ||| 2 ^ j = m + 2 ^ j := by
  have := Nat.two_pow_add_eq_or_of_lt h 1
  rw [Nat.mul_one] at this
  rw [Nat.or_comm, ← this, Nat.add_comm]
theorem encOk {x nb : Int} (hx : -9223372036854775808 ≤ x ∧ x ≤ 9223372036854775807) (h0 : x ≠ 0) (hnb : nb = ((intBits x : Int) + 1 + 7).fdiv 8) :
    EncOk x nb (Builtin.bitOr (if x < 0 then -x else x) ((if decide (x < 0) = true then 1 else 0) * 2 ^ (nb * 8 - 1).toNat)) := by
  have e64 : (2 : Nat) ^ 64 = 18446744073709551616 := by decide
  have hb : intBits x ≤ 64 := intBits_le_iff.mpr (by rw [e64]; omega)
  have hnb' : nb = (((intBits x + 8) / 8 : Nat) : Int) := by
    rw [hnb, Int.fdiv_eq_ediv_of_nonneg _ (by decide)]
    omega
  generalize hN : (intBits x + 8) / 8 = N at hnb'
  have hN1 : 1 ≤ N := by omega
  subst hnb'
  have em : (if x < 0 then -x else x) = (x.natAbs : Int) := by split <;> omega
  have ej : ((N : Int) * 8 - 1).toNat = 8 * N - 1 := by omega
  have hlt : x.natAbs < 2 ^ (8 * N - 1) := intBits_le_iff.mp (by omega)
  rw [em, ej]
  have hp : (2 : Nat) ^ (8 * N) = 2 * 2 ^ (8 * N - 1) := by
    have e : 8 * N = (8 * N - 1) + 1 := by omega
    rw [e, Nat.pow_succ, Nat.add_sub_cancel, Nat.mul_comm]
  have h256 : (256 : Int) ^ N = ((2 * 2 ^ (8 * N - 1) : Nat) : Int) := by rw [KTBy.p256, ← two8, hp]
  have ee : Builtin.bitOr (x.natAbs : Int) ((if decide (x < 0) = true then 1 else 0) * 2 ^ (8 * N - 1)) = (x.natAbs : Int) + (if x < 0 then 2 ^ (8 * N - 1) else 0) := by
    have e2 : ((2 : Int) ^ (8 * N - 1)) = ((2 ^ (8 * N - 1) : Nat) : Int) := by rw [Int.natCast_pow]; rfl
    by_cases hn : x < 0
    · rw [if_pos (by simpa using hn), if_pos hn, Int.one_mul, e2, bitOr_nat, or_pow hlt]
      push_cast
      rfl
    · rw [if_neg (by simpa using hn), if_neg hn, Int.zero_mul]
      have := bitOr_nat x.natAbs 0
      rw [Nat.or_zero] at this
      rw [Int.add_zero]
      exact this
  rw [ee]
  refine ⟨by omega, ?_, ?_⟩
  · rw [Int.toNat_natCast, h256]
    have e2 : ((2 : Int) ^ (8 * N - 1)) = ((2 ^ (8 * N - 1) : Nat) : Int) := by rw [Int.natCast_pow]; rfl
    rw [e2]
    generalize 2 ^ (8 * N - 1) = g at hlt ⊢
    split <;> omega
  · rw [Int.toNat_natCast, octs, if_neg h0, hN]
end
section
structure SO where
  z : Int
  tz : Tok
  ns : List Int
  vs : List Value
  k : Nat
abbrev mmO (u : PySem.Str → Option Value) (D : Addr) (n : Int) (t : Tok) (z : Int) (tz : Tok) (y : PySem.Str) : Option Value :=
  if y = PySem.Str.ofString "size" then some (.int z tz) else if y = PySem.Str.ofString "found" then some (.ref D) else if y = PySem.Str.ofString "number" then some (.int n t) else u y
def PO (n : Int) (c : SO) : Prop := 0 ≤ c.z ∧ c.ns.length ≤ 20 ∧ IntsAre c.vs c.ns ∧ DigOk n c.z c.ns
section
variable {prog : Program} {w : World} {A : Around} {E : Value → Shared → Prop} {s s₀ : Shared} {h₀ h : Heap} {L D : Addr} {news : List (Addr × Obj)} {env : Env} {test : PySem.Expr} {body : List Stmt} {pos : Pos} {u : PySem.Str → Option Value} {n z : Int} {t tz : Tok} {k : Nat}
theorem octs_while {Q : Flow → Shared → Prop}
    (F : Fr h₀ L s.heap (fun y => if y = PySem.Str.ofString "size" then some (.int z tz) else if y = PySem.Str.ofString "found" then some (.ref D) else if y = PySem.Str.ofString "number" then some (.int n t) else u y)) (N : News h₀ L s.heap ((D, W.listOf #[] k) :: news)) (hP : PO n ⟨z, tz, [], [], k⟩) (hE : PassesOwn (model prog w) A env E)
    (turn : ∀ z tz ns vs k h₁ tk₁, 0 ≤ z → ns.length ≤ 20 → IntsAre vs ns → DigOk n z ns → Fr h₀ L h₁ (fun y => if y = PySem.Str.ofString "size" then some (.int z tz) else if y = PySem.Str.ofString "found" then some (.ref D) else if y = PySem.Str.ofString "number" then some (.int n t) else u y) → News h₀ L h₁ ((D, W.listOf vs.toArray k) :: news) →
      wpAny (model prog w) A (isTrue test env (eval test env)) (fun b s₂ =>
        if b = true then wpAny (model prog w) A (execs body env) (WEnd h₀ L s (fun c : SO => mmO u D n t c.z c.tz) (fun c => (D, W.listOf c.vs.toArray c.k) :: news) (PO n) (fun c => c.z.toNat) ⟨z, tz, ns, vs, k⟩) E s₂ else Q .next s₂) E { s with heap := h₁, toks := tk₁ }) :
    wpAny (model prog w) A (exec (.While test body [] pos) env) Q E s := by
  refine while_st (fun c : SO => mmO u D n t c.z c.tz) (fun c => (D, W.listOf c.vs.toArray c.k) :: news) (PO n) (fun c => c.z.toNat) ⟨z, tz, [], [], k⟩ F rfl N hP ?_ hE
  rintro ⟨z, tz, ns, vs, k⟩ h₁ tk₁ ⟨p1, p2, p3, p4⟩ F₁ N₁
  exact turn z tz ns vs k h₁ tk₁ p1 p2 p3 p4 F₁ N₁
theorem octs_turn {ns : List Int} {vs : List Value} {u2 : Tok} {t2 : Tok} {tk : Nat} (p1 : 0 ≤ z) (p2 : ns.length ≤ 20) (p3 : IntsAre (vs ++ [Value.int (z.fmod 256) u2]) (ns ++ [z.fmod 256])) (p4 : DigOk n z ns) (hz : 0 < z)
    (F : Fr h₀ L h (fun y => if y = PySem.Str.ofString "size" then some (.int (z.fdiv 256) t2) else if y = PySem.Str.ofString "size" then some (.int z tz) else if y = PySem.Str.ofString "found" then some (.ref D) else if y = PySem.Str.ofString "number" then some (.int n t) else u y))
    (N : News h₀ L h ((D, W.listOf (vs ++ [Value.int (z.fmod 256) u2]).toArray (k + 1)) :: news)) :
    WEnd h₀ L s₀ (fun c : SO => mmO u D n t c.z c.tz) (fun c => (D, W.listOf c.vs.toArray c.k) :: news) (PO n) (fun c => c.z.toNat) ⟨z, tz, ns, vs, k⟩ .next { s₀ with heap := h, toks := tk } := by
  obtain ⟨a, b, c⟩ := digOk_turn p1 p2 p4 hz
  refine ⟨rfl, ⟨z.fdiv 256, t2, ns ++ [z.fmod 256], vs ++ [Value.int (z.fmod 256) u2], k + 1⟩, h, tk, rfl, ?_, N, ⟨a, b, p3, c⟩, ?_⟩
  · have e : (fun y => if y = PySem.Str.ofString "size" then some (Value.int (z.fdiv 256) t2) else if y = PySem.Str.ofString "size" then some (.int z tz) else if y = PySem.Str.ofString "found" then some (.ref D) else if y = PySem.Str.ofString "number" then some (.int n t) else u y) = mmO u D n t (z.fdiv 256) t2 := by
      funext y
      by_cases h1 : y = PySem.Str.ofString "size"
      · rw [if_pos h1, mmO, if_pos h1]
      · rw [if_neg h1, if_neg h1, mmO, if_neg h1]
    rw [e] at F
    exact F
  · show (z.fdiv 256).toNat < z.toNat
    have e : z.fdiv 256 = z / 256 := Int.fdiv_eq_ediv_of_nonneg _ (by decide)
    rw [e]
    omega
theorem bytes_octs {vs : List Value} {ns : List Int} {m : PySem.Str → Option Value} {Q : Value → Shared → Prop} (F : Fr h₀ L s.heap m) (N : News h₀ L s.heap news) (hm : (D, W.listOf vs.toArray k) ∈ news) (hi : IntsAre vs ns) (hh : A.handled = none) (hs : Small n) (he : ns = octs n)
    (h : ∀ b h' t' k, Fr h₀ L h' m → News h₀ L h' news → KBw.bInts b = octs n → Q (.bytes b t') { s with heap := h', toks := k }) : wpAny (model prog w) A (call (.type "bytes") [.ref D]) Q E s := by
  subst he
  refine KBa.make_K F N hh (PySem.IsL.isList (n := k) (N _ hm).1) hi (octs_in n) (by have := octs_small hs; omega) fun h' t' k' F' N' hin => h _ h' t' k' F' N' (KBa.ints_make hin)
end
end
section
open KTBy (little)
open Builtin.Int (intBits)
/-! # The plain law: the number that octets tell -/
def le : List Int → Int
  | [] => 0
  | k :: r => k + 256 * le r
/-- The number that octets tell. -/
def val (ks : List Int) : Int :=
  if ks = [] then 0 else if 128 ≤ ks.getD (ks.length - 1) 0 then -(le ks - 128 * 256 ^ (ks.length - 1)) else le ks
theorem le_rev : ∀ ks : List Int, KFB.value ks.reverse = le ks
  | [] => rfl
  | k :: r => by
    have ih := le_rev r
    unfold KFB.value at ih ⊢
    rw [List.reverse_cons, List.foldl_append, ih]
    show le r * 256 + k = k + 256 * le r
    omega
theorem le_take_succ : ∀ (ks : List Int) (n : Nat), n < ks.length → le (ks.take (n + 1)) = le (ks.take n) + ks.getD n 0 * 256 ^ n
  | [], _, h => absurd h (Nat.not_lt_zero _)
  | k :: r, 0, _ => by
    show k + 256 * le (r.take 0) = 0 + k * 256 ^ 0
    rw [List.take_zero, Int.pow_zero]
    show k + 256 * 0 = 0 + k * 1
    omega
  | k :: r, n + 1, h => by
    have ih := le_take_succ r n (Nat.lt_of_succ_lt_succ h)
    show k + 256 * le (r.take (n + 1)) = k + 256 * le (r.take n) + r.getD n 0 * 256 ^ (n + 1)
    rw [ih, Int.pow_succ]
    generalize le (r.take n) = a
    generalize hp : (256 : Int) ^ n = p
    rw [Int.mul_add, ← Int.mul_assoc (r.getD n 0) p 256, Int.mul_comm 256 (r.getD n 0 * p)]
    omega
theorem le_bound : ∀ (ks : List Int), KBa.In ks → 0 ≤ le ks ∧ le ks < 256 ^ ks.length
  | [], _ => by decide
  | k :: r, h => by
    have hk := h k (List.mem_cons_self ..)
    obtain ⟨a, b⟩ := le_bound r fun n hn => h n (List.mem_cons_of_mem _ hn)
    show 0 ≤ k + 256 * le r ∧ k + 256 * le r < 256 ^ (r.length + 1)
    rw [Int.pow_succ]
    generalize (256 : Int) ^ r.length = p at b ⊢
    omega
theorem in_take {ks : List Int} (h : KBa.In ks) (n : Nat) : KBa.In (ks.take n) := fun k hk => h k (List.mem_of_mem_take hk)
/-- The least part and the top octet. -/
theorem le_top {ks : List Int} (h : KBa.In ks) (hn : ks.length ≠ 0) : ∃ S : Int, le ks = S + ks.getD (ks.length - 1) 0 * 256 ^ (ks.length - 1) ∧ 0 ≤ S ∧ S < 256 ^ (ks.length - 1) ∧ S = le (ks.take (ks.length - 1)) := by
  have e := le_take_succ ks (ks.length - 1) (by omega)
  have e2 : ks.length - 1 + 1 = ks.length := by omega
  rw [e2, List.take_length] at e
  have hb := le_bound _ (in_take h (ks.length - 1))
  rw [List.length_take, Nat.min_eq_left (by omega)] at hb
  exact ⟨_, e, hb.1, hb.2, rfl⟩
theorem top_in {ks : List Int} (h : KBa.In ks) (i : Nat) : 0 ≤ ks.getD i 0 ∧ ks.getD i 0 < 256 := KBw.getD_in h
theorem sum_le {ks : List Int} (h : KBa.In ks) : ∀ n, n ≤ ks.length →
    (List.map (fun k' : Int => if 0 ≤ ks.getD k'.toNat 0 ∧ ks.getD k'.toNat 0 < 256 then ks.getD k'.toNat 0 * 256 ^ k'.toNat else k') (rangeKs 0 n)).sum = le (ks.take n)
  | 0, _ => rfl
  | n + 1, hn => by
    have ih := sum_le h n (Nat.le_of_succ_le hn)
    have er : rangeKs 0 (n + 1) = rangeKs 0 n ++ [(n : Int)] := by
      unfold rangeKs
      rw [List.range_succ, List.map_append]
      simp
    have ht := top_in h n
    rw [er, List.map_append, List.sum_append, ih, le_take_succ ks n hn]
    simp only [List.map_cons, List.map_nil, List.sum_cons, List.sum_nil, Int.toNat_natCast]
    rw [if_pos ht]
    omega

section
variable {ks : List Int} {i j n : Nat}
theorem val_nil (h : (ks.length : Int) = 0) : (0 : Int) = val ks := by
  have e : ks = [] := List.length_eq_zero_iff.mp (by omega)
  rw [e]; rfl
theorem ne_nil (h : ks.length ≠ 0) : ks ≠ [] := fun e => h (by rw [e]; rfl)
theorem fmod128 {x : Int} (h0 : 128 ≤ x) (h1 : x < 256) : x.fmod 128 = x - 128 := by
  rw [Int.fmod_eq_emod_of_nonneg _ (by decide)]; omega
theorem fmod128' {x : Int} (h0 : 0 ≤ x) (h1 : ¬ 128 ≤ x) : x.fmod 128 = x := by
  rw [Int.fmod_eq_emod_of_nonneg _ (by decide)]; omega
theorem lv_neg (hin : KBa.In ks) (h0 : ¬ (ks.length : Int) = 0) (h : 128 ≤ ks.getD i 0) (hi : i = ks.length - 1) (hn : n = ks.length - 1) (hj : j = ks.length - 1) :
    -((List.map (fun k' : Int => if 0 ≤ ks.getD k'.toNat 0 ∧ ks.getD k'.toNat 0 < 256 then ks.getD k'.toNat 0 * 256 ^ k'.toNat else k') (rangeKs 0 n)).sum + (ks.getD i 0).fmod 128 * 256 ^ j) = val ks := by
  have h0' : ks.length ≠ 0 := by omega
  obtain ⟨S, e, _, _, eS⟩ := le_top hin h0'
  subst hi
  subst hn
  subst hj
  rw [sum_le hin _ (by omega), ← eS, val, if_neg (ne_nil h0'), if_pos h, e, fmod128 h (top_in hin _).2, Int.sub_mul]
  omega
theorem lv_pos (hin : KBa.In ks) (h0 : ¬ (ks.length : Int) = 0) (h : ¬ 128 ≤ ks.getD i 0) (hi : i = ks.length - 1) (hn : n = ks.length - 1) (hj : j = ks.length - 1) :
    (List.map (fun k' : Int => if 0 ≤ ks.getD k'.toNat 0 ∧ ks.getD k'.toNat 0 < 256 then ks.getD k'.toNat 0 * 256 ^ k'.toNat else k') (rangeKs 0 n)).sum + (ks.getD i 0).fmod 128 * 256 ^ j = val ks := by
  have h0' : ks.length ≠ 0 := by omega
  obtain ⟨S, e, _, _, eS⟩ := le_top hin h0'
  subst hi
  subst hn
  subst hj
  rw [sum_le hin _ (by omega), ← eS, val, if_neg (ne_nil h0'), if_neg h, e, fmod128' (top_in hin _).1 h]
theorem dec_pos (h0 : ¬ (ks.length : Int) = 0) (h : ¬ 128 ≤ ks.getD i 0) (hi : i = ks.length - 1) : KFB.value ks.reverse = val ks := by
  subst hi
  rw [le_rev, val, if_neg (ne_nil (by omega)), if_neg h]
theorem bitAnd_nat (a b : Nat) : Builtin.bitAnd (a : Int) (b : Int) = ((a &&& b : Nat) : Int) := by
  unfold Builtin.bitAnd
  rw [decide_eq_true (show (0 : Int) ≤ a by omega), decide_eq_true (show (0 : Int) ≤ b by omega)]
  rfl
theorem mask_eq (L : Nat) (hL : L ≠ 0) : ((2 : Int) ^ (8 * L) - 1).fdiv 2 = ((2 ^ (8 * L - 1) - 1 : Nat) : Int) := by
  have e : 8 * L = 8 * L - 1 + 1 := by omega
  have hp : 0 < 2 ^ (8 * L - 1) := Nat.two_pow_pos _
  have e2 : (2 : Int) ^ (8 * L) = ((2 ^ (8 * L - 1) : Nat) : Int) * 2 := by
    rw [e, Int.pow_succ, Nat.add_sub_cancel, Int.natCast_pow]
    rfl
  rw [e2, Int.fdiv_eq_ediv_of_nonneg _ (by decide)]
  generalize 2 ^ (8 * L - 1) = g at hp ⊢
  omega
theorem dec_neg (hin : KBa.In ks) (h0 : ¬ (ks.length : Int) = 0) (h : 128 ≤ ks.getD i 0) (hi : i = ks.length - 1) (hn : n = 8 * ks.length) :
    Builtin.bitAnd (KFB.value ks.reverse) (((2 : Int) ^ n - 1).fdiv (2 ^ Int.toNat 1)) * -1 = val ks := by
  have h0' : ks.length ≠ 0 := by omega
  obtain ⟨S, e, hS0, hS1, _⟩ := le_top hin h0'
  have hb := le_bound ks hin
  have ht := top_in hin (ks.length - 1)
  subst hi
  subst hn
  have e1 : (2 : Int) ^ Int.toNat 1 = 2 := by decide
  rw [e1, mask_eq _ h0', le_rev, val, if_neg (ne_nil h0'), if_pos h]
  obtain ⟨x, hx⟩ := Int.eq_ofNat_of_zero_le hb.1
  have e2 : 8 * ks.length - 1 = 8 * (ks.length - 1) + 7 := by omega
  have e3 : 2 ^ (8 * ks.length - 1) = 128 * 256 ^ (ks.length - 1) := by
    rw [e2, Nat.pow_add, two8, Nat.mul_comm]
  rw [hx] at e ⊢
  rw [bitAnd_nat, Nat.and_two_pow_sub_one_eq_mod, e3]
  rw [KTBy.p256] at e hS1 ⊢
  have hp : 0 < 256 ^ (ks.length - 1) := Nat.pow_pos (by decide)
  generalize 256 ^ (ks.length - 1) = p at e hS1 hp ⊢
  generalize hr : ks.getD (ks.length - 1) 0 = r at e h ht ⊢
  obtain ⟨q, hq⟩ := Int.eq_ofNat_of_zero_le (show 0 ≤ r - 128 by omega)
  obtain ⟨T, hT⟩ := Int.eq_ofNat_of_zero_le hS0
  have hr' : r = ((q + 128 : Nat) : Int) := by omega
  have ex : x = T + (q + 128) * p := by
    rw [hT, hr'] at e
    exact_mod_cast e
  have hT' : T < p := by omega
  have hq' : q < 128 := by omega
  have em : x % (128 * p) = T + q * p := by
    rw [ex, show T + (q + 128) * p = (T + q * p) + 128 * p by rw [Nat.add_mul, Nat.add_assoc], Nat.add_mod_right]
    refine Nat.mod_eq_of_lt ?_
    have : q * p ≤ 127 * p := Nat.mul_le_mul_right _ (by omega)
    omega
  rw [em, ex, show T + (q + 128) * p = (T + q * p) + 128 * p by rw [Nat.add_mul, Nat.add_assoc]]
  push_cast
  omega
theorem le_little : ∀ (n : Nat) (x : Int), 0 ≤ x → x < 256 ^ n → le (little n x) = x
  | 0, x, h0, h1 => by
    rw [Int.pow_zero] at h1
    show (0 : Int) = x
    omega
  | n + 1, x, h0, h1 => by
    rw [Int.pow_succ] at h1
    have ih := le_little n (x / 256) (by omega) (Int.ediv_lt_of_lt_mul (by decide) h1)
    show x % 256 + 256 * le (little n (x / 256)) = x
    rw [ih]
    omega
theorem octs_form {x : Int} (h0 : x ≠ 0) : ∃ k : Nat, (octs x).length = k + 1 ∧ x.natAbs < 128 * 256 ^ k ∧ octs x = little (k + 1) ((x.natAbs : Int) + (if x < 0 then 128 * 256 ^ k else 0)) := by
  have hb : 1 ≤ intBits x := by
    refine Nat.one_le_iff_ne_zero.mpr fun e => ?_
    have := intBits_le_iff.mp (Nat.le_of_eq e)
    rw [Nat.pow_zero] at this
    omega
  obtain ⟨k, hk⟩ : ∃ k, (intBits x + 8) / 8 = k + 1 := ⟨(intBits x + 8) / 8 - 1, by omega⟩
  have e : octs x = little (k + 1) ((x.natAbs : Int) + (if x < 0 then 128 * 256 ^ k else 0)) := by rw [octs, if_neg h0, hk, two8i]
  refine ⟨k, by rw [e, KTBy.little_length], ?_, e⟩
  have h1 : intBits x ≤ 8 * k + 7 := by omega
  have := intBits_le_iff.mp h1
  rw [Nat.pow_add, two8] at this
  omega
theorem val_octs (x : Int) : val (octs x) = x := by
  by_cases h0 : x = 0
  · rw [h0]; rfl
  · obtain ⟨k, hl, hlt, e⟩ := octs_form h0
    have hlt' : (x.natAbs : Int) < 128 * 256 ^ k := cast_lt hlt
    have hp := p256_pos k
    have hx0 : 0 ≤ (x.natAbs : Int) := by omega
    have hne : octs x ≠ [] := ne_nil (by omega)
    rw [val, if_neg hne, hl, Nat.add_sub_cancel]
    have hle : le (octs x) = (x.natAbs : Int) + (if x < 0 then 128 * 256 ^ k else 0) := by
      rw [e]
      refine le_little _ _ (by split <;> omega) ?_
      rw [Int.pow_succ]
      generalize (256 : Int) ^ k = g at hp hlt' ⊢
      split <;> omega
    have htop : (octs x).getD k 0 = ((x.natAbs : Int) + (if x < 0 then 128 * 256 ^ k else 0)) / 256 ^ k % 256 := by rw [e, little_get (Nat.lt_succ_self k)]
    have hq : (x.natAbs : Int) / 256 ^ k < 128 := Int.ediv_lt_of_lt_mul hp hlt'
    have hq0 : 0 ≤ (x.natAbs : Int) / 256 ^ k := Int.ediv_nonneg hx0 (Int.le_of_lt hp)
    by_cases hn : x < 0
    · rw [if_pos hn] at hle htop
      rw [Int.add_mul_ediv_right _ _ (Int.ne_of_gt hp)] at htop
      rw [if_pos (by omega), hle]
      omega
    · rw [if_neg hn, Int.add_zero] at hle htop
      rw [if_neg (by omega), hle]
      omega
theorem val_abs (hin : KBa.In ks) (h0 : ks.length ≠ 0) : (val ks).natAbs < 128 * 256 ^ (ks.length - 1) := by
  obtain ⟨S, e, hS0, hS1, _⟩ := le_top hin h0
  have ht := top_in hin (ks.length - 1)
  have key : -(128 * 256 ^ (ks.length - 1)) < val ks ∧ val ks < (128 : Int) * 256 ^ (ks.length - 1) := by
    rw [val, if_neg (ne_nil h0), e]
    generalize (256 : Int) ^ (ks.length - 1) = p at hS1 ⊢
    generalize ks.getD (ks.length - 1) 0 = r at ht ⊢
    have hp : 0 < p := by omega
    split
    · have a1 : 128 * p ≤ r * p := Int.mul_le_mul_of_nonneg_right (by omega) (Int.le_of_lt hp)
      have a2 : r * p ≤ 255 * p := Int.mul_le_mul_of_nonneg_right (by omega) (Int.le_of_lt hp)
      omega
    · have a1 : 0 * p ≤ r * p := Int.mul_le_mul_of_nonneg_right (by omega) (Int.le_of_lt hp)
      have a2 : r * p ≤ 127 * p := Int.mul_le_mul_of_nonneg_right (by omega) (Int.le_of_lt hp)
      omega
  rw [KTBy.p256] at key
  generalize 256 ^ (ks.length - 1) = p at key ⊢
  omega
theorem octs_short (hin : KBa.In ks) : (octs (val ks)).length ≤ ks.length := by
  by_cases h0 : ks.length = 0
  · have e : ks = [] := List.length_eq_zero_iff.mp h0
    rw [e]; decide
  · have h := val_abs hin h0
    by_cases hv : val ks = 0
    · rw [hv]; exact Nat.zero_le _
    · rw [octs, if_neg hv, KTBy.little_length]
      have : intBits (val ks) ≤ 8 * (ks.length - 1) + 7 := intBits_le_iff.mpr (by rw [Nat.pow_add, two8]; omega)
      omega
end
end
section
open Builtin Builtin.Str Builtin.Int Builtin.Float
/-! ## f"{n:x}" -/
def hexSpec : FormatSpec := { align := 62, type := some 120 }
def hexCodes (n : Nat) : List Nat := (Nat.toDigits 16 n).map (·.toNat)
def hexText (n : Nat) : PySem.Str := ⟨(hexCodes n).toArray⟩
theorem parse_x : parseFormatSpec (PySem.Str.ofString "x").cps.toList "int" 62 = .ok hexSpec := by rfl
theorem hexField {ds : List Nat} (h : ds ≠ []) : intField' hexSpec false [] ds [] 4 = ⟨ds.toArray⟩ := by
  have e : ds.isEmpty = false := by cases ds with | nil => exact absurd rfl h | cons a r => rfl
  unfold intField' hexSpec
  simp only [e, Bool.false_eq_true, if_false, List.length_nil]
  have e2 : ((32 : Nat) == 48 && false) = false := by decide
  have e3 : ((62 : Nat) == 60) = false := by decide
  have e4 : ((62 : Nat) == 94) = false := by decide
  have e5 : ((62 : Nat) == 61) = false := by decide
  simp only [e2, e3, e4, e5, Bool.false_eq_true, if_false]
  have e6 : ((-1 : Int) - ((0 : Nat) + (0 : Nat) + (0 : Nat) : Int) - ((List.replicate (Int.toNat 0 - ds.length) 48 ++ ds).length : Int)).toNat = 0 := by omega
  rw [e6]
  have e7 : Int.toNat 0 - ds.length = 0 := by simp
  rw [e7]
  simp
theorem hexCodes_ne (n : Nat) : hexCodes n ≠ [] := by
  intro e
  have h := tDigits_len_ge 16 n
  have h2 : (hexCodes n).length = (Nat.toDigits 16 n).length := List.length_map ..
  rw [e] at h2
  rw [← h2] at h
  exact absurd h (by decide)
section
variable {prog : Program} {w : World} {A : Around} {E : Value → Shared → Prop} {s : Shared}
set_option maxHeartbeats 1000000 in
theorem field_x {a : Int} {t : Tok} {Q : Value → Shared → Prop} (h0 : 0 ≤ a) (hl : (hexCodes a.natAbs).length ≤ 1000)
    (h : ∀ t' k, Q (.str (hexText a.natAbs) t') { s with toks := k }) : wpAny (model prog w) A (formatField (.int a t) (PySem.Str.ofString "x")) Q E s := by
  have hne : ((PySem.Str.ofString "x").length == 0) = false := by decide
  have hasc : (((PySem.Str.ofString "x").cps.toList.drop 1).any (· ≥ 128) || ((PySem.Str.ofString "x").cps.getD 0 0 ≥ 128 && !([60, 62, 61, 94] : List Nat).contains ((PySem.Str.ofString "x").cps.getD 1 0))) = false := by decide
  show wpAny _ _ (holding [.int a t] (pyFormat (.int a t) (PySem.Str.ofString "x"))) Q E s
  refine wpAny_holding ?_
  unfold pyFormat
  refine wpAny_bind (wpAny_mkStr ?_ (by decide))
  refine wpAny_bind (m := callSpecial? (.int a t) (PySem.Str.ofString "__format__") [.str (PySem.Str.ofString "x") s.toks]) (wpAny_callSpecial?_slot (name := PySem.Str.ofString "__format__") (typeIs_int _ a t) slot_int_format ?_)
  refine wpAny_call (codeAny_call_builtin slot_int_format.plain entry_int_format (slot_int_format.check _ _ _ _ _ _ _ _ (typeIs_int _ a t) (args_int_format _ _) ?_))
  unfold Builtin.«int.__format__»
  simp only [selfAndOne, noKeywords, Int.intOfSelf, asInt?, asStr?, List.isEmpty_nil, if_true, pure_bind, bind_pure, bind_assoc, hne, hasc, Bool.false_eq_true, if_false,
    show (Value.str (PySem.Str.ofString "x") s.toks == Value.none) = false from rfl]
  refine wpAny_bind (wpAny_typeNameOf (T := "str") (typeIs_str _ _ _) (by decide) fun _ => ?_)
  refine wpAny_bind (wpAny_typeNameOfCut_int ?_)
  have hty : hexSpec.type.getD (if (PySem.Str.ofString "x").cps.back? == some 0 then 0 else 100) = 120 := rfl
  have hpr : hexSpec.precision = none := rfl
  have hz : hexSpec.noNeg0 = false := rfl
  have hal : hexSpec.alt = false := rfl
  have hw : hexSpec.width = none := rfl
  simp only [parse_x, hty]
  generalize hf : hexSpec = f at *
  rw [if_pos (by decide)]
  show wpAny _ _ (if _ then _ else _) _ _ _
  rw [if_neg (by simp [hpr])]
  show wpAny _ _ (if _ then _ else _) _ _ _
  rw [if_neg (by simp [hz])]
  show wpAny _ _ (if _ then _ else _) _ _ _
  rw [if_neg (by decide)]
  show wpAny _ _ (if _ then _ else _) _ _ _
  rw [if_neg (by decide)]
  show wpAny _ _ (if _ then _ else _) _ _ _
  rw [if_neg (by simp [hw])]
  have e1 : ((Nat.toDigits 16 a.natAbs).map fun c => (if (120 : Nat) == 88 then c.toUpper else c).toNat) = hexCodes a.natAbs := by
    unfold hexCodes
    refine List.map_congr_left fun c _ => ?_
    rw [if_neg (by decide)]
  rw [e1, decide_eq_false (by omega)]
  simp only [hal, Bool.false_eq_true, if_false]
  subst hf
  generalize hds : hexCodes a.natAbs = ds at *
  have hne2 : ds ≠ [] := by rw [← hds]; exact hexCodes_ne _
  cases ds with
  | nil => exact absurd rfl hne2
  | cons d r =>
  show wpAny _ _ (retStr (intField' hexSpec false [] (d :: r) [] 4)) _ _ _
  rw [hexField hne2]
  unfold retStr
  refine wpAny_bind (wpAny_mkStr (wpAny_pure ?_) ?_)
  · dsimp only
    have h' := h
    rw [show hexText a.natAbs = ⟨(d :: r).toArray⟩ from by rw [hexText, hds]] at h'
    exact wpAny_bind (wpAny_isInstance (typeIs_str _ _ _) isSubtype_str_str (wpAny_pure (h' _ _)))
  · show (d :: r).toArray.size ≤ sizeLine
    rw [List.size_toArray, sizeLine_eq]
    omega
end
end
section
theorem hexCore_len : ∀ (k fuel n : Nat) (ds : List Char), 1 ≤ k → n < 16 ^ k → (Nat.toDigitsCore 16 fuel n ds).length ≤ ds.length + k
  | _, 0, _, ds, _, _ => by simp [Nat.toDigitsCore]
  | k, fuel + 1, n, ds, hk, hn => by
    unfold Nat.toDigitsCore
    by_cases h0 : n / 16 = 0
    · simp only [h0, if_true, List.length_cons]; omega
    · simp only [h0, if_false]
      have hk2 : 2 ≤ k := by
        by_cases h1 : k = 1
        · subst h1; exfalso; apply h0; omega
        · omega
      have hn' : n / 16 < 16 ^ (k - 1) := by
        have e : 16 ^ k = 16 ^ (k - 1) * 16 := by rw [← Nat.pow_succ]; congr 1; omega
        rw [e] at hn
        exact Nat.div_lt_of_lt_mul (by rw [Nat.mul_comm]; exact hn)
      have ih := hexCore_len (k - 1) fuel (n / 16) (Nat.digitChar (n % 16) :: ds) (by omega) hn'
      simp only [List.length_cons] at ih
      omega
theorem hexCodes_len {n : Nat} (h : n < 4722366482869645213696) : (hexCodes n).length ≤ 18 := by
  have e : (4722366482869645213696 : Nat) = 16 ^ 18 := by decide
  rw [e] at h
  have := hexCore_len 18 (n + 1) n [] (by decide) h
  simpa [hexCodes, Nat.toDigits] using this
theorem hexText_len (n : Nat) : (hexText n).length = (hexCodes n).length := by
  show (hexCodes n).toArray.size = _
  rw [List.size_toArray]

theorem range8 (m : Nat) : Builtin.Range.rangeSize (m : Int) 0 (-8) = (((m + 7) / 8 : Nat) : Int) := by
  unfold Builtin.Range.rangeSize
  rw [if_neg (by decide), show (-(-8) : Int) = 8 by decide]
  split <;> omega
theorem ints1 {vs : List Value} (m : Nat) (h : IntsAre vs ((List.range 1).map fun i : Nat => (m : Int) + (((1 : Nat) : Int) - 1) * (-8) + (i : Int) * (- -8))) : ∃ t, vs = [.int (m : Int) t] := by
  rw [show ((List.range 1).map fun i : Nat => (m : Int) + (((1 : Nat) : Int) - 1) * (-8) + (i : Int) * (- -8)) = [(m : Int)] by simp [List.range_succ]] at h
  cases h with | cons _ t r => cases r; exact ⟨t, rfl⟩
theorem ints2 {vs : List Value} (m : Nat) (h : IntsAre vs ((List.range 2).map fun i : Nat => (m : Int) + (((2 : Nat) : Int) - 1) * (-8) + (i : Int) * (- -8))) : ∃ t u, vs = [.int ((m : Int) - 8) t, .int (m : Int) u] := by
  rw [show ((List.range 2).map fun i : Nat => (m : Int) + (((2 : Nat) : Int) - 1) * (-8) + (i : Int) * (- -8)) = [(m : Int) - 8, (m : Int)] by simp [List.range_succ]; omega] at h
  cases h with | cons _ t r => cases r with | cons _ u r => cases r; exact ⟨t, u, rfl⟩
theorem ints3 {vs : List Value} (m : Nat) (h : IntsAre vs ((List.range 3).map fun i : Nat => (m : Int) + (((3 : Nat) : Int) - 1) * (-8) + (i : Int) * (- -8))) : ∃ t u v, vs = [.int ((m : Int) - 16) t, .int ((m : Int) - 8) u, .int (m : Int) v] := by
  rw [show ((List.range 3).map fun i : Nat => (m : Int) + (((3 : Nat) : Int) - 1) * (-8) + (i : Int) * (- -8)) = [(m : Int) - 16, (m : Int) - 8, (m : Int)] by simp [List.range_succ]; omega] at h
  cases h with | cons _ t r => cases r with | cons _ u r => cases r with | cons _ v r => cases r; exact ⟨t, u, v, rfl⟩
theorem comp_end {h₀ : Heap} {L I C D : Addr} {m : PySem.Str → Option Value} {s₁ : Shared} {oI oC oD : Obj} {S : List (Addr × Obj) → Prop} {rest : Value → List (Addr × Obj) → Prop} {y : Value} {h' : Heap} {tk : Nat} {news' : List (Addr × Obj)}
    (F : Fr h₀ L h' m) (N : News h₀ L h' ((I, oI) :: (C, oC) :: (D, oD) :: news')) (off : LCg.Off3 I C D news') (hS : S news') (r : rest y news') :
    LCg.CompEnd h₀ L m s₁ I oI C oC D oD S rest y { s₁ with heap := h', toks := tk } := LCg.CompEnd.intro F N news' (fun _ hp => hp) off hS r
end
section
section
variable {prog : Program} {w : World} {A : Around} {E : Value → Shared → Prop} {s : Shared} {h₀ : Heap} {L : Addr} {m : PySem.Str → Option Value} {news : List (Addr × Obj)}
/-! ## reversed(range(..)) -/
abbrev riObj (x n c : Int) : Obj := { cls := .type "range_iterator", data := .fields #[rawInt x, rawInt n, rawInt c] }
theorem sub_ri_reversed : isSubtype (.type "range_iterator") (.type "reversed") = pure false := by rw [isSubtype_type]; kernel_rfl
theorem call_range_reversed {r : Addr} {a b c : Int} {t u v : Tok} {Q : Value → Shared → Prop} (hr : IsRange s.heap r a b c t u v)
    (hsm : (Builtin.Range.rangeFitsLong a && Builtin.Range.rangeFitsLong b && Builtin.Range.rangeFitsLong c && Builtin.Range.rangeFitsLong (-c) && Builtin.Range.rangeFitsLong (a - c) && Builtin.Range.rangeFitsLong (Builtin.Range.rangeSize a b c)) = true)
    (h : Q (.ref s.heap.objs.size) { s with heap := s.heap.push (riObj (a + (Builtin.Range.rangeSize a b c - 1) * c) (Builtin.Range.rangeSize a b c) (-c)) }) :
    wpAny (model prog w) A (call (.builtin "range.__reversed__") [.ref r]) Q E s := by
  have hT : s.TypeIs (.ref r) "range" := ⟨_, hr, rfl⟩
  refine wpAny_call_entry F.slot_range_reversed hT F.entry_range_reversed ?_ (F.args_range_reversed_1 _)
  unfold Builtin.«range.__reversed__»
  refine wpAny_bind (wpAny_of_eq (a := Value.ref r) rfl ?_)
  refine wpAny_bind ?_
  unfold Builtin.Range.rangeFields
  refine wpAny_bind (wpAny_field hr rfl (x := .int a t) rfl (wpAny_bind (wpAny_of_eq (a := some a) rfl ?_)))
  refine wpAny_bind (wpAny_field hr rfl (x := .int b u) rfl (wpAny_bind (wpAny_of_eq (a := some b) rfl ?_)))
  refine wpAny_bind (wpAny_field hr rfl (x := .int c v) rfl (wpAny_bind (wpAny_of_eq (a := some c) rfl ?_)))
  dsimp only
  refine wpAny_pure ?_
  dsimp only
  simp only [hsm, Bool.not_true, Bool.false_eq_true, if_false, if_true]
  repeat (first | exact ⟨_, rfl, h⟩ | refine wpAny_newObj_type ?_ | refine wpAny_pure ?_ | refine wpAny_bind ?_)
theorem code_reversed_range {r : Addr} {a b c : Int} {t u v : Tok} {Q₁ : Value → Shared → Prop} (hr : IsRange s.heap r a b c t u v)
    (hsm : (Builtin.Range.rangeFitsLong a && Builtin.Range.rangeFitsLong b && Builtin.Range.rangeFitsLong c && Builtin.Range.rangeFitsLong (-c) && Builtin.Range.rangeFitsLong (a - c) && Builtin.Range.rangeFitsLong (Builtin.Range.rangeSize a b c)) = true)
    (h : Q₁ (.ref s.heap.objs.size) { s with heap := s.heap.push (riObj (a + (Builtin.Range.rangeSize a b c - 1) * c) (Builtin.Range.rangeSize a b c) (-c)) }) :
    codeAny (model prog w) A (.call (.builtin "reversed.__new__") ⟨[.type "reversed", .ref r], []⟩) (wants Q₁ E) s := by
  have hT : s.TypeIs (.ref r) "range" := ⟨_, hr, rfl⟩
  refine codeAny_of_tree ?_
  show wpAny _ A.in1 (do checkBuiltinCall "reversed.__new__" ⟨[.type "reversed", .ref r], []⟩; again (.builtin "reversed.__new__" ⟨[.type "reversed", .ref r], []⟩)) _ _ s
  refine wpAny_bind (wpAny_of_eq (F.newCall_reversed_1 _) (wpAny_pure ⟨plainId_quiet F.plain_reversed_new _, codeAny_builtin F.entry_reversed_new ?_⟩))
  rw [Around.under_plainId F.plain_reversed_new _]
  unfold Builtin.«reversed.__new__»
  refine wpAny_bind (wpAny_of_eq (newClass_reversed _) ?_)
  try dsimp only
  refine wpAny_bind (wpAny_of_eq (a := ()) (by first | rfl | kernel_rfl) ?_)
  refine wpAny_bind (wpAny_of_eq (a := ()) (by first | rfl | kernel_rfl) ?_)
  try dsimp only
  refine wpAny_bind (wpAny_specialOf hT F.slot_range_reversed.lookup ?_)
  try dsimp only
  refine wpAny_bind (wpAny_of_eq (F.slot_range_reversed.bind _) ?_)
  try dsimp only
  first
  | rw [if_neg (show ¬ ((Value.builtin "range.__reversed__" == Value.none) = true) from Bool.false_ne_true)]
  | (show wpAny _ _ (if (Value.builtin "range.__reversed__" == Value.none) = true then _ else _) _ _ _; rw [if_neg (show ¬ ((Value.builtin "range.__reversed__" == Value.none) = true) from Bool.false_ne_true)])
  refine wpAny_bind (wpAny_rule ?_)
  refine wpAny_bind (m := runValue (.call (.builtin "range.__reversed__") ⟨[.ref r], []⟩)) (show wpAny _ _ (call (.builtin "range.__reversed__") [.ref r]) _ _ _ from call_range_reversed hr hsm ?_)
  first
  | exact wpAny_pure h
  | exact wpAny_bind (wpAny_pure (wpAny_pure h))
theorem call_reversed_range {r : Addr} {a b c : Int} {t u v : Tok} {Q : Value → Shared → Prop} (hr : IsRange s.heap r a b c t u v)
    (hsm : (Builtin.Range.rangeFitsLong a && Builtin.Range.rangeFitsLong b && Builtin.Range.rangeFitsLong c && Builtin.Range.rangeFitsLong (-c) && Builtin.Range.rangeFitsLong (a - c) && Builtin.Range.rangeFitsLong (Builtin.Range.rangeSize a b c)) = true)
    (h : Q (.ref s.heap.objs.size) { s with heap := s.heap.push (riObj (a + (Builtin.Range.rangeSize a b c - 1) * c) (Builtin.Range.rangeSize a b c) (-c)) }) :
    wpAny (model prog w) A (call (.type "reversed") [.ref r]) Q E s := by
  refine callType_other (U := "range_iterator") (Q₁ := fun obj s₁ => obj = .ref s.heap.objs.size ∧ s₁ = { s with heap := s.heap.push (riObj (a + (Builtin.Range.rangeSize a b c - 1) * c) (Builtin.Range.rangeSize a b c) (-c)) }) (by decide +kernel) F.create_reversed ⟨_, _, F.mro_reversed⟩ F.made_reversed sub_ri_reversed (F.typeCall_reversed_1 _) (code_reversed_range hr hsm ⟨rfl, rfl⟩) ?_
  rintro obj s₁ ⟨rfl, rfl⟩
  exact ⟨⟨_, Heap.get?_push_size _ rfl, rfl⟩, h⟩
/-- An iterator over a range, made by the call, none of the frame's, none of the ledger's. -/
def RIt (h₀ h : Heap) (L : Addr) (news : List (Addr × Obj)) (it : Addr) (x : Int) (n : Nat) (c : Int) : Prop :=
  IsRangeIter h it x n c ∧ h₀.get? it = none ∧ it ≠ L ∧ ∀ p ∈ news, p.1 ≠ it
theorem reversed_K {r : Addr} {a b c : Int} {t u v : Tok} {n : Nat} {Q : Value → Shared → Prop} (F : Fr h₀ L s.heap m) (N : News h₀ L s.heap news) (hr : IsRange s.heap r a b c t u v)
    (hn : Builtin.Range.rangeSize a b c = n) (ha : -1000000 ≤ a ∧ a ≤ 1000000) (hb : -1000000 ≤ b ∧ b ≤ 1000000) (hc : -1000000 ≤ c ∧ c ≤ 1000000) (hn2 : n ≤ 1000000)
    (h : ∀ it h', Fr h₀ L h' m → News h₀ L h' news → RIt h₀ h' L news it (a + ((n : Int) - 1) * c) n (-c) → Q (.ref it) { s with heap := h' }) :
    wpAny (model prog w) A (call (.type "reversed") [.ref r]) Q E s := by
  refine call_reversed_range hr ?_ ?_
  · rw [hn]
    unfold Builtin.Range.rangeFitsLong
    simp only [Bool.and_eq_true, decide_eq_true_eq]
    omega
  · rw [hn]
    have F' := F.push (riObj (a + ((n : Int) - 1) * c) n (-c))
    refine h _ _ F' (fun p hp => (N.push F (riObj (a + ((n : Int) - 1) * c) n (-c))) p (List.mem_cons_of_mem _ hp)) ⟨Heap.get?_push_size _ rfl, ?_, ?_, fun p hp => Nat.ne_of_lt (Heap.lt_size (N p hp).1)⟩
    · cases q : h₀.get? s.heap.objs.size with
      | none => rfl
      | some o => exact absurd (Heap.lt_size (F.keep _ _ q)) (Nat.lt_irrefl _)
    · exact Nat.ne_of_gt F.ns.lt

/-! ## list(it) of such an iterator -/
theorem no_ri_len : typeLookup (.type "range_iterator") "__len__" = pure none := by rw [typeLookup_type, builtinLookup_eq_fast]; kernel_rfl
theorem split_ri : splitId "range_iterator.__length_hint__" = some ("range_iterator", "__length_hint__") := by decide +kernel
theorem sub_ri : isSubtype (.type "range_iterator") (.type "range_iterator") = pure true := by rw [isSubtype_type]; kernel_rfl
theorem hint_ri {it : Addr} {x c : Int} {n : Nat} {Q : Bool → Shared → Prop} (hit : IsRangeIter s.heap it x n c) (hn : n ≤ 1000) (h : ∀ tk, Q false { s with toks := tk }) :
    wpAny (model prog w) A (Builtin.List.listLengthHint (.ref it)) Q E s := by
  have hT : s.TypeIs (.ref it) "range_iterator" := ⟨_, hit, rfl⟩
  unfold Builtin.List.listLengthHint
  refine wpAny_bind (wpAny_specialOf hT no_ri_len ?_)
  dsimp only
  refine bm_if_false (by decide +kernel) ?_
  refine bm_if_false rfl ?_
  refine wpAny_bind (wpAny_specialOf hT F.slot_range_iterator_length_hint.lookup ?_)
  dsimp only
  rw [split_ri]
  dsimp only
  refine wpAny_bind (wpAny_isInstance hT sub_ri ?_)
  refine bm_if_false rfl ?_
  refine bm_if_true (by decide +kernel) ?_
  refine bm_if_true (by decide) ?_
  refine wpAny_bind (wpAny_call_entry F.slot_range_iterator_length_hint hT F.entry_range_iterator_length_hint ?_ (F.args_range_iterator_length_hint_1 _))
  unfold Builtin.«range_iterator.__length_hint__»
  refine wpAny_bind (wpAny_of_eq (a := Value.ref it) rfl ?_)
  refine wpAny_bind (wpAny_field hit rfl (x := rawInt n) rfl ?_)
  refine wpAny_ret_mkInt ?_
  refine wpAny_bind (wpAny_of_eq (a := some (n : Int)) rfl ?_)
  dsimp only
  refine bm_if_false (by show Builtin.List.listTooLong ((n : Int).toNat) = false; simp [Builtin.List.listTooLong, sizeLine]; omega) ?_
  exact wpAny_pure (h _)

theorem extend_ri {R : Result → Shared → Prop} {it : Addr} {x c : Int} {n : Nat} (hh : A.handled = none) (hit : IsRangeIter s.heap it x n c) (hn : n ≤ 1000) (S : Addr) (res : Value) (c₀ : Nat) (hS : s.heap.get? S = some { cls := .type "list", data := .seq #[] c₀ })
    (hR : ∀ h' tk acc' c', (∀ b o, b ≠ S → b ≠ it → s.heap.get? b = some o → h'.get? b = some o) → h'.get? S = some { cls := .type "list", dict := none, data := .seq acc' c', slots := #[] } →
      ItemsOf (fun i v => ∃ t, v = .int (x + i * c) t) acc' n → R (.ok (.ret res)) { s with heap := h', toks := tk }) :
    wpAny (model prog w) A.in1 (Builtin.List.listExtendWith (.ref S) (.ref it) res)
      (fun fin s' => match fin with | .done f => R (.ok f) s' | .again c' => c'.quiet = true ∧ codeAny (model prog w) A c' R s') (fun e s' => R (.error e) s') s := by
  have hSr : S ≠ it := fun e => by rw [e, hit] at hS; simp at hS
  have hSf : S ∉ [it] := fun hm => hSr (List.mem_singleton.mp hm)
  have W := (Walks.range (prog := prog) (w := w) (A := A.in1) hh it x c n).toS
  have hT : s.TypeIs (.ref it) "range_iterator" := ⟨_, hit, rfl⟩
  unfold Builtin.List.listExtendWith
  refine wpAny_bind (wpAny_typeOf hT ?_)
  have h1 : Builtin.List.listSameRef (.ref S) (.ref it) = false := by simp [Builtin.List.listSameRef, hSr]
  have h2 : (Value.type "range_iterator" == Value.type "list") = false := by decide
  have h3 : (Value.type "range_iterator" == Value.type "tuple") = false := by decide
  simp only [h1, h2, h3, Bool.or_false, Bool.false_eq_true, if_false]
  refine wpAny_bind (wpAny_pyIter_rangeiter hit ?_)
  refine wpAny_bind (wpAny_holding (hint_ri hit hn fun tk => ?_))
  refine wpAny_ite_split (fun q => absurd q Bool.false_ne_true) (fun _ => wpAny_pure ⟨plainId_quiet F.plain_extend_loop _, ?_⟩)
  refine codeAny_extend_loopS W (by rw [sizeLine_eq]; omega) S hSf res n 0 _ #[] c₀ rfl (Nat.zero_le _) (by show IsRangeIter _ _ _ _ _; simpa using hit) hS (ItemsOf.nil _) fun s' acc' c' hm hS' hacc => ?_
  rw [Moved.eq_with hm]
  refine hR s'.heap s'.toks acc' c' (fun b o hb hb2 e => hm.heap b o (fun hmem => ?_) e) hS' hacc
  rcases List.mem_cons.mp hmem with e' | hmem
  · exact hb e'
  · exact hb2 (List.mem_singleton.mp hmem)
theorem init_ri {R : Result → Shared → Prop} {it : Addr} {x c : Int} {n : Nat} (hh : A.handled = none) (hit : IsRangeIter s.heap it x n c) (hn : n ≤ 1000) (S : Addr) (hS : s.heap.get? S = some { cls := .type "list", data := .seq #[] })
    (hR : ∀ h' tk acc' c', (∀ b o, b ≠ S → b ≠ it → s.heap.get? b = some o → h'.get? b = some o) → h'.get? S = some { cls := .type "list", dict := none, data := .seq acc' c', slots := #[] } →
      ItemsOf (fun i v => ∃ t, v = .int (x + i * c) t) acc' n → R (.ok (.ret .none)) { s with heap := h', toks := tk }) :
    wpAny (model prog w) A.in1 (Builtin.«list.__init__» ⟨[.ref S, .ref it], []⟩)
      (fun fin s' => match fin with | .done f => R (.ok f) s' | .again c' => c'.quiet = true ∧ codeAny (model prog w) A c' R s') (fun e s' => R (.error e) s') s := by
  have hSr : S ≠ it := fun e => by rw [e, hit] at hS; simp at hS
  show wpAny _ _ (do let old ← Builtin.List.listItems (.ref S); Builtin.List.listUpdate (.ref S) (fun _ => #[]); letGo old.toList.reverse; Builtin.List.listExtendWith (.ref S) (.ref it) .none) _ _ s
  refine wpAny_bind ?_
  unfold Builtin.List.listItems
  refine wpAny_bind (wpAny_seqItems hS rfl (wpAny_pure ?_))
  show wpAny _ _ (updateSeq S (fun _ => #[]) >>= fun _ => letGo (#[] : Array Value).toList.reverse >>= fun _ => Builtin.List.listExtendWith (.ref S) (.ref it) .none) _ _ s
  refine wpAny_bind (wpAny_updateSeq hS rfl ?_)
  have hS₂ := Heap.get?_update_self (Obj.mapSeq (fun _ => (#[] : Array Value))) hS rfl
  have oth : ∀ b o, b ≠ S → s.heap.get? b = some o → (s.heap.update S (Obj.mapSeq (fun _ => (#[] : Array Value)))).get? b = some o :=
    fun b o hb e => (Heap.get?_update_other _ _ (Ne.symm hb)).trans e
  refine wpAny_bind (wpAny_letGo ?_)
  refine extend_ri hh (oth it _ (Ne.symm hSr) hit) hn S .none _ hS₂ fun h' tk acc' c' hk hS' hacc => ?_
  exact hR h' tk acc' c' (fun b o hb hb2 e => hk b o hb hb2 (oth b o hb e)) hS' hacc
theorem call_list_ri {it : Addr} {x c : Int} {n : Nat} {Q : Value → Shared → Prop} (hh : A.handled = none) (hit : IsRangeIter s.heap it x n c) (hn : n ≤ 1000)
    (hQ : ∀ h' tk acc' c', (∀ b o, b ≠ it → s.heap.get? b = some o → h'.get? b = some o) →
      h'.get? s.heap.objs.size = some { cls := .type "list", dict := none, data := .seq acc' c', slots := #[] } → ItemsOf (fun i v => ∃ t, v = .int (x + i * c) t) acc' n → Q (.ref s.heap.objs.size) { s with heap := h', toks := tk }) :
    wpAny (model prog w) A (call (.type "list") [.ref it]) Q E s := by
  refine callType_codes (Q₁ := fun obj s₁ => obj = .ref s.heap.objs.size ∧ s₁ = { s with heap := s.heap.push { cls := .type "list", data := .seq #[] } }) F.called_list (F.typeCall_list_1 _) F.entry_list_init
    (code_list_new _ ⟨rfl, rfl⟩) fun obj s₁ h₁ => ?_
  obtain ⟨rfl, rfl⟩ := h₁
  have hS : (s.heap.push { cls := .type "list", data := .seq #[] }).get? s.heap.objs.size = some { cls := .type "list", data := .seq #[] } := Heap.get?_push_size _ rfl
  refine ⟨⟨_, hS, rfl⟩, F.args_list_init_2 _ _, init_ri (A := A.in1) hh (Heap.get?_push_of_some _ hit) hn _ hS fun h' tk acc' c' hk hS' hacc => ?_⟩
  exact ⟨rfl, hQ h' tk acc' c' (fun b o hb e => hk b o (Nat.ne_of_lt (Heap.lt_size e)) hb (Heap.get?_push_of_some _ e)) hS' hacc⟩
theorem ints_of_items : ∀ (vs : List Value) (ns : List Int), vs.length = ns.length → (∀ (j : Nat) v, vs[j]? = some v → ∃ t, v = .int (ns.getD j 0) t) → IntsAre vs ns
  | [], [], _, _ => .nil
  | [], _ :: _, h, _ => by simp at h
  | _ :: _, [], h, _ => by simp at h
  | v :: vs, k :: ns, h, g => by
    obtain ⟨t, e⟩ := g 0 v rfl
    have e' : v = .int k t := e
    rw [e']
    exact .cons k t (ints_of_items vs ns (by simpa using h) fun j v hv => g (j + 1) v (by simpa using hv))
theorem list_K {it : Addr} {x c : Int} {n : Nat} {Q : Value → Shared → Prop} (F : Fr h₀ L s.heap m) (N : News h₀ L s.heap news) (hh : A.handled = none) (R : RIt h₀ s.heap L news it x n c) (hn : n ≤ 1000)
    (h : ∀ D h' tk vs k, Fr h₀ L h' m → News h₀ L h' ((D, W.listOf (List.toArray vs) k) :: news) → (∀ p ∈ news, p.1 < D) → IntsAre vs ((List.range n).map fun i : Nat => x + (i : Int) * c) → Q (.ref D) { s with heap := h', toks := tk }) :
    wpAny (model prog w) A (call (.type "list") [.ref it]) Q E s := by
  obtain ⟨hit, hnew, hL, hoff⟩ := R
  refine call_list_ri hh hit hn fun h' tk acc' k hk hS' hacc => ?_
  refine h s.heap.objs.size h' tk acc'.toList k ?_ ?_ (fun p hp => Heap.lt_size (N p hp).1) ?_
  · obtain ⟨oL, a1, a2, hoL, a3⟩ := F.ns
    exact ⟨⟨oL, a1, a2, hk _ _ (Ne.symm hL) hoL, a3⟩, fun b o e => hk b o (fun q => by rw [q, hnew] at e; cases e) (F.keep b o e), F.above⟩
  · intro p hp
    rcases List.mem_cons.mp hp with rfl | hp
    · refine ⟨by simpa using hS', Nat.ne_of_gt F.ns.lt, ?_⟩
      cases q : h₀.get? s.heap.objs.size with
      | none => rfl
      | some o => exact absurd (Heap.lt_size (F.keep _ _ q)) (Nat.lt_irrefl _)
    · exact ⟨hk _ _ (hoff p hp) (N p hp).1, (N p hp).2⟩
  · refine ints_of_items _ _ (by simp [hacc.1]) fun j v hv => ?_
    have hv' : acc'[j]? = some v := by simpa using hv
    obtain ⟨t, rfl⟩ := hacc.2 j v hv'
    have hj : j < n := by
      have := (Array.getElem?_eq_some_iff.mp hv').1
      rw [hacc.1] at this; exact this
    exact ⟨t, by simp [hj]⟩
end
end
section
def upC (c : Nat) : Nat := if 97 ≤ c then c - 32 else c
def pad2 (l : List Nat) : List Nat := if l.length % 2 = 0 then l else 48 :: l
def grp (l : List Nat) : List Nat :=
  if l.length ≤ 8 then l else if l.length ≤ 16 then l.take (l.length - 8) ++ 32 :: l.drop (l.length - 8)
  else l.take (l.length - 16) ++ 32 :: ((l.drop (l.length - 16)).take 8 ++ 32 :: l.drop (l.length - 8))
def hexPad (n : Nat) : List Nat := (pad2 (hexCodes n)).map upC
def hexTold (n : Nat) : PySem.Str := ⟨(grp (hexPad n)).toArray⟩
abbrev LowHex (c : Nat) : Prop := c < 103 ∧ ((48 ≤ c ∧ c ≤ 57) ∨ (97 ≤ c ∧ c ≤ 102) ∨ c = 32)
theorem upperOf_fin : ∀ c : Fin 103, LowHex c.val → Unicode.upperOf c.val = [upC c.val] := by decide +kernel
theorem upperOf_low {c : Nat} (h : LowHex c) : Unicode.upperOf c = [upC c] := upperOf_fin ⟨c, h.1⟩ h
theorem placed_low (l : List Nat) (h : ∀ c ∈ l, LowHex c) : Txt.upper ⟨l.toArray⟩ = ⟨(l.map upC).toArray⟩ := by
  unfold Txt.upper placed
  have e : (l.toArray.mapIdx fun _ c => (Unicode.upperOf c).toArray) = (l.map fun c => #[upC c]).toArray := by
    rw [List.mapIdx_toArray]
    congr 1
    apply List.ext_getElem?
    intro i
    rw [List.getElem?_mapIdx, List.getElem?_map]
    cases q : l[i]? with
    | none => rfl
    | some c =>
      show some (Unicode.upperOf c).toArray = some #[upC c]
      rw [upperOf_low (h c (List.mem_of_getElem? q))]
  show (⟨(l.toArray.mapIdx fun _ c => (Unicode.upperOf c).toArray).flatten⟩ : PySem.Str) = _
  rw [e]
  congr 1
  apply Array.toList_inj.mp
  clear e h
  rw [Array.toList_flatten]
  induction l with
  | nil => rfl
  | cons a r ih => simp_all
theorem slice_int (Y : List Nat) {i j : Int} (h : 0 ≤ i ∧ i ≤ j ∧ j ≤ Y.length) : Txt.slice ⟨Y.toArray⟩ (some i) (some j) = ⟨((Y.drop i.toNat).take (j - i).toNat).toArray⟩ :=
  StrLaws.sliceText_plain (x := ⟨Y.toArray⟩) h
theorem join1 (a : List Nat) : Txt.join (PySem.Str.ofString " ") [⟨a.toArray⟩] = ⟨a.toArray⟩ := by
  unfold Txt.join; rw [StrLaws.glued_eq_join]; rfl
theorem str_app (a b : List Nat) : (⟨a.toArray⟩ : PySem.Str) ++ ⟨b.toArray⟩ = ⟨(a ++ b).toArray⟩ := by
  show (⟨a.toArray ++ b.toArray⟩ : PySem.Str) = _
  rw [List.append_toArray]
theorem join2 (a b : List Nat) : Txt.join (PySem.Str.ofString " ") [⟨a.toArray⟩, ⟨b.toArray⟩] = ⟨(a ++ 32 :: b).toArray⟩ := by
  unfold Txt.join; rw [StrLaws.glued_eq_join]
  show (⟨a.toArray⟩ : PySem.Str) ++ ⟨[32].toArray⟩ ++ ⟨b.toArray⟩ = _
  rw [str_app, str_app]; simp
theorem join3 (a b c : List Nat) : Txt.join (PySem.Str.ofString " ") [⟨a.toArray⟩, ⟨b.toArray⟩, ⟨c.toArray⟩] = ⟨(a ++ 32 :: (b ++ 32 :: c)).toArray⟩ := by
  unfold Txt.join; rw [StrLaws.glued_eq_join]
  show (⟨a.toArray⟩ : PySem.Str) ++ ⟨[32].toArray⟩ ++ ((⟨b.toArray⟩ : PySem.Str) ++ ⟨[32].toArray⟩ ++ ⟨c.toArray⟩) = _
  rw [str_app, str_app, str_app, str_app]; simp
theorem grp_map (f : Nat → Nat) (hf : f 32 = 32) (l : List Nat) : grp (l.map f) = (grp l).map f := by
  unfold grp
  rw [List.length_map]
  split
  · rfl
  · split
    · simp [hf]
    · simp [hf]
theorem mem_grp {l : List Nat} {c : Nat} (h : c ∈ grp l) : c ∈ l ∨ c = 32 := by
  unfold grp at h
  split at h
  · exact .inl h
  · split at h
    · rcases List.mem_append.mp h with h | h
      · exact .inl (List.mem_of_mem_take h)
      · rcases List.mem_cons.mp h with h | h
        · exact .inr h
        · exact .inl (List.mem_of_mem_drop h)
    · rcases List.mem_append.mp h with h | h
      · exact .inl (List.mem_of_mem_take h)
      · rcases List.mem_cons.mp h with h | h
        · exact .inr h
        · rcases List.mem_append.mp h with h | h
          · exact .inl (List.mem_of_mem_drop (List.mem_of_mem_take h))
          · rcases List.mem_cons.mp h with h | h
            · exact .inr h
            · exact .inl (List.mem_of_mem_drop h)
theorem upC32 : upC 32 = 32 := by decide
theorem upper_grp (Y : List Nat) (h : ∀ c ∈ Y, LowHex c) : Txt.upper ⟨(grp Y).toArray⟩ = ⟨(grp (Y.map upC)).toArray⟩ := by
  rw [grp_map upC upC32, placed_low]
  intro c hc
  rcases mem_grp hc with hc | rfl
  · exact h c hc
  · decide
theorem grp_len (l : List Nat) : (grp l).length ≤ l.length + 2 := by
  unfold grp
  split
  · omega
  · split
    · simp; omega
    · simp; omega
theorem tooLong_of {n : Nat} (h : n ≤ 1000) : Builtin.Str.tooLong n = false := by
  cases q : Builtin.Str.tooLong n with
  | false => rfl
  | true => exfalso; unfold Builtin.Str.tooLong at q; simp [sizeLine] at q; omega
/-- the three ways of the groups, in hex_string's own words -/
theorem told1 (y : PySem.Str) (hy : ∀ c ∈ y.cps.toList, LowHex c) (h : y.length ≤ 8) {i : Int} (hi : i = 0) :
    Txt.upper (Txt.join (PySem.Str.ofString " ") [Txt.slice y (some i) (some (y.length : Int))]) = ⟨(grp (y.cps.toList.map upC)).toArray⟩ := by
  obtain ⟨⟨Y⟩⟩ := y
  have hl : (⟨⟨Y⟩⟩ : PySem.Str).length = Y.length := rfl
  rw [hl] at h ⊢
  subst hi
  have e := slice_int Y (i := 0) (j := (Y.length : Int)) (by omega)
  rw [show Txt.slice ⟨⟨Y⟩⟩ (some 0) (some (Y.length : Int)) = _ from e, join1]
  have e2 : (Y.drop (0 : Int).toNat).take ((Y.length : Int) - 0).toNat = grp Y := by
    unfold grp; rw [if_pos h]; simp
  rw [e2, upper_grp Y hy]
theorem told2 (y : PySem.Str) (hy : ∀ c ∈ y.cps.toList, LowHex c) (h : 8 < y.length ∧ y.length ≤ 16) {i j : Int} (hi : i = 0) (hj : j = (y.length : Int) - 8) :
    Txt.upper (Txt.join (PySem.Str.ofString " ") [Txt.slice y (some i) (some ((y.length : Int) - 8)), Txt.slice y (some j) (some (y.length : Int))]) = ⟨(grp (y.cps.toList.map upC)).toArray⟩ := by
  obtain ⟨⟨Y⟩⟩ := y
  have hl : (⟨⟨Y⟩⟩ : PySem.Str).length = Y.length := rfl
  rw [hl] at h hj ⊢
  subst hi hj
  have e := slice_int Y (i := 0) (j := (Y.length : Int) - 8) (by omega)
  have e' := slice_int Y (i := (Y.length : Int) - 8) (j := (Y.length : Int)) (by omega)
  rw [show Txt.slice ⟨⟨Y⟩⟩ (some 0) (some ((Y.length : Int) - 8)) = _ from e, show Txt.slice ⟨⟨Y⟩⟩ (some ((Y.length : Int) - 8)) (some (Y.length : Int)) = _ from e', join2]
  have e2 : (Y.drop (0 : Int).toNat).take ((Y.length : Int) - 8 - 0).toNat ++ 32 :: (Y.drop ((Y.length : Int) - 8).toNat).take ((Y.length : Int) - ((Y.length : Int) - 8)).toNat = grp Y := by
    unfold grp; rw [if_neg (by omega), if_pos h.2, show ((Y.length : Int) - 8 - 0).toNat = Y.length - 8 by omega, show ((Y.length : Int) - 8).toNat = Y.length - 8 by omega, show ((Y.length : Int) - ((Y.length : Int) - 8)).toNat = 8 by omega]
    congr 2
    apply List.take_of_length_le
    simp; omega
  rw [e2, upper_grp Y hy]
theorem told3 (y : PySem.Str) (hy : ∀ c ∈ y.cps.toList, LowHex c) (h : 16 < y.length ∧ y.length ≤ 24) {i j k : Int} (hi : i = 0) (hj : j = (y.length : Int) - 16) (hk : k = (y.length : Int) - 8) :
    Txt.upper (Txt.join (PySem.Str.ofString " ") [Txt.slice y (some i) (some ((y.length : Int) - 16)), Txt.slice y (some j) (some ((y.length : Int) - 8)), Txt.slice y (some k) (some (y.length : Int))]) = ⟨(grp (y.cps.toList.map upC)).toArray⟩ := by
  obtain ⟨⟨Y⟩⟩ := y
  have hl : (⟨⟨Y⟩⟩ : PySem.Str).length = Y.length := rfl
  rw [hl] at h hj hk ⊢
  subst hi hj hk
  have e := slice_int Y (i := 0) (j := (Y.length : Int) - 16) (by omega)
  have e' := slice_int Y (i := (Y.length : Int) - 16) (j := (Y.length : Int) - 8) (by omega)
  have e'' := slice_int Y (i := (Y.length : Int) - 8) (j := (Y.length : Int)) (by omega)
  rw [show Txt.slice ⟨⟨Y⟩⟩ (some 0) (some ((Y.length : Int) - 16)) = _ from e, show Txt.slice ⟨⟨Y⟩⟩ (some ((Y.length : Int) - 16)) (some ((Y.length : Int) - 8)) = _ from e', show Txt.slice ⟨⟨Y⟩⟩ (some ((Y.length : Int) - 8)) (some (Y.length : Int)) = _ from e'', join3]
  have e2 : (Y.drop (0 : Int).toNat).take ((Y.length : Int) - 16 - 0).toNat ++ 32 :: ((Y.drop ((Y.length : Int) - 16).toNat).take ((Y.length : Int) - 8 - ((Y.length : Int) - 16)).toNat ++ 32 :: (Y.drop ((Y.length : Int) - 8).toNat).take ((Y.length : Int) - ((Y.length : Int) - 8)).toNat) = grp Y := by
    unfold grp; rw [if_neg (by omega), if_neg (by omega), show ((Y.length : Int) - 16 - 0).toNat = Y.length - 16 by omega, show ((Y.length : Int) - 8).toNat = Y.length - 8 by omega, show ((Y.length : Int) - 16).toNat = Y.length - 16 by omega, show ((Y.length : Int) - ((Y.length : Int) - 8)).toNat = 8 by omega, show ((Y.length : Int) - 8 - ((Y.length : Int) - 16)).toNat = 8 by omega]
    congr 4
    apply List.take_of_length_le
    simp; omega
  rw [e2, upper_grp Y hy]
theorem told_fits (y : PySem.Str) (h : y.length ≤ 24) : Builtin.Str.tooLong (⟨(grp (y.cps.toList.map upC)).toArray⟩ : PySem.Str).length = false := by
  apply tooLong_of
  have := grp_len (y.cps.toList.map upC)
  have e : y.length = y.cps.toList.length := rfl
  show (grp _).toArray.size ≤ _
  rw [List.size_toArray]
  rw [List.length_map] at this
  omega
theorem upper_call {prog : Program} {w : World} {A : Around} {E : Value → Shared → Prop} {s : Shared} {x y : PySem.Str} {t : Tok} {Q : Value → Shared → Prop} (e : Txt.upper x = y) (hf : Builtin.Str.tooLong y.length = false) (h : ∀ t' k, Q (.str y t') { s with toks := k }) :
    wpAny (model prog w) A (call (.builtin "str.upper") [.str x t]) Q E s := KXw.upper e (by rw [e]; exact hf) h
/-! ## the digits -/
theorem digitChar_low : ∀ d : Fin 16, LowHex (Nat.digitChar d.val).toNat := by decide
theorem core_low : ∀ (fuel n : Nat) (ds : List Char), (∀ c ∈ ds, LowHex c.toNat) → ∀ c ∈ Nat.toDigitsCore 16 fuel n ds, LowHex c.toNat
  | 0, _, ds, h => by simpa [Nat.toDigitsCore] using h
  | fuel + 1, n, ds, h => by
    have hd : LowHex (Nat.digitChar (n % 16)).toNat := digitChar_low ⟨n % 16, Nat.mod_lt _ (by decide)⟩
    have h' : ∀ c ∈ Nat.digitChar (n % 16) :: ds, LowHex c.toNat := fun c hc => by
      rcases List.mem_cons.mp hc with rfl | hc
      · exact hd
      · exact h c hc
    unfold Nat.toDigitsCore
    by_cases h0 : n / 16 = 0
    · simp only [h0, if_true]; exact h'
    · simp only [h0, if_false]; exact core_low fuel (n / 16) _ h'
theorem hexCodes_low (n : Nat) : ∀ c ∈ hexCodes n, LowHex c := by
  intro c hc
  obtain ⟨d, hd, rfl⟩ := List.mem_map.mp hc
  exact core_low _ _ _ (fun _ h => absurd h List.not_mem_nil) d hd
theorem hexText_low (n : Nat) : ∀ c ∈ (hexText n).cps.toList, LowHex c := by
  intro c hc
  exact hexCodes_low n c (by simpa [hexText] using hc)
theorem hexText_low0 (n : Nat) : ∀ c ∈ (PySem.Str.ofString "0" ++ hexText n).cps.toList, LowHex c := by
  intro c hc
  have e : (PySem.Str.ofString "0" ++ hexText n).cps.toList = 48 :: hexCodes n := by
    show (#[48] ++ (hexCodes n).toArray).toList = _
    simp
  rw [e] at hc
  rcases List.mem_cons.mp hc with rfl | hc
  · decide
  · exact hexCodes_low n c hc
theorem told_even (n : Nat) (h : (hexCodes n).length % 2 = 0) : (⟨(grp ((hexText n).cps.toList.map upC)).toArray⟩ : PySem.Str) = hexTold n := by
  unfold hexTold hexPad pad2; rw [if_pos h]; simp [hexText]
theorem told_odd (n : Nat) (h : ¬ (hexCodes n).length % 2 = 0) : (⟨(grp ((PySem.Str.ofString "0" ++ hexText n).cps.toList.map upC)).toArray⟩ : PySem.Str) = hexTold n := by
  unfold hexTold hexPad pad2; rw [if_neg h]
  have e : (PySem.Str.ofString "0" ++ hexText n).cps.toList = 48 :: hexCodes n := by
    show (#[48] ++ (hexCodes n).toArray).toList = _
    simp
  rw [e]
end
section
/-! ## the law's own digits -/
def dU (d : Nat) : Nat := upC (Nat.digitChar d).toNat
def Dg (n : Nat) : List Nat := if n = 0 then [] else (hexCodes n).map upC
theorem Dg_step {n : Nat} (h : 0 < n) : Dg n = Dg (n / 16) ++ [dU (n % 16)] := by
  unfold Dg
  rw [if_neg (by omega)]
  by_cases h16 : n < 16
  · have e : n / 16 = 0 := by omega
    have e2 : n % 16 = n := by omega
    rw [e, if_pos rfl, e2]
    unfold hexCodes
    rw [Nat.toDigits_of_lt_base h16]
    rfl
  · rw [if_neg (by omega)]
    unfold hexCodes
    rw [Nat.toDigits_of_base_le (by decide) (by omega : 16 ≤ n)]
    simp [dU]
def GOk (n z : Nat) (S : List Nat) : Prop :=
  Dg z ++ S = Dg n ∨ (z = 0 ∧ S = 48 :: Dg n ∧ ((Dg n).length % 2 = 1 ∨ n = 0)) ∨ (z = 0 ∧ n = 0 ∧ S = [48, 48])
theorem g_start (n : Nat) : GOk n n [] := .inl (List.append_nil _)
theorem Dg_zero : Dg 0 = [] := rfl
theorem Dg_nil {n : Nat} (h : Dg n = []) : n = 0 := by
  unfold Dg at h
  split at h
  · assumption
  · exact absurd (List.map_eq_nil_iff.mp h) (hexCodes_ne n)
theorem g_turn {n z : Nat} {S : List Nat} (g : GOk n z S) (h : 0 < z ∨ S = [] ∨ S.length % 2 = 1) : GOk n (z / 16) (dU (z % 16) :: S) := by
  by_cases hz : 0 < z
  · rcases g with g | ⟨e, _⟩ | ⟨e, _⟩
    · refine .inl ?_
      rw [Dg_step hz] at g
      rw [← g]; simp
    · omega
    · omega
  · have hz0 : z = 0 := by omega
    subst hz0
    have h2 : S = [] ∨ S.length % 2 = 1 := by rcases h with h | h; omega; exact h
    have e0 : dU (0 % 16) = 48 := by decide
    rw [e0]
    show GOk n 0 _
    rcases g with g | ⟨_, g, g2⟩ | ⟨_, _, g⟩
    · rw [Dg_zero, List.nil_append] at g
      subst g
      refine .inr (.inl ⟨rfl, rfl, ?_⟩)
      rcases h2 with h2 | h2
      · exact .inr (Dg_nil h2)
      · exact .inl h2
    · subst g
      rcases h2 with h2 | h2
      · cases h2
      · rw [List.length_cons] at h2
        rcases g2 with g2 | g2
        · omega
        · subst g2
          exact .inr (.inr ⟨rfl, rfl, rfl⟩)
    · subst g
      rcases h2 with h2 | h2
      · cases h2
      · simp at h2
theorem g_end {n : Nat} {S : List Nat} (g : GOk n 0 S) (h1 : S ≠ []) (h2 : ¬ S.length % 2 = 1) : S = hexPad n := by
  have hD : n ≠ 0 → Dg n = (hexCodes n).map upC := fun h => by unfold Dg; rw [if_neg h]
  rcases g with g | ⟨_, g, g2⟩ | ⟨_, e, g⟩
  · rw [Dg_zero, List.nil_append] at g
    have hn : n ≠ 0 := fun e => h1 (by rw [g, e]; rfl)
    rw [hD hn] at g
    have : (hexCodes n).length % 2 = 0 := by
      have := congrArg List.length g
      rw [List.length_map] at this; omega
    unfold hexPad pad2
    rw [if_pos this, g]
  · have hn : n ≠ 0 := fun e => by subst e; subst g; exact h2 (by decide)
    have hodd : (Dg n).length % 2 = 1 := g2.resolve_right hn
    rw [hD hn] at g hodd
    rw [List.length_map] at hodd
    unfold hexPad pad2
    rw [if_neg (by omega), g]
    rfl
  · subst e; rw [g]; decide
theorem g_len {n z : Nat} {S : List Nat} (g : GOk n z S) (hn : n < 4722366482869645213696) : S.length ≤ 20 := by
  have hl : (Dg n).length ≤ 18 := by
    unfold Dg
    split
    · simp
    · rw [List.length_map]; exact hexCodes_len hn
  rcases g with g | ⟨_, g, _⟩ | ⟨_, _, g⟩
  · have := congrArg List.length g
    rw [List.length_append] at this; omega
  · rw [g, List.length_cons]; omega
  · rw [g]; decide
theorem hexPad_len {n : Nat} (hn : n < 4722366482869645213696) : (hexPad n).length ≤ 24 := by
  have := hexCodes_len hn
  unfold hexPad pad2
  rw [List.length_map]
  split
  · omega
  · rw [List.length_cons]; omega
theorem grp_step {l : List Nat} (h : 8 < l.length) (h2 : l.length ≤ 24) : grp l = grp (l.take (l.length - 8)) ++ 32 :: l.drop (l.length - 8) := by
  by_cases h16 : l.length ≤ 16
  · unfold grp
    rw [if_neg (by omega), if_pos h16, if_pos (by rw [List.length_take]; omega)]
  · conv => lhs; unfold grp
    rw [if_neg (by omega), if_neg h16]
    have hl : (l.take (l.length - 8)).length = l.length - 8 := by rw [List.length_take]; omega
    unfold grp
    rw [hl, if_neg (by omega), if_pos (by omega), List.take_take, List.drop_take]
    rw [show min (l.length - 8 - 8) (l.length - 8) = l.length - 16 by omega, show l.length - 8 - 8 = l.length - 16 by omega, show l.length - 8 - (l.length - 16) = 8 by omega]
    simp
theorem grp_small {l : List Nat} (h : l.length ≤ 8) : grp l = l := by unfold grp; rw [if_pos h]
/-! ## in the program's words -/
theorem slice_last8 (x : PySem.Str) (h : 8 < x.length) : (Txt.slice x (some (-8)) none).cps.toList = x.cps.toList.drop (x.length - 8) := by
  have e : Txt.slice x (some (-8)) none = Txt.slice x (some ((x.length : Int) - 8)) (some (x.length : Int)) := by
    unfold Txt.slice
    rw [show Builtin.Str.strSliceIndices (some (-8)) none 1 x.length = Builtin.Str.strSliceIndices (some ((x.length : Int) - 8)) (some (x.length : Int)) 1 x.length by
      unfold Builtin.Str.strSliceIndices
      simp only [show (1 : Int) > 0 by decide, if_true]
      rw [if_pos (by decide), if_neg (by omega), if_neg (by omega)]
      congr 1 <;> omega]
  have hl : (x.cps.toList.length : Int) = x.length := rfl
  have e2 := StrLaws.sliceText_plain (x := x) (i := (x.length : Int) - 8) (j := x.length) (by rw [hl]; omega)
  rw [e, show Txt.slice x (some ((x.length : Int) - 8)) (some (x.length : Int)) = _ from e2]
  show ((x.cps.toList.drop _).take _) = _
  rw [show ((x.length : Int) - 8).toNat = x.length - 8 by omega, show ((x.length : Int) - ((x.length : Int) - 8)).toNat = 8 by omega]
  apply List.take_of_length_le
  rw [List.length_drop]
  have : x.cps.toList.length = x.length := rfl
  omega
theorem slice_but8 (x : PySem.Str) (h : 8 < x.length) : (Txt.slice x none (some (-8))).cps.toList = x.cps.toList.take (x.length - 8) := by
  have e : Txt.slice x none (some (-8)) = Txt.slice x (some 0) (some ((x.length : Int) - 8)) := by
    unfold Txt.slice
    rw [show Builtin.Str.strSliceIndices none (some (-8)) 1 x.length = Builtin.Str.strSliceIndices (some 0) (some ((x.length : Int) - 8)) 1 x.length by
      unfold Builtin.Str.strSliceIndices
      simp only [show (1 : Int) > 0 by decide, if_true]
      rw [if_pos (by decide), if_neg (by omega), if_neg (by omega)]
      congr 1 <;> omega]
  have hl : (x.cps.toList.length : Int) = x.length := rfl
  have e2 := StrLaws.sliceText_plain (x := x) (i := 0) (j := (x.length : Int) - 8) (by rw [hl]; omega)
  rw [e, show Txt.slice x (some 0) (some ((x.length : Int) - 8)) = _ from e2]
  show ((x.cps.toList.drop (0 : Int).toNat).take _) = _
  rw [show ((x.length : Int) - 8 - 0).toNat = x.length - 8 by omega]
  rfl
theorem item_digit {d : Int} (h : 0 ≤ d ∧ d < 16) : (Txt.item (PySem.Str.ofString "0123456789ABCDEF") d).cps.toList = [dU d.toNat] := by
  have : ∀ k : Fin 16, (Txt.item (PySem.Str.ofString "0123456789ABCDEF") (k.val : Int)).cps.toList = [dU k.val] := by decide +kernel
  have e := this ⟨d.toNat, by omega⟩
  have h2 : ((d.toNat : Nat) : Int) = d := by omega
  rw [show ((⟨d.toNat, by omega⟩ : Fin 16).val) = d.toNat from rfl, h2] at e
  exact e
theorem cps_app (a b : PySem.Str) : (a ++ b).cps.toList = a.cps.toList ++ b.cps.toList := by
  show (a.cps ++ b.cps).toList = _
  exact Array.toList_append
end
section
structure SG where
  x : PySem.Str
  tx : Tok
  z : Int
  tz : Tok
abbrev mmG (u : PySem.Str → Option Value) (n : Int) (t : Tok) (x : PySem.Str) (tx : Tok) (z : Int) (tz : Tok) (y : PySem.Str) : Option Value :=
  if y = PySem.Str.ofString "left" then some (.int z tz) else if y = PySem.Str.ofString "signs" then some (.str x tx) else if y = PySem.Str.ofString "number" then some (.int n t) else u y
def PGr (n : Int) (c : SG) : Prop := 0 ≤ c.z ∧ c.x.length ≤ 20 ∧ GOk n.natAbs c.z.natAbs c.x.cps.toList
def muG (c : SG) : Nat := c.z.natAbs * 4 + (if c.x.length = 0 then 2 else c.x.length % 2)
structure SH where
  x : PySem.Str
  tx : Tok
  f : PySem.Str
  tf : Tok
abbrev mmH (u : PySem.Str → Option Value) (x : PySem.Str) (tx : Tok) (f : PySem.Str) (tf : Tok) (y : PySem.Str) : Option Value :=
  if y = PySem.Str.ofString "signs" then some (.str x tx) else if y = PySem.Str.ofString "found" then some (.str f tf) else u y
def PH (T : List Nat) (c : SH) : Prop := c.x.length ≤ 24 ∧ c.f.length + 2 * c.x.length ≤ 48 ∧ grp c.x.cps.toList ++ c.f.cps.toList = T
theorem nil_of_beq {x : PySem.Str} (h : (x == PySem.Str.ofString "") = true) : x.length = 0 := by
  have e := eq_of_beq h
  rw [e]; rfl
theorem ne_of_beq {x : PySem.Str} (h : (x == PySem.Str.ofString "") = false) : x.cps.toList ≠ [] := by
  intro e
  have e2 : x = PySem.Str.ofString "" := PySem.Str.ext' (Array.toList_inj.mp e)
  rw [e2, beq_self_eq_true] at h
  cases h
theorem odd_of {x : PySem.Str} (h : Int.fmod (x.length : Int) 2 = 1) : x.length % 2 = 1 := by rw [Int.fmod_eq_emod_of_nonneg _ (by decide)] at h; omega
theorem even_of {x : PySem.Str} (h : Int.fmod (x.length : Int) 2 ≠ 1) : ¬ x.cps.toList.length % 2 = 1 := by
  rw [Int.fmod_eq_emod_of_nonneg _ (by decide)] at h
  show ¬ x.length % 2 = 1
  omega
theorem digits_end {n z : Int} {x : PySem.Str} (p3 : GOk n.natAbs z.natAbs x.cps.toList) (p1 : 0 ≤ z) (hz : ¬ 0 < z) (h1 : (x == PySem.Str.ofString "") = false) (h2 : Int.fmod (x.length : Int) 2 ≠ 1) : x.cps.toList = hexPad n.natAbs := by
  have e : z.natAbs = 0 := by omega
  rw [e] at p3
  exact g_end p3 (ne_of_beq h1) (even_of h2)
section
variable {prog : Program} {w : World} {A : Around} {E : Value → Shared → Prop} {s s₀ : Shared} {h₀ h : Heap} {L : Addr} {news : List (Addr × Obj)} {env : Env} {test : PySem.Expr} {body : List Stmt} {pos : Pos} {u : PySem.Str → Option Value} {n z : Int} {t tz tx tf : Tok} {x f : PySem.Str}
theorem digits_while {Q : Flow → Shared → Prop}
    (F : Fr h₀ L s.heap (fun y => if y = PySem.Str.ofString "left" then some (.int n tz) else if y = PySem.Str.ofString "signs" then some (.str x tx) else if y = PySem.Str.ofString "number" then some (.int n t) else u y)) (N : News h₀ L s.heap news) (hn : 0 ≤ n) (hx : x.cps.toList = [])
    (hE : PassesOwn (model prog w) A env E)
    (turn : ∀ x tx z tz h₁ tk₁, 0 ≤ z → x.length ≤ 20 → GOk n.natAbs z.natAbs x.cps.toList → Fr h₀ L h₁ (fun y => if y = PySem.Str.ofString "left" then some (.int z tz) else if y = PySem.Str.ofString "signs" then some (.str x tx) else if y = PySem.Str.ofString "number" then some (.int n t) else u y) → News h₀ L h₁ news →
      wpAny (model prog w) A (isTrue test env (eval test env)) (fun b s₂ =>
        if b = true then wpAny (model prog w) A (execs body env) (WEnd h₀ L s (fun c : SG => mmG u n t c.x c.tx c.z c.tz) (fun _ => news) (PGr n) muG ⟨x, tx, z, tz⟩) E s₂ else Q .next s₂) E { s with heap := h₁, toks := tk₁ }) :
    wpAny (model prog w) A (exec (.While test body [] pos) env) Q E s := by
  have hl : x.length = 0 := by show x.cps.size = 0; rw [← Array.length_toList, hx]; rfl
  refine while_st (fun c : SG => mmG u n t c.x c.tx c.z c.tz) (fun _ => news) (PGr n) muG ⟨x, tx, n, tz⟩ F rfl N ⟨hn, by show x.length ≤ 20; omega, by show GOk _ _ x.cps.toList; rw [hx]; exact g_start _⟩ ?_ hE
  rintro ⟨x, tx, z, tz⟩ h₁ tk₁ ⟨p1, p2, p3⟩ F₁ N₁
  exact turn x tx z tz h₁ tk₁ p1 p2 p3 F₁ N₁
theorem digits_turn {t2 t3 : Tok} {tk : Nat} (hn : n < 4722366482869645213696) (h0 : 0 ≤ n) (p1 : 0 ≤ z) (p3 : GOk n.natAbs z.natAbs x.cps.toList) (hz : 0 < z ∨ x.length = 0 ∨ x.length % 2 = 1)
    (F : Fr h₀ L h (fun y => if y = PySem.Str.ofString "left" then some (.int (z.fdiv 16) t2) else if y = PySem.Str.ofString "signs" then some (.str (Txt.item (PySem.Str.ofString "0123456789ABCDEF") (z.fmod 16) ++ x) t3) else if y = PySem.Str.ofString "left" then some (.int z tz) else if y = PySem.Str.ofString "signs" then some (.str x tx) else if y = PySem.Str.ofString "number" then some (.int n t) else u y))
    (N : News h₀ L h news) :
    WEnd h₀ L s₀ (fun c : SG => mmG u n t c.x c.tx c.z c.tz) (fun _ => news) (PGr n) muG ⟨x, tx, z, tz⟩ .next { s₀ with heap := h, toks := tk } := by
  have e16 : z.fdiv 16 = z / 16 := Int.fdiv_eq_ediv_of_nonneg _ (by decide)
  have em16 : z.fmod 16 = z % 16 := Int.fmod_eq_emod_of_nonneg _ (by decide)
  have hit := item_digit (d := z.fmod 16) (by omega)
  have hlen : x.cps.toList.length = x.length := rfl
  have hS : (Txt.item (PySem.Str.ofString "0123456789ABCDEF") (z.fmod 16) ++ x).cps.toList = dU (z.natAbs % 16) :: x.cps.toList := by
    rw [cps_app, hit, show (z.fmod 16).toNat = z.natAbs % 16 by omega]; rfl
  have g : GOk n.natAbs (z.fdiv 16).natAbs (Txt.item (PySem.Str.ofString "0123456789ABCDEF") (z.fmod 16) ++ x).cps.toList := by
    rw [hS, show (z.fdiv 16).natAbs = z.natAbs / 16 by omega]
    refine g_turn p3 ?_
    rcases hz with hz | hz | hz
    · exact .inl (by omega)
    · exact .inr (.inl (List.length_eq_zero_iff.mp (by omega)))
    · exact .inr (.inr (by omega))
  have gl := g_len g (by omega)
  have hl2 : (Txt.item (PySem.Str.ofString "0123456789ABCDEF") (z.fmod 16) ++ x).length = x.length + 1 := by
    have := congrArg List.length hS
    rw [List.length_cons, hlen] at this; exact this
  refine ⟨rfl, ⟨_, t3, z.fdiv 16, t2⟩, h, tk, rfl, ?_, N, ⟨by show 0 ≤ z.fdiv 16; omega, ?_, g⟩, ?_⟩
  · have e : (fun y => if y = PySem.Str.ofString "left" then some (Value.int (z.fdiv 16) t2) else if y = PySem.Str.ofString "signs" then some (.str (Txt.item (PySem.Str.ofString "0123456789ABCDEF") (z.fmod 16) ++ x) t3) else if y = PySem.Str.ofString "left" then some (.int z tz) else if y = PySem.Str.ofString "signs" then some (.str x tx) else if y = PySem.Str.ofString "number" then some (.int n t) else u y)
        = mmG u n t (Txt.item (PySem.Str.ofString "0123456789ABCDEF") (z.fmod 16) ++ x) t3 (z.fdiv 16) t2 := by
      funext y
      by_cases h1 : y = PySem.Str.ofString "left"
      · simp only [mmG, h1, if_true]
      · by_cases h2 : y = PySem.Str.ofString "signs"
        · simp only [mmG, h1, if_false, h2, if_true]
        · simp only [mmG, h1, if_false, h2]
    rw [e] at F
    exact F
  · exact gl
  · show muG _ < muG _
    unfold muG
    dsimp only
    rw [hl2]
    rcases hz with hz | hz | hz
    · split <;> split <;> omega
    · rw [if_neg (by omega), if_pos hz]; omega
    · rw [if_neg (by omega), if_neg (by omega)]; omega
theorem groups_while {T : List Nat} {Q : Flow → Shared → Prop}
    (F : Fr h₀ L s.heap (fun y => if y = PySem.Str.ofString "signs" then some (.str x tx) else if y = PySem.Str.ofString "found" then some (.str f tf) else u y)) (N : News h₀ L s.heap news) (hx : x.length ≤ 24) (hf : f.cps.toList = []) (hT : grp x.cps.toList = T)
    (hE : PassesOwn (model prog w) A env E)
    (turn : ∀ x tx f tf h₁ tk₁, x.length ≤ 24 → f.length + 2 * x.length ≤ 48 → grp x.cps.toList ++ f.cps.toList = T → Fr h₀ L h₁ (fun y => if y = PySem.Str.ofString "signs" then some (.str x tx) else if y = PySem.Str.ofString "found" then some (.str f tf) else u y) → News h₀ L h₁ news →
      wpAny (model prog w) A (isTrue test env (eval test env)) (fun b s₂ =>
        if b = true then wpAny (model prog w) A (execs body env) (WEnd h₀ L s (fun c : SH => mmH u c.x c.tx c.f c.tf) (fun _ => news) (PH T) (fun c => c.x.length) ⟨x, tx, f, tf⟩) E s₂ else Q .next s₂) E { s with heap := h₁, toks := tk₁ }) :
    wpAny (model prog w) A (exec (.While test body [] pos) env) Q E s := by
  have hl : f.length = 0 := by show f.cps.size = 0; rw [← Array.length_toList, hf]; rfl
  refine while_st (fun c : SH => mmH u c.x c.tx c.f c.tf) (fun _ => news) (PH T) (fun c => c.x.length) ⟨x, tx, f, tf⟩ F rfl N ⟨hx, by show f.length + 2 * x.length ≤ 48; omega, by show grp x.cps.toList ++ f.cps.toList = T; rw [hf, List.append_nil]; exact hT⟩ ?_ hE
  rintro ⟨x, tx, f, tf⟩ h₁ tk₁ ⟨p1, p2, p3⟩ F₁ N₁
  exact turn x tx f tf h₁ tk₁ p1 p2 p3 F₁ N₁
theorem groups_turn {T : List Nat} {t2 t3 : Tok} {tk : Nat} (p1 : x.length ≤ 24) (p2 : f.length + 2 * x.length ≤ 48) (p3 : grp x.cps.toList ++ f.cps.toList = T) (hz : 8 < x.length)
    (F : Fr h₀ L h (fun y => if y = PySem.Str.ofString "signs" then some (.str (Txt.slice x none (some (-8))) t2) else if y = PySem.Str.ofString "found" then some (.str (PySem.Str.ofString " " ++ Txt.slice x (some (-8)) none ++ f) t3) else if y = PySem.Str.ofString "signs" then some (.str x tx) else if y = PySem.Str.ofString "found" then some (.str f tf) else u y))
    (N : News h₀ L h news) :
    WEnd h₀ L s₀ (fun c : SH => mmH u c.x c.tx c.f c.tf) (fun _ => news) (PH T) (fun c => c.x.length) ⟨x, tx, f, tf⟩ .next { s₀ with heap := h, toks := tk } := by
  have e1 := slice_last8 x hz
  have e2 := slice_but8 x hz
  have hlen : x.cps.toList.length = x.length := rfl
  have hf : (PySem.Str.ofString " " ++ Txt.slice x (some (-8)) none ++ f).cps.toList = 32 :: (x.cps.toList.drop (x.length - 8) ++ f.cps.toList) := by
    rw [cps_app, cps_app, e1]; rfl
  have hl1 : (Txt.slice x none (some (-8))).length = x.length - 8 := by
    show (Txt.slice x none (some (-8))).cps.toList.length = _
    rw [e2, List.length_take]; omega
  have hl2 : (PySem.Str.ofString " " ++ Txt.slice x (some (-8)) none ++ f).length = f.length + 9 := by
    show (PySem.Str.ofString " " ++ Txt.slice x (some (-8)) none ++ f).cps.toList.length = _
    have : f.cps.toList.length = f.length := rfl
    rw [hf, List.length_cons, List.length_append, List.length_drop]; omega
  refine ⟨rfl, ⟨Txt.slice x none (some (-8)), t2, PySem.Str.ofString " " ++ Txt.slice x (some (-8)) none ++ f, t3⟩, h, tk, rfl, ?_, N, ⟨?_, ?_, ?_⟩, ?_⟩
  · have e : (fun y => if y = PySem.Str.ofString "signs" then some (Value.str (Txt.slice x none (some (-8))) t2) else if y = PySem.Str.ofString "found" then some (.str (PySem.Str.ofString " " ++ Txt.slice x (some (-8)) none ++ f) t3) else if y = PySem.Str.ofString "signs" then some (.str x tx) else if y = PySem.Str.ofString "found" then some (.str f tf) else u y)
        = mmH u (Txt.slice x none (some (-8))) t2 (PySem.Str.ofString " " ++ Txt.slice x (some (-8)) none ++ f) t3 := by
      funext y
      by_cases h1 : y = PySem.Str.ofString "signs"
      · simp only [mmH, h1, if_true]
      · by_cases h2 : y = PySem.Str.ofString "found"
        · simp only [mmH, h1, if_false, h2, if_true]
        · simp only [mmH, h1, if_false, h2]
    rw [e] at F
    exact F
  · show (Txt.slice x none (some (-8))).length ≤ 24
    omega
  · show (PySem.Str.ofString " " ++ Txt.slice x (some (-8)) none ++ f).length + 2 * (Txt.slice x none (some (-8))).length ≤ 48
    omega
  · show grp (Txt.slice x none (some (-8))).cps.toList ++ (PySem.Str.ofString " " ++ Txt.slice x (some (-8)) none ++ f).cps.toList = T
    rw [e2, hf, ← p3, grp_step (l := x.cps.toList) (by omega) (by omega), hlen]
    simp
  · show (Txt.slice x none (some (-8))).length < x.length
    omega
theorem groups_end {T : List Nat} (p3 : grp x.cps.toList ++ f.cps.toList = T) (hx : ¬ 8 < x.length) (hT : T = grp (hexPad n.natAbs)) : x ++ f = hexTold n.natAbs := by
  have hlen : x.cps.toList.length = x.length := rfl
  rw [grp_small (by omega)] at p3
  apply Str.ext'
  apply Array.toList_inj.mp
  rw [cps_app, p3, hT]
  rfl
end
end
section
section
variable {prog : Program} {w : World} {A : Around} {E : Value → Shared → Prop} {s : Shared} {env : Env} {h₀ : Heap} {target : PySem.Expr} {body : List Stmt} {Q : Flow → Shared → Prop}
/-- The end of one turn: the frame in the shape `mm`, the ledger as it stood. -/
def TEnd (h₀ : Heap) (L : Addr) (s : Shared) (mm : (PySem.Str → Option Value) → PySem.Str → Option Value) (led : List (Addr × Obj)) (Q : Flow → Shared → Prop) (f : Flow) (s₃ : Shared) : Prop :=
  match f with
  | .ret v => Q (.ret v) s₃
  | .brk => Q .next s₃
  | _ => ∃ u h' tk', s₃ = { s with heap := h', toks := tk' } ∧ Fr h₀ L h' (mm u) ∧ News h₀ L h' led
theorem items_inv {I : Addr} {cls : String} {keep news : List (Addr × Obj)} (mm : (PySem.Str → Option Value) → PySem.Str → Option Value) (Good : Value → Prop) (hk : SubL keep news) (hlt : ∀ p ∈ news, p.1 < I)
    (turn : ∀ v u h tk o, Good v → o.cls = .type cls → Fr h₀ env.locals h (mm u) → News h₀ env.locals h ((I, o) :: news) →
      wpAny (model prog w) A (assign target env v) (fun _ s₂ => wpAny (model prog w) A (execs body env) (TEnd h₀ env.locals { s with heap := h, toks := tk } mm ((I, o) :: news) Q) E s₂) E { s with heap := h, toks := tk })
    (fin : ∀ u h tk, Fr h₀ env.locals h (mm u) → News h₀ env.locals h news → Q .next { s with heap := h, toks := tk }) :
    ∀ (vs : List Value) (u : PySem.Str → Option Value), (∀ v ∈ vs, Good v) → ItemsRest prog w A E h₀ env target body Q s [(I, cls)] keep (vs.map .val) (mm u) news
  | [], u, _ => .zero fun h tk F N => fin u h tk F N
  | v :: r, u, hg => .val fun h tk F o ho N => by
    refine wpAny_mono (turn v u h tk o (hg v List.mem_cons_self) ho F N) (fun _ s₂ h₂ => wpAny_mono h₂ (fun f s₃ p => ?_) fun _ _ e => e) fun _ _ e => e
    have go : (∃ u h' tk', s₃ = { { s with heap := h, toks := tk } with heap := h', toks := tk' } ∧ Fr h₀ env.locals h' (mm u) ∧ News h₀ env.locals h' ((I, o) :: news)) →
        UnrEndW h₀ env.locals { s with heap := h, toks := tk } [(I, o)] (fun m' n' => SubL keep n' ∧ ItemsRest prog w A E h₀ env target body Q s [(I, cls)] keep (r.map .val) m' n') s₃ := by
      rintro ⟨u', h', tk', e, F', N'⟩
      refine ⟨h', tk', mm u', news, e, F', N', fun p hp q hq => ?_, hk, items_inv mm Good hk hlt turn fin r u' fun v hv => hg v (List.mem_cons_of_mem _ hv)⟩
      rw [List.mem_singleton.mp hq]
      exact Nat.ne_of_lt (hlt p hp)
    cases f with
    | ret v => exact p
    | brk => exact p
    | next => exact go p
    | cont => exact go p
theorem tup_turns {ax : Addr} {vs : List Value} {n : Nat} {m₀ : PySem.Str → Option Value} {news : List (Addr × Obj)} (mm : (PySem.Str → Option Value) → PySem.Str → Option Value) (Good : Value → Prop) (u₀ : PySem.Str → Option Value) (hm₀ : m₀ = mm u₀)
    (hh : A.handled = none) (F : Fr h₀ env.locals s.heap m₀) (N : News h₀ env.locals s.heap news) {lo : Obj} (hm : (ax, lo) ∈ news) (hc : lo.cls = .type "tuple") (hd : lo.data = .seq vs.toArray n)
    (hg : ∀ v ∈ vs, Good v)
    (turn : ∀ I v u h tk o, Good v → Obj.cls o = .type "tuple_iterator" → Fr h₀ env.locals h (mm u) → News h₀ env.locals h ((I, o) :: news) → (∀ p ∈ news, p.1 < I) →
      wpAny (model prog w) A (assign target env v) (fun _ s₂ => wpAny (model prog w) A (execs body env) (TEnd h₀ env.locals { s with heap := h, toks := tk } mm ((I, o) :: news) Q) E s₂) E { s with heap := h, toks := tk })
    (fin : ∀ u h tk, Fr h₀ env.locals h (mm u) → News h₀ env.locals h news → Q .next { s with heap := h, toks := tk }) :
    wpAny (model prog w) A (pyIter (.ref ax)) (fun it s₂ => TurnsAt prog w A h₀ env target body Q E it s₂) E s := by
  subst hm₀
  refine iter_tupTurns hh F N hm hc hd fun I hI => items_inv (keep := [(ax, lo)]) mm Good (And.intro hm trivial) hI ?_ fin vs u₀ hg
  exact fun v u h tk o g ho F N => turn I v u h tk o g ho F N hI
theorem TEnd.go {L : Addr} {mm : (PySem.Str → Option Value) → PySem.Str → Option Value} {led : List (Addr × Obj)} {h : Heap} {tk : Nat} (u : PySem.Str → Option Value) (F : Fr h₀ L h (mm u)) (N : News h₀ L h led) :
    TEnd h₀ L s mm led Q .next { s with heap := h, toks := tk } := ⟨u, h, tk, rfl, F, N⟩
def CutQ (h₀ : Heap) (L : Addr) (m : PySem.Str → Option Value) (news : List (Addr × Obj)) (s : Shared) (P : Int → Prop) (v : Value) (s' : Shared) : Prop :=
  ∃ x t h tk, v = .int x t ∧ P x ∧ Fr h₀ L h m ∧ News h₀ L h news ∧ s' = { s with heap := h, toks := tk }
theorem CutQ.go {L : Addr} {m : PySem.Str → Option Value} {news : List (Addr × Obj)} {P : Int → Prop} {x : Int} {t : Tok} {h : Heap} {tk : Nat} (F : Fr h₀ L h m) (N : News h₀ L h news) (p : P x) :
    CutQ h₀ L m news s P (.int x t) { s with heap := h, toks := tk } := ⟨x, t, h, tk, rfl, p, F, N, rfl⟩
theorem cut_int {M : Model} {e : Sem Value} {L : Addr} {m : PySem.Str → Option Value} {news : List (Addr × Obj)} {Qv : Value → Shared → Prop} (P : Int → Prop) (F : Fr h₀ L s.heap m) (N : News h₀ L s.heap news)
    (h1 : wpAny M A e (CutQ h₀ L m news s P) E s)
    (h2 : ∀ x t h tk, P x → Fr h₀ L h m → News h₀ L h news → Qv (.int x t) { s with heap := h, toks := tk }) : wpAny M A e Qv E s := by
  refine wpAny_mono h1 (fun v s' q => ?_) fun _ _ e => e
  obtain ⟨x, t, h, tk, rfl, p, F', N', rfl⟩ := q
  exact h2 x t h tk p F' N'
theorem fmod_bound {a b : Int} (hb : 0 < b) : 0 ≤ a.fmod b ∧ a.fmod b < b := by
  rw [Int.fmod_eq_emod_of_nonneg _ (by omega)]
  exact ⟨Int.emod_nonneg _ (by omega), Int.emod_lt_of_pos _ hb⟩
theorem p70 : (2 : Int) ^ Int.toNat 70 = 1180591620717411303424 := by decide +kernel
theorem p63 : (2 : Int) ^ Int.toNat 63 = 9223372036854775808 := by decide +kernel
theorem head_bound {a : Int} : 0 ≤ a.fmod (2 ^ Int.toNat 70) ∧ a.fmod (2 ^ Int.toNat 70) < 1180591620717411303424 := by
  rw [p70]; exact fmod_bound (by decide)
def CutMark : Prop := True
theorem cutMark : CutMark := trivial
theorem tup_two {x₁ x₂ : PySem.Str} {v₁ v₂ : Value} {u₀ : PySem.Str → Option Value} {ax : Addr} {vs : List Value} {n : Nat} {news : List (Addr × Obj)} (Good : Value → Prop)
    (F : Fr h₀ env.locals s.heap (fun y => if y = x₁ then some v₁ else if y = x₂ then some v₂ else u₀ y)) (N : News h₀ env.locals s.heap news) {lo : Obj} (hm : (ax, lo) ∈ news) (hc : lo.cls = .type "tuple") (hd : lo.data = .seq vs.toArray n) (hh : A.handled = none)
    (hg : ∀ v ∈ vs, Good v)
    (turn : ∀ I v (u : PySem.Str → Option Value) h tk o, Good v → Obj.cls o = .type "tuple_iterator" → Fr h₀ env.locals h (fun y => if y = x₁ then some v₁ else if y = x₂ then some v₂ else u y) → News h₀ env.locals h ((I, o) :: news) → (∀ p ∈ news, p.1 < I) →
      wpAny (model prog w) A (assign target env v) (fun _ s₂ => wpAny (model prog w) A (execs body env) (TEnd h₀ env.locals { s with heap := h, toks := tk } (fun (u : PySem.Str → Option Value) y => if y = x₁ then some v₁ else if y = x₂ then some v₂ else u y) ((I, o) :: news) Q) E s₂) E { s with heap := h, toks := tk })
    (fin : ∀ (u : PySem.Str → Option Value) h tk, Fr h₀ env.locals h (fun y => if y = x₁ then some v₁ else if y = x₂ then some v₂ else u y) → News h₀ env.locals h news → Q .next { s with heap := h, toks := tk }) :
    wpAny (model prog w) A (pyIter (.ref ax)) (fun it s₂ => TurnsAt prog w A h₀ env target body Q E it s₂) E s :=
  tup_turns (fun (u : PySem.Str → Option Value) y => if y = x₁ then some v₁ else if y = x₂ then some v₂ else u y) Good u₀ rfl hh F N hm hc hd hg turn fin
theorem TEnd.two {x₁ x₂ : PySem.Str} {v₁ v₂ : Value} {L : Addr} {led : List (Addr × Obj)} {h : Heap} {tk : Nat} {m : PySem.Str → Option Value} (F : Fr h₀ L h m) (e₁ : m x₁ = some v₁) (e₂ : m x₂ = some v₂) (N : News h₀ L h led) :
    TEnd h₀ L s (fun (u : PySem.Str → Option Value) y => if y = x₁ then some v₁ else if y = x₂ then some v₂ else u y) led Q .next { s with heap := h, toks := tk } := by
  obtain ⟨u, F'⟩ := fr_two F e₁ e₂
  exact TEnd.go u F' N
def CutB (h₀ : Heap) (L : Addr) (m : PySem.Str → Option Value) (news : List (Addr × Obj)) (s : Shared) (v : Bool) (s' : Shared) : Prop :=
  ∃ h tk, v = false ∧ Fr h₀ L h m ∧ News h₀ L h news ∧ s' = { s with heap := h, toks := tk }
theorem CutB.go {L : Addr} {m : PySem.Str → Option Value} {news : List (Addr × Obj)} {h : Heap} {tk : Nat} (F : Fr h₀ L h m) (N : News h₀ L h news) :
    CutB h₀ L m news s false { s with heap := h, toks := tk } := ⟨h, tk, rfl, F, N, rfl⟩
theorem cut_bool {M : Model} {e : Sem Bool} {L : Addr} {m : PySem.Str → Option Value} {news : List (Addr × Obj)} {Qv : Bool → Shared → Prop} (F : Fr h₀ L s.heap m) (N : News h₀ L s.heap news)
    (h1 : wpAny M A e (CutB h₀ L m news s) E s)
    (h2 : ∀ h tk, Fr h₀ L h m → News h₀ L h news → Qv false { s with heap := h, toks := tk }) : wpAny M A e Qv E s := by
  refine wpAny_mono h1 (fun v s' q => ?_) fun _ _ e => e
  obtain ⟨h, tk, rfl, F', N', rfl⟩ := q
  exact h2 h tk F' N'
theorem tup_three {x₁ x₂ x₃ : PySem.Str} {v₁ v₂ v₃ : Value} {u₀ : PySem.Str → Option Value} {ax : Addr} {vs : List Value} {n : Nat} {news : List (Addr × Obj)} (Good : Value → Prop)
    (F : Fr h₀ env.locals s.heap (fun y => if y = x₁ then some v₁ else if y = x₂ then some v₂ else if y = x₃ then some v₃ else u₀ y)) (N : News h₀ env.locals s.heap news) {lo : Obj} (hm : (ax, lo) ∈ news) (hc : lo.cls = .type "tuple") (hd : lo.data = .seq vs.toArray n) (hh : A.handled = none)
    (hg : ∀ v ∈ vs, Good v)
    (turn : ∀ I v (u : PySem.Str → Option Value) h tk o, Good v → Obj.cls o = .type "tuple_iterator" → Fr h₀ env.locals h (fun y => if y = x₁ then some v₁ else if y = x₂ then some v₂ else if y = x₃ then some v₃ else u y) → News h₀ env.locals h ((I, o) :: news) → (∀ p ∈ news, p.1 < I) →
      wpAny (model prog w) A (assign target env v) (fun _ s₂ => wpAny (model prog w) A (execs body env) (TEnd h₀ env.locals { s with heap := h, toks := tk } (fun (u : PySem.Str → Option Value) y => if y = x₁ then some v₁ else if y = x₂ then some v₂ else if y = x₃ then some v₃ else u y) ((I, o) :: news) Q) E s₂) E { s with heap := h, toks := tk })
    (fin : ∀ (u : PySem.Str → Option Value) h tk, Fr h₀ env.locals h (fun y => if y = x₁ then some v₁ else if y = x₂ then some v₂ else if y = x₃ then some v₃ else u y) → News h₀ env.locals h news → Q .next { s with heap := h, toks := tk }) :
    wpAny (model prog w) A (pyIter (.ref ax)) (fun it s₂ => TurnsAt prog w A h₀ env target body Q E it s₂) E s :=
  tup_turns (fun (u : PySem.Str → Option Value) y => if y = x₁ then some v₁ else if y = x₂ then some v₂ else if y = x₃ then some v₃ else u y) Good u₀ rfl hh F N hm hc hd hg turn fin
theorem TEnd.three {x₁ x₂ x₃ : PySem.Str} {v₁ v₂ v₃ : Value} {L : Addr} {led : List (Addr × Obj)} {h : Heap} {tk : Nat} {m : PySem.Str → Option Value} (F : Fr h₀ L h m) (e₁ : m x₁ = some v₁) (e₂ : m x₂ = some v₂) (e₃ : m x₃ = some v₃) (N : News h₀ L h led) :
    TEnd h₀ L s (fun (u : PySem.Str → Option Value) y => if y = x₁ then some v₁ else if y = x₂ then some v₂ else if y = x₃ then some v₃ else u y) led Q .next { s with heap := h, toks := tk } := by
  obtain ⟨u, F'⟩ := fr_three F e₁ e₂ e₃
  exact TEnd.go u F' N
end
end
section
local macro_rules | `(tactic| walk_at "ez open") => `(tactic| (dsimp only [CB, KK, PG, LO]; k_fill))
local macro_rules | `(tactic| walk_at "callWith ref") => `(tactic| (k_here; (with_reducible show wpAny _ _ (callWith _ (Value.ref _) _ (backTo _ (starEach (_ :: _) _)) (backToKw _ (keywordEach (_ :: _) _))) _ _ _); kfb_any; k_dflt (refine' callWith_boundKw ?kfbN ?kfbM ?kfbA ?_; (case kfbN => k_asm); (case kfbM => k_mem); (case kfbA => exact rfl); k_whole)))
local macro_rules | `(tactic| walk_at "callWith") => `(tactic| (k_here; (with_reducible show wpAny _ _ (callWith _ (Value.builtin _) _ (backTo _ (starEach (_ :: _) _)) (backToKw _ (keywordEach (_ :: _) _))) _ _ _); k_dflt (refine' callWith_methKw ?kfbA ?_; (case kfbA => exact rfl); k_whole)))
local macro_rules | `(tactic| walk_at "call ref") => `(tactic| (k_here; kfb_any; k_dflt (first | (refine fb_kw_little (by k_asm) (by k_mem) (by assumption) (by kfb_size) ?_; intro _ _) | (refine fb_kw_big (by k_asm) (by k_mem) (by assumption) (by kfb_size) ?_; intro _ _) | (refine fb_pos_big (by k_asm) (by k_mem) (by assumption) (by kfb_size) ?_; intro _ _))))
local macro_rules | `(tactic| walk_at "ez enter") => `(tactic| (refine wpAny_call ?_; k_dflt (refine' code_def ?k1 ?k2 ?k3 ?k4 ?k5 ?kA ?kF ?kK ?k6 ?k7 ?k8 ?k9 ?kB ?_ ?c2 ?c3 ?c4 ?c5; (case kA => exact rfl); (case kF => exact rfl); (case kK => first | assumption | exact rfl); (case k1 => k_asm); (case k2 => k_asm); (case k3 => k_asm); (case k4 => k_asm); (case k5 => k_asm); (case k6 => k_is); (case k7 => k_is); (case k8 => ktr_room); (case k9 => first | exact BindsTo.of_eq rfl | exact binds_K (by k_in) rfl (by k_is) rfl rfl rfl); (case c5 => decide); (case kB => exact locs rfl); (case c2 => exact rfl); (case c3 => exact rfl); (case c4 => exact rfl); k_whole; intro g' L' h' FG' F' N' B' X' T'; (try dsimp only); (try k_lift B'); (try k_fold))))
local macro_rules | `(tactic| walk_at "ez enterD") => `(tactic| (refine wpAny_call ?_; k_dflt (refine' code_def ?k1 ?k2 ?k3 ?k4 ?k5 ?kA ?kF ?kK ?k6 ?k7 ?k8 ?k9 ?kB ?_ ?c2 ?c3 ?c4 ?c5; (case kA => exact rfl); (case kF => exact rfl); (case kK => first | assumption | exact rfl); (case k1 => k_asm); (case k2 => k_asm); (case k3 => k_asm); (case k4 => k_asm); (case k5 => k_asm); (case k6 => k_is); (case k7 => k_is); (case k8 => ktr_room); (case k9 => first | exact BindsTo.of_eq rfl | exact binds_K (by k_in) rfl (by k_is) rfl rfl rfl); (case c5 => decide); (case kB => exact locs rfl); (case c2 => exact rfl); (case c3 => exact rfl); (case c4 => exact rfl); k_whole; intro g' L' h' FG' F' N' B' X' T'; (try dsimp only); (try k_lift B'); (try k_fold))))
local macro_rules | `(tactic| walk_at "call type:bytes") => `(tactic| (k_here; (with_reducible show wpAny _ _ (call (Value.type "bytes") [Value.bytes _ _]) _ _ _); refine bytes_of_bytes ?_))
local macro_rules | `(tactic| walk_at "ez enterC") => `(tactic| (refine wpAny_call ?_; k_dflt (refine' code_defC ?k1 ?k2 ?k3 ?k4 ?k5 ?kA ?kF ?kK ?k6 ?k7 ?k8 ?k9 ?kB ?kD ?_ ?c2 ?c3 ?c4; (case kA => exact rfl); (case kF => exact rfl); (case kK => first | assumption | exact rfl); (case k1 => k_asm); (case k2 => k_asm); (case k3 => k_asm); (case k4 => k_asm); (case k5 => k_asm); (case k6 => k_is); (case k7 => k_is); (case k8 => ktr_room); (case k9 => first | exact BindsTo.of_eq rfl | exact binds_K (by k_in) rfl (by k_is) rfl rfl rfl | fail "k_enter: no rule for these arguments"); (case kB => exact rfl); (case kD => decide +kernel); (case c2 => exact rfl); (case c3 => exact rfl); (case c4 => exact rfl); k_whole; intro g' L' h' tk' cells' FG' F' N' Y' B' X' T' l1; (try k_lt l1); k_cells Y'; (try simp only [List.cons_append, List.nil_append] at N'); (try dsimp only); (try k_lift B'); (try k_fold))))
local macro_rules | `(tactic| walk_at "compareOp Eq bytes bytes") => `(tactic| (k_here; (with_reducible show wpAny _ _ (compareOp CmpOp.Eq (Value.bytes _ _) (Value.bytes (List.toArray []) _)) _ _ _); refine eq_bytes_nil (by assumption) ?_))
local macro_rules | `(tactic| k_all) => `(tactic| exact all_ne (by assumption) (by omega))
set_option maxHeartbeats 1000000 in
theorem isint_int (w mean mg mb) (x : Int) (t : Tok) : CB w mean mg mb 2 73 [.int x t] (fun v => v = .bool true) := by
  walk_at "ez open"
  intro news dp un gd cn cs a ccd cl outer A₀ base h₀ L m s Q E B F X N T hk hd hu hret
  walk_at "ez enter"
  k_steps
  exact hret _ _ _ rfl (by assumption) (by assumption)
set_option maxHeartbeats 1000000 in
theorem isint_bool (w mean mg mb) (x : Bool) : CB w mean mg mb 2 73 [.bool x] (fun v => v = .bool false) := by
  walk_at "ez open"
  intro news dp un gd cn cs a ccd cl outer A₀ base h₀ L m s Q E B F X N T hk hd hu hret
  walk_at "ez enter"
  k_steps
  exact hret _ _ _ rfl (by assumption) (by assumption)
set_option maxHeartbeats 1000000 in
theorem isint_str (w mean mg mb) (x : PySem.Str) (t : Tok) : CB w mean mg mb 2 73 [.str x t] (fun v => v = .bool false) := by
  walk_at "ez open"
  intro news dp un gd cn cs a ccd cl outer A₀ base h₀ L m s Q E B F X N T hk hd hu hret
  walk_at "ez enter"
  k_steps
  exact hret _ _ _ rfl (by assumption) (by assumption)
local macro_rules | `(tactic| walk_at "call ref") => `(tactic| (k_here; (with_reducible show wpAny _ _ (call (Value.ref 73) [Value.int _ _]) _ _ _); k_dflt (refine' (isint_int _ _ _ _ _ _).use ?k1 ?k2 ?k3 ?k4 ?k5 ?kK ?kd ?ku ?_); (case k1 => k_asm); (case k2 => k_asm); (case k3 => k_asm); (case k4 => k_asm); (case k5 => k_asm); (case kK => first | exact rfl | assumption); (case kd => ktr_room); (case ku => ktr_units); k_whole; intro v9 h9 tk9 e9 F9 N9; subst e9))
local macro_rules | `(tactic| walk_at "call ref") => `(tactic| (k_here; (with_reducible show wpAny _ _ (call (Value.ref 73) [Value.bool _]) _ _ _); k_dflt (refine' (isint_bool _ _ _ _ _).use ?k1 ?k2 ?k3 ?k4 ?k5 ?kK ?kd ?ku ?_); (case k1 => k_asm); (case k2 => k_asm); (case k3 => k_asm); (case k4 => k_asm); (case k5 => k_asm); (case kK => first | exact rfl | assumption); (case kd => ktr_room); (case ku => ktr_units); k_whole; intro v9 h9 tk9 e9 F9 N9; subst e9))
local macro_rules | `(tactic| walk_at "call ref") => `(tactic| (k_here; (with_reducible show wpAny _ _ (call (Value.ref 73) [Value.str _ _]) _ _ _); k_dflt (refine' (isint_str _ _ _ _ _ _).use ?k1 ?k2 ?k3 ?k4 ?k5 ?kK ?kd ?ku ?_); (case k1 => k_asm); (case k2 => k_asm); (case k3 => k_asm); (case k4 => k_asm); (case k5 => k_asm); (case kK => first | exact rfl | assumption); (case kd => ktr_room); (case ku => ktr_units); k_whole; intro v9 h9 tk9 e9 F9 N9; subst e9))
set_option maxHeartbeats 1000000 in
theorem ifi (w mean mg mb) (x : Int) (t : Tok) : CB w mean mg mb 4 87 [.int x t] (fun v => ∃ u, v = .int x u) := by
  walk_at "ez open"
  intro news dp un gd cn cs a ccd cl outer A₀ base h₀ L m s Q E B F X N T hk hd hu hret
  walk_at "ez enter"
  k_steps
  exact hret _ _ _ ⟨_, rfl⟩ (by assumption) (by assumption)
local macro_rules | `(tactic| walk_at "call ref") => `(tactic| (k_here; (with_reducible show wpAny _ _ (call (Value.ref 87) [Value.int _ _]) _ _ _); k_dflt (refine' (ifi _ _ _ _ _ _).use ?k1 ?k2 ?k3 ?k4 ?k5 ?kK ?kd ?ku ?_); (case k1 => k_asm); (case k2 => k_asm); (case k3 => k_asm); (case k4 => k_asm); (case k5 => k_asm); (case kK => first | exact rfl | assumption); (case kd => ktr_room); (case ku => ktr_units); k_whole; intro v9 h9 tk9 e9 F9 N9; obtain ⟨u9, e9⟩ := e9; subst e9))
local macro_rules | `(tactic| walk_at "call type:reversed") => `(tactic| (k_here; (with_reducible show wpAny _ _ (call (Value.type "reversed") [Value.ref _]) _ _ _); k_dflt (refine' reversed_K ?k1 ?k2 ?k3 (range8 _) ⟨?k4, ?k5⟩ ⟨by decide, by decide⟩ ⟨by decide, by decide⟩ ?k6 ?_; (case k1 => k_asm); (case k2 => k_asm); (case k3 => with_reducible assumption); (case k4 => omega); (case k5 => omega); (case k6 => omega); k_whole); intro it' h' F' N' rit'; (try k_sweep)))
local macro_rules | `(tactic| walk_at "call type:list") => `(tactic| (k_here; (with_reducible rename RIt _ _ _ _ _ _ _ _ => rit'); (with_reducible show wpAny _ _ (call (Value.type "list") [Value.ref _]) _ _ _); k_dflt (refine' list_K ?k1 ?k2 ?k3 rit' ?k4 ?_; (case k1 => k_asm); (case k2 => k_asm); (case k3 => exact rfl); (case k4 => omega); k_whole); clear rit'; intro D' h' tk' vs' k' F' N' l1 hi'; (try k_sweep)))
local macro_rules | `(tactic| walk_at "call type:list") => `(tactic| (k_here; (with_reducible rename RIt _ _ _ _ _ _ _ _ => rit'); (with_reducible show wpAny _ _ (call (Value.type "list") [Value.ref _]) _ _ _); refine halt ?_))
local macro_rules | `(tactic| walk_at "formatField int") => `(tactic| (k_here; (with_reducible show wpAny _ _ (formatField (Value.int _ _) _) _ _ _); refine halt ?_))
local macro_rules | `(tactic| walk_at "CompSrc") => `(tactic| (k_here; k_dflt (refine LCg.CompSrc.ledger (by rfl) (by k_asm) (by k_asm) (by k_mem) (by exact Nat.le_of_ble_eq_true rfl) ?_; intro g'; lcg_lit)))
local macro_rules | `(tactic| walk_at "CompEnd") => `(tactic| (k_here; k_dflt (refine' comp_end ?k1 ?k2 ?k4 ?k5 ?_; (case k1 => assumption); (case k2 => assumption); (case k4 => (first | assumption | (simp only [LCg.Off3]; assumption))); (case k5 => lcg_src); k_whole)))
local macro_rules | `(tactic| walk_at "call builtin:str.upper") => `(tactic| (k_here; (with_reducible show wpAny _ _ (call (Value.builtin "str.upper") [Value.str _ _]) _ _ _); refine halt ?_))
set_option maxHeartbeats 6000000 in
theorem hexs (w mean mg mb) (n : Int) (hn : 0 ≤ n ∧ n < 4722366482869645213696) (t : Tok)  : CB w mean mg mb 6 92 [.int n t] (fun v => ∃ t, v = .str (hexTold n.natAbs) t) := by
  have hl := hexCodes_len (n := n.natAbs) (by omega)
  have hl3 := List.length_pos_iff.mpr (hexCodes_ne n.natAbs)
  have hl2 := hexText_len n.natAbs
  have hz : (PySem.Str.ofString "0").length = 1 := rfl
  have hlow := hexText_low n.natAbs
  have hlow0 := hexText_low0 n.natAbs
  have hte := told_even n.natAbs
  have hto := told_odd n.natAbs
  walk_at "ez open"
  intro news dp un gd cn cs a ccd cl outer A₀ base h₀ L m s Q E B F X N T hk hd hu hret
  walk_at "ez enterC"
  k_steps
  refine Halt.go ?_
  k_dflt (refine field_x hn.1 (by omega) ?_)
  intro t9 k9
  generalize hexText n.natAbs = x at *
  k_steps
  · (with_reducible rename RIt _ _ _ _ _ _ _ _ => rr)
    (with_reducible rename (Ne (Int.fmod _ _) _) => hf9)
    rw [Int.fmod_eq_emod_of_nonneg _ (by decide)] at hf9
    have ht9 := hto (by omega)
    have hev : (PySem.Str.ofString "0" ++ x).length % 2 = 0 ∧ 0 < (PySem.Str.ofString "0" ++ x).length ∧ (PySem.Str.ofString "0" ++ x).length ≤ 18 := by omega
    clear hto hte hlow
    generalize hy9 : (PySem.Str.ofString "0" ++ x) = y at *
    (refine Halt.go ?_; k_dflt (refine' list_K ?k1 ?k2 ?k3 rr ?k4 ?_; (case k1 => k_asm); (case k2 => k_asm); (case k3 => exact rfl); (case k4 => omega); k_whole); intro D' h' tk' vs' k' F' N' l1 hi'; (rcases (by omega : (y.length + 7) / 8 = 1 ∨ (y.length + 7) / 8 = 2 ∨ (y.length + 7) / 8 = 3) with q | q | q); (focus (rw [q] at hi'; obtain ⟨t1, e⟩ := ints1 _ hi'; subst e; k_steps; refine Halt.go ?_; k_dflt (refine upper_call (told1 _ (by assumption) (by omega) (by split <;> omega)) (told_fits _ (by omega)) ?_); (rw [ht9]; intro t9 k9; k_steps; exact hret _ _ _ ⟨_, rfl⟩ (by assumption) (by first | assumption | exact cb_drop (by assumption) (fun p hp => by simp [hp]))))); (focus (rw [q] at hi'; obtain ⟨t1, t2, e⟩ := ints2 _ hi'; subst e; k_steps; refine Halt.go ?_; k_dflt (refine upper_call (told2 _ (by assumption) (by omega) (by split <;> omega) (by split <;> omega)) (told_fits _ (by omega)) ?_); (rw [ht9]; intro t9 k9; k_steps; exact hret _ _ _ ⟨_, rfl⟩ (by assumption) (by first | assumption | exact cb_drop (by assumption) (fun p hp => by simp [hp]))))); (focus (rw [q] at hi'; obtain ⟨t1, t2, t3, e⟩ := ints3 _ hi'; subst e; k_steps; refine Halt.go ?_; k_dflt (refine upper_call (told3 _ (by assumption) (by omega) (by split <;> omega) (by split <;> omega) (by split <;> omega)) (told_fits _ (by omega)) ?_); (rw [ht9]; intro t9 k9; k_steps; exact hret _ _ _ ⟨_, rfl⟩ (by assumption) (by first | assumption | exact cb_drop (by assumption) (fun p hp => by simp [hp]))))))
  · (with_reducible rename RIt _ _ _ _ _ _ _ _ => rr)
    (with_reducible rename (Eq (Int.fmod _ _) _) => hf9)
    rw [Int.fmod_eq_emod_of_nonneg _ (by decide)] at hf9
    have ht9 := hte (by omega)
    have hev : x.length % 2 = 0 ∧ 0 < x.length ∧ x.length ≤ 18 := by omega
    clear hto hte hlow0
    generalize hy9 : x = y at *
    (refine Halt.go ?_; k_dflt (refine' list_K ?k1 ?k2 ?k3 rr ?k4 ?_; (case k1 => k_asm); (case k2 => k_asm); (case k3 => exact rfl); (case k4 => omega); k_whole); intro D' h' tk' vs' k' F' N' l1 hi'; (rcases (by omega : (y.length + 7) / 8 = 1 ∨ (y.length + 7) / 8 = 2 ∨ (y.length + 7) / 8 = 3) with q | q | q); (focus (rw [q] at hi'; obtain ⟨t1, e⟩ := ints1 _ hi'; subst e; k_steps; refine Halt.go ?_; k_dflt (refine upper_call (told1 _ (by assumption) (by omega) (by split <;> omega)) (told_fits _ (by omega)) ?_); (rw [ht9]; intro t9 k9; k_steps; exact hret _ _ _ ⟨_, rfl⟩ (by assumption) (by first | assumption | exact cb_drop (by assumption) (fun p hp => by simp [hp]))))); (focus (rw [q] at hi'; obtain ⟨t1, t2, e⟩ := ints2 _ hi'; subst e; k_steps; refine Halt.go ?_; k_dflt (refine upper_call (told2 _ (by assumption) (by omega) (by split <;> omega) (by split <;> omega)) (told_fits _ (by omega)) ?_); (rw [ht9]; intro t9 k9; k_steps; exact hret _ _ _ ⟨_, rfl⟩ (by assumption) (by first | assumption | exact cb_drop (by assumption) (fun p hp => by simp [hp]))))); (focus (rw [q] at hi'; obtain ⟨t1, t2, t3, e⟩ := ints3 _ hi'; subst e; k_steps; refine Halt.go ?_; k_dflt (refine upper_call (told3 _ (by assumption) (by omega) (by split <;> omega) (by split <;> omega) (by split <;> omega)) (told_fits _ (by omega)) ?_); (rw [ht9]; intro t9 k9; k_steps; exact hret _ _ _ ⟨_, rfl⟩ (by assumption) (by first | assumption | exact cb_drop (by assumption) (fun p hp => by simp [hp]))))))
end
section
local macro_rules | `(tactic| walk_at "ez open") => `(tactic| (dsimp only [CB, KK, PG, LO]; k_fill))
local macro_rules | `(tactic| walk_at "ez enter") => `(tactic| (refine wpAny_call ?_; k_dflt cell_enter))
local macro_rules | `(tactic| walk_at "callWith ref") => `(tactic| (k_here; (with_reducible show wpAny _ _ (callWith _ (Value.ref _) _ (backTo _ (starEach (_ :: _) _)) (backToKw _ (keywordEach (_ :: _) _))) _ _ _); kfb_any; k_dflt (refine' callWith_boundKw ?kfbN ?kfbM ?kfbA ?_; (case kfbN => k_asm); (case kfbM => k_mem); (case kfbA => exact rfl); k_whole)))
local macro_rules | `(tactic| walk_at "callWith") => `(tactic| (k_here; (with_reducible show wpAny _ _ (callWith _ (Value.builtin _) _ (backTo _ (starEach (_ :: _) _)) (backToKw _ (keywordEach (_ :: _) _))) _ _ _); k_dflt (refine' callWith_methKw ?kfbA ?_; (case kfbA => exact rfl); k_whole)))
local macro_rules | `(tactic| walk_at "call ref") => `(tactic| (k_here; kfb_any; k_dflt (first | (refine fb_kw_little (by k_asm) (by k_mem) (by assumption) (by kfb_size) ?_; intro _ _) | (refine fb_kw_big (by k_asm) (by k_mem) (by assumption) (by kfb_size) ?_; intro _ _) | (refine fb_pos_big (by k_asm) (by k_mem) (by assumption) (by kfb_size) ?_; intro _ _))))
local macro_rules | `(tactic| walk_at "call ref") => `(tactic| (k_here; (with_reducible show wpAny _ _ (call (Value.ref 73) [Value.int _ _]) _ _ _); k_dflt (refine' (isint_int _ _ _ _ _ _).use ?k1 ?k2 ?k3 ?k4 ?k5 ?kK ?kd ?ku ?_); (case k1 => k_asm); (case k2 => k_asm); (case k3 => k_asm); (case k4 => k_asm); (case k5 => k_asm); (case kK => first | exact rfl | assumption); (case kd => ktr_room); (case ku => ktr_units); k_whole; intro v9 h9 tk9 e9 F9 N9; subst e9))
local macro_rules | `(tactic| walk_at "binaryOp LShift") => `(tactic| (k_here; (with_reducible show wpAny _ _ (binaryOp _ (Value.bool _) (Value.int _ _)) _ _ _); refine lshift_bool_int (by l_fact) (by l_fact) ?_))
local macro_rules | `(tactic| walk_at "call builtin:int.to_bytes") => `(tactic| (k_here; (with_reducible rename EncOk _ _ _ => q9); k_dflt (refine to_little_kwI q9.1 q9.2.1 ?_); intro b9 t9 k9 e9; replace e9 := e9.trans q9.2.2))
local macro_rules | `(tactic| walk_at "storeName") => `(tactic| (k_here; (with_reducible show wpAny _ _ (storeName _ _ (Value.int (Int.fdiv _ _) _)) _ _ _); refine gen_store ?_; intro z9 t9 k9 hz9; dsimp only))
local macro_rules | `(tactic| walk_at "storeName") => `(tactic| (k_here; (with_reducible show wpAny _ _ (storeName _ _ (Value.int (PySem.Builtin.bitOr _ _) _)) _ _ _); refine gen_store ?_; intro z9 t9 k9 hz9; (have q9 := encOk (by assumption) (by assumption) (by assumption)); rw [← hz9] at q9; clear hz9; dsimp only))
set_option maxHeartbeats 400000 in
theorem enc (w mean mg mb) (x : Int) (t : Tok) (hx : -9223372036854775808 ≤ x ∧ x ≤ 9223372036854775807) (hn : 0 ≤ (Builtin.Int.intBits x : Int) ∧ (Builtin.Int.intBits x : Int) ≤ 64) : CB w mean mg mb 4 106 [.int x t] (fun v => ∃ b u, v = .bytes b u ∧ KBw.bInts b = octs x) := by
  walk_at "ez open"
  intro news dp un gd cn cs a ccd cl outer A₀ base h₀ L m s Q E B F X N T hk hd hu hret
  walk_at "ez enter"
  k_steps
  · rename x = 0 => e0
    subst e0
    exact hret _ _ _ ⟨_, _, rfl, by rfl⟩ (by assumption) (by assumption)
  · exact hret _ _ _ ⟨_, _, rfl, by assumption⟩ (by assumption) (by assumption)
end
section
local macro_rules | `(tactic| walk_at "ez open") => `(tactic| (dsimp only [CB, KK, PG, LO]; k_fill))
local macro_rules | `(tactic| walk_at "ez enter") => `(tactic| (refine wpAny_call ?_; k_dflt cell_enter))
local macro_rules | `(tactic| walk_at "callWith ref") => `(tactic| (k_here; (with_reducible show wpAny _ _ (callWith _ (Value.ref _) _ (backTo _ (starEach (_ :: _) _)) (backToKw _ (keywordEach (_ :: _) _))) _ _ _); kfb_any; k_dflt (refine' callWith_boundKw ?kfbN ?kfbM ?kfbA ?_; (case kfbN => k_asm); (case kfbM => k_mem); (case kfbA => exact rfl); k_whole)))
local macro_rules | `(tactic| walk_at "callWith") => `(tactic| (k_here; (with_reducible show wpAny _ _ (callWith _ (Value.builtin _) _ (backTo _ (starEach (_ :: _) _)) (backToKw _ (keywordEach (_ :: _) _))) _ _ _); k_dflt (refine' callWith_methKw ?kfbA ?_; (case kfbA => exact rfl); k_whole)))
local macro_rules | `(tactic| walk_at "call ref") => `(tactic| (k_here; kfb_any; k_dflt (first | (refine fb_kw_little (by k_asm) (by k_mem) (by assumption) (by kfb_size) ?_; intro _ _) | (refine fb_kw_big (by k_asm) (by k_mem) (by assumption) (by kfb_size) ?_; intro _ _) | (refine fb_pos_big (by k_asm) (by k_mem) (by assumption) (by kfb_size) ?_; intro _ _))))
local macro_rules | `(tactic| walk_at "ez enterD") => `(tactic| (refine wpAny_call ?_; k_dflt (refine' code_def ?k1 ?k2 ?k3 ?k4 ?k5 ?kA ?kF ?kK ?k6 ?k7 ?k8 ?k9 ?kB ?_ ?c2 ?c3 ?c4 ?c5; (case kA => exact rfl); (case kF => exact rfl); (case kK => assumption); (case k1 => k_asm); (case k2 => k_asm); (case k3 => k_asm); (case k4 => k_asm); (case k5 => k_asm); (case k6 => k_is); (case k7 => k_is); (case k8 => ktr_room); (case k9 => first | exact BindsTo.of_eq rfl | exact binds_K (by k_in) rfl (by k_is) rfl rfl rfl); (case c5 => decide); (case kB => exact locs rfl); (case c2 => exact rfl); (case c3 => exact rfl); (case c4 => exact rfl); k_whole; intro g' L' h' FG' F' N' B' X' T'; (try dsimp only); (try k_lift B'); (try k_fold))))
local macro_rules | `(tactic| walk_at "call type:bytes") => `(tactic| (k_here; (with_reducible show wpAny _ _ (call (Value.type "bytes") [Value.bytes _ _]) _ _ _); refine bytes_of_bytes ?_))
local macro_rules | `(tactic| walk_at "exec While") => `(tactic| (k_here; refine halt ?_))
local macro_rules | `(tactic| walk_at "call builtin:list.append") => `(tactic| (k_here; (try dsimp only [List.cons_append, List.nil_append]); (with_reducible show wpAny _ _ (call (Value.builtin _) [Value.ref _, Value.int _ _]) _ _ _); k_dflt (refine' append_ints ?k1 ?k2 ?k3 ?k4 ?k5 ?_; (case k1 => k_asm); (case k2 => k_asm); (case k3 => k_upd); (case k4 => with_reducible assumption); (case k5 => ((try simp only [List.length_append, List.length_cons, List.length_nil]); omega)); k_whole); intro h' F' N' hi'; (try k_sweep)))
local macro_rules | `(tactic| walk_at "setItem ref int") => `(tactic| (k_here; (with_reducible show wpAny _ _ (setItem (Value.ref _) (Value.int (-1) _) (Value.int _ _)) _ _ _); k_dflt (refine' set_last ?k1 ?k2 ?k3 ?k4 ?k5 ?_; (case k1 => k_asm); (case k2 => k_asm); (case k3 => k_upd); (case k4 => with_reducible assumption); (case k5 => ((try simp only [List.length_append, List.length_cons, List.length_nil]); omega)); k_whole); intro h' F' N' hi'; (try k_sweep)))
local macro_rules | `(tactic| walk_at "ez idx") => `(tactic| omega)
local macro_rules | `(tactic| walk_at "ez octs") => `(tactic| first
  | exact octs_A (by assumption) (by assumption) (by assumption) (by assumption) (by omega) (by assumption)
  | exact octs_B (by assumption) (by assumption) (by assumption) (by assumption) (by omega) (by assumption)
  | exact octs_C (by assumption) (by assumption) (by assumption) (by assumption) (by omega) (by assumption) (by omega)
  | exact octs_D (by assumption) (by assumption) (by assumption) (by assumption) (by omega) (by assumption)
  | exact octs_E (by assumption) (by assumption) (by assumption) (by assumption))
local macro_rules | `(tactic| walk_at "call type:bytes") => `(tactic| (k_here; (with_reducible show wpAny _ _ (call (Value.type "bytes") [Value.ref _]) _ _ _); k_dflt (refine' bytes_octs ?k1 ?k2 ?k3 ?k4 ?k5 ?k6 ?k7 ?_; (case k1 => k_asm); (case k2 => k_asm); (case k3 => k_mem); (case k4 => with_reducible assumption); (case k5 => exact rfl); (case k6 => assumption); (case k7 => walk_at "ez octs"); k_whole); intro b' h' t' k' F' N' hb'; (try k_sweep)))
set_option maxHeartbeats 1000000 in
theorem lawo (w mean mg mb) (n : Int) (hn : Small n) (t : Tok)  : CB w mean mg mb 2 113 [.int n t] (fun v => ∃ b u, v = .bytes b u ∧ KBw.bInts b = octs n) := by
  walk_at "ez open"
  intro news dp un gd cn cs a ccd cl outer A₀ base h₀ L m s Q E B F X N T hk hd hu hret
  walk_at "ez enter"
  k_steps
  refine Halt.go ?_
  rename Fr _ _ _ _ => F1
  obtain ⟨u, F2⟩ := fr_three (x₁ := PySem.Str.ofString "size") (x₂ := PySem.Str.ofString "found") (x₃ := PySem.Str.ofString "number") F1 (by exact rfl) (by exact rfl) (by exact rfl)
  clear F1
  refine octs_while F2 (by assumption) ⟨(digOk_start hn).1, (digOk_start hn).2.1, .nil, (digOk_start hn).2.2⟩ ?hE ?turn
  case hE => first | passes_own | with_unfolding_all passes_own
  case turn =>
    intro z1 tz1 ns1 vs1 k1 h1 tk1 p1 p2 p3 p4 F1 N1
    k_steps
    all_goals first
      | exact octs_turn p1 p2 (by assumption) p4 (by assumption) (by assumption) (by assumption)
      | exact (octs_F (by assumption) (by assumption) (by assumption) (by assumption)).elim
      | exact hret _ _ _ ⟨_, _, rfl, by assumption⟩ (by assumption) (cb_drop (by assumption) (fun p hp => List.mem_cons_of_mem _ hp))
end
section
local macro_rules | `(tactic| walk_at "ez open") => `(tactic| (dsimp only [CB, KK, PG, LO]; k_fill))
local macro_rules | `(tactic| walk_at "ez enter") => `(tactic| (refine wpAny_call ?_; k_dflt cell_enter))
local macro_rules | `(tactic| walk_at "callWith ref") => `(tactic| (k_here; (with_reducible show wpAny _ _ (callWith _ (Value.ref _) _ (backTo _ (starEach (_ :: _) _)) (backToKw _ (keywordEach (_ :: _) _))) _ _ _); kfb_any; k_dflt (refine' callWith_boundKw ?kfbN ?kfbM ?kfbA ?_; (case kfbN => k_asm); (case kfbM => k_mem); (case kfbA => exact rfl); k_whole)))
local macro_rules | `(tactic| walk_at "callWith") => `(tactic| (k_here; (with_reducible show wpAny _ _ (callWith _ (Value.builtin _) _ (backTo _ (starEach (_ :: _) _)) (backToKw _ (keywordEach (_ :: _) _))) _ _ _); k_dflt (refine' callWith_methKw ?kfbA ?_; (case kfbA => exact rfl); k_whole)))
local macro_rules | `(tactic| walk_at "call ref") => `(tactic| (k_here; kfb_any; k_dflt (first | (refine fb_kw_little (by k_asm) (by k_mem) (by assumption) (by kfb_size) ?_; intro _ _) | (refine fb_kw_big (by k_asm) (by k_mem) (by assumption) (by kfb_size) ?_; intro _ _) | (refine fb_pos_big (by k_asm) (by k_mem) (by assumption) (by kfb_size) ?_; intro _ _))))
local macro_rules | `(tactic| walk_at "ez enterD") => `(tactic| (refine wpAny_call ?_; k_dflt (refine' code_def ?k1 ?k2 ?k3 ?k4 ?k5 ?kA ?kF ?kK ?k6 ?k7 ?k8 ?k9 ?kB ?_ ?c2 ?c3 ?c4 ?c5; (case kA => exact rfl); (case kF => exact rfl); (case kK => assumption); (case k1 => k_asm); (case k2 => k_asm); (case k3 => k_asm); (case k4 => k_asm); (case k5 => k_asm); (case k6 => k_is); (case k7 => k_is); (case k8 => ktr_room); (case k9 => first | exact BindsTo.of_eq rfl | exact binds_K (by k_in) rfl (by k_is) rfl rfl rfl); (case c5 => decide); (case kB => exact locs rfl); (case c2 => exact rfl); (case c3 => exact rfl); (case c4 => exact rfl); k_whole; intro g' L' h' FG' F' N' B' X' T'; (try dsimp only); (try k_lift B'); (try k_fold))))
local macro_rules | `(tactic| walk_at "call type:bytes") => `(tactic| (k_here; (with_reducible show wpAny _ _ (call (Value.type "bytes") [Value.bytes _ _]) _ _ _); refine bytes_of_bytes ?_))
local macro_rules | `(tactic| walk_at "ez enterC") => `(tactic| (refine wpAny_call ?_; k_dflt (refine' code_defC ?k1 ?k2 ?k3 ?k4 ?k5 ?kA ?kF ?kK ?k6 ?k7 ?k8 ?k9 ?kB ?kD ?_ ?c2 ?c3 ?c4; (case kA => exact rfl); (case kF => exact rfl); (case kK => assumption); (case k1 => k_asm); (case k2 => k_asm); (case k3 => k_asm); (case k4 => k_asm); (case k5 => k_asm); (case k6 => k_is); (case k7 => k_is); (case k8 => ktr_room); (case k9 => first | exact BindsTo.of_eq rfl | exact binds_K (by k_in) rfl (by k_is) rfl rfl rfl | fail "k_enter: no rule for these arguments"); (case kB => exact rfl); (case kD => decide +kernel); (case c2 => exact rfl); (case c3 => exact rfl); (case c4 => exact rfl); k_whole; intro g' L' h' tk' cells' FG' F' N' Y' B' X' T' l1; (try k_lt l1); k_cells Y'; (try simp only [List.cons_append, List.nil_append] at N'); (try dsimp only); (try k_lift B'); (try k_fold))))
local macro_rules | `(tactic| walk_at "compareOp Eq bytes bytes") => `(tactic| (k_here; (with_reducible show wpAny _ _ (compareOp CmpOp.Eq (Value.bytes _ _) (Value.bytes (List.toArray []) _)) _ _ _); refine eq_bytes_nil (by assumption) ?_))
set_option maxHeartbeats 1000000 in
theorem lawv (w mean mg mb) (b : Array UInt8) (ks : List Int) (t : Tok) (hb : KBw.bInts b = ks) (hl : ks.length ≤ 9) : CB w mean mg mb 2 118 [.bytes b t] (fun v => ∃ t, v = .int (val ks) t) := by
  have hin : KBa.In ks := by rw [← hb]; exact fun k hk => KBw.ints_in hk
  walk_at "ez open"
  intro news dp un gd cn cs a ccd cl outer A₀ base h₀ L m s Q E B F X N T hk hd hu hret
  walk_at "ez enterC"
  k_steps
  · rw [val_nil (by assumption)]
    exact hret _ _ _ ⟨_, rfl⟩ (by assumption) (cb_drop (by assumption) (fun p hp => List.mem_cons_of_mem _ hp))
  · rw [lv_neg hin (by assumption) (by assumption) (by omega) (by omega) (by omega)]
    exact hret _ _ _ ⟨_, rfl⟩ (by assumption) (cb_drop (by assumption) (fun p hp => List.mem_cons_of_mem _ (List.mem_cons_of_mem _ hp)))
  · rw [lv_pos hin (by assumption) (by assumption) (by omega) (by omega) (by omega)]
    exact hret _ _ _ ⟨_, rfl⟩ (by assumption) (cb_drop (by assumption) (fun p hp => List.mem_cons_of_mem _ (List.mem_cons_of_mem _ hp)))
set_option maxHeartbeats 1000000 in
theorem dec (w mean mg mb) (b : Array UInt8) (ks : List Int) (t : Tok) (hb : KBw.bInts b = ks) (hl : ks.length ≤ 9) : CB w mean mg mb 2 99 [.bytes b t] (fun v => ∃ t, v = .int (val ks) t) := by
  have hin : KBa.In ks := by rw [← hb]; exact fun k hk => KBw.ints_in hk
  walk_at "ez open"
  intro news dp un gd cn cs a ccd cl outer A₀ base h₀ L m s Q E B F X N T hk hd hu hret
  walk_at "ez enter"
  k_steps
  · rw [val_nil (by assumption)]
    exact hret _ _ _ ⟨_, rfl⟩ (by assumption) (by assumption)
  · rw [dec_neg hin (by assumption) (by assumption) (by omega) (by omega)]
    exact hret _ _ _ ⟨_, rfl⟩ (by assumption) (cb_drop (by assumption) (fun p hp => List.mem_cons_of_mem _ hp))
  · rw [dec_pos (by assumption) (by assumption) (by omega)]
    exact hret _ _ _ ⟨_, rfl⟩ (by assumption) (cb_drop (by assumption) (fun p hp => List.mem_cons_of_mem _ hp))
end
section
local macro_rules | `(tactic| walk_at "ez open") => `(tactic| (dsimp only [CB, KK, PG, LO]; k_fill))
local macro_rules | `(tactic| walk_at "ez enter") => `(tactic| (refine wpAny_call ?_; k_dflt cell_enter))
local macro_rules | `(tactic| walk_at "callWith ref") => `(tactic| (k_here; (with_reducible show wpAny _ _ (callWith _ (Value.ref _) _ (backTo _ (starEach (_ :: _) _)) (backToKw _ (keywordEach (_ :: _) _))) _ _ _); kfb_any; k_dflt (refine' callWith_boundKw ?kfbN ?kfbM ?kfbA ?_; (case kfbN => k_asm); (case kfbM => k_mem); (case kfbA => exact rfl); k_whole)))
local macro_rules | `(tactic| walk_at "callWith") => `(tactic| (k_here; (with_reducible show wpAny _ _ (callWith _ (Value.builtin _) _ (backTo _ (starEach (_ :: _) _)) (backToKw _ (keywordEach (_ :: _) _))) _ _ _); k_dflt (refine' callWith_methKw ?kfbA ?_; (case kfbA => exact rfl); k_whole)))
local macro_rules | `(tactic| walk_at "call ref") => `(tactic| (k_here; kfb_any; k_dflt (first | (refine fb_kw_little (by k_asm) (by k_mem) (by assumption) (by kfb_size) ?_; intro _ _) | (refine fb_kw_big (by k_asm) (by k_mem) (by assumption) (by kfb_size) ?_; intro _ _) | (refine fb_pos_big (by k_asm) (by k_mem) (by assumption) (by kfb_size) ?_; intro _ _))))
local macro_rules | `(tactic| walk_at "ez enterD") => `(tactic| (refine wpAny_call ?_; k_dflt (refine' code_def ?k1 ?k2 ?k3 ?k4 ?k5 ?kA ?kF ?kK ?k6 ?k7 ?k8 ?k9 ?kB ?_ ?c2 ?c3 ?c4 ?c5; (case kA => exact rfl); (case kF => exact rfl); (case kK => assumption); (case k1 => k_asm); (case k2 => k_asm); (case k3 => k_asm); (case k4 => k_asm); (case k5 => k_asm); (case k6 => k_is); (case k7 => k_is); (case k8 => ktr_room); (case k9 => first | exact BindsTo.of_eq rfl | exact binds_K (by k_in) rfl (by k_is) rfl rfl rfl); (case c5 => decide); (case kB => exact locs rfl); (case c2 => exact rfl); (case c3 => exact rfl); (case c4 => exact rfl); k_whole; intro g' L' h' FG' F' N' B' X' T'; (try dsimp only); (try k_lift B'); (try k_fold))))
local macro_rules | `(tactic| walk_at "call type:bytes") => `(tactic| (k_here; (with_reducible show wpAny _ _ (call (Value.type "bytes") [Value.bytes _ _]) _ _ _); refine bytes_of_bytes ?_))
local macro_rules | `(tactic| walk_at "ez enterC") => `(tactic| (refine wpAny_call ?_; k_dflt (refine' code_defC ?k1 ?k2 ?k3 ?k4 ?k5 ?kA ?kF ?kK ?k6 ?k7 ?k8 ?k9 ?kB ?kD ?_ ?c2 ?c3 ?c4; (case kA => exact rfl); (case kF => exact rfl); (case kK => assumption); (case k1 => k_asm); (case k2 => k_asm); (case k3 => k_asm); (case k4 => k_asm); (case k5 => k_asm); (case k6 => k_is); (case k7 => k_is); (case k8 => ktr_room); (case k9 => first | exact BindsTo.of_eq rfl | exact binds_K (by k_in) rfl (by k_is) rfl rfl rfl | fail "k_enter: no rule for these arguments"); (case kB => exact rfl); (case kD => decide +kernel); (case c2 => exact rfl); (case c3 => exact rfl); (case c4 => exact rfl); k_whole; intro g' L' h' tk' cells' FG' F' N' Y' B' X' T' l1; (try k_lt l1); k_cells Y'; (try simp only [List.cons_append, List.nil_append] at N'); (try dsimp only); (try k_lift B'); (try k_fold))))
local macro_rules | `(tactic| walk_at "compareOp Eq bytes bytes") => `(tactic| (k_here; (with_reducible show wpAny _ _ (compareOp CmpOp.Eq (Value.bytes _ _) (Value.bytes (List.toArray []) _)) _ _ _); refine eq_bytes_nil (by assumption) ?_))
set_option maxHeartbeats 1000000 in
theorem bfo (w mean mg mb) (b : Array UInt8) (t : Tok) : CB w mean mg mb 4 59 [.bytes b t] (fun v => v = .bytes b t) := by
  walk_at "ez open"
  intro news dp un gd cn cs a ccd cl outer A₀ base h₀ L m s Q E B F X N T hk hd hu hret
  walk_at "ez enterD"
  k_steps
  exact hret _ _ _ rfl (by assumption) (cb_drop (by assumption) (fun p hp => List.mem_cons_of_mem _ hp))
local macro_rules | `(tactic| walk_at "call ref") => `(tactic| (k_here; (with_reducible show wpAny _ _ (call (Value.ref 59) [Value.bytes _ _]) _ _ _); k_dflt (refine' (bfo _ _ _ _ _ _).use ?k1 ?k2 ?k3 ?k4 ?k5 ?kK ?kd ?ku ?_); (case k1 => k_asm); (case k2 => k_asm); (case k3 => k_asm); (case k4 => k_asm); (case k5 => k_asm); (case kK => first | exact rfl | assumption); (case kd => ktr_room); (case ku => ktr_units); k_whole; intro v9 h9 tk9 e9 F9 N9; subst e9))
set_option maxHeartbeats 1000000 in
theorem ifb (w mean mg mb) (b : Array UInt8) (ks : List Int) (t u : Tok) (n : Int) (hn : 0 ≤ n ∧ n ≤ 200) (hb : KBw.bInts b = ks) (hl : ks.length ≤ 9) : CB w mean mg mb 6 80 [.bytes b t, .int n u] (fun v => ∃ t, v = .int ((KFB.value ks).fdiv (2 ^ ((ks.length : Int) * 8 - n).toNat)) t) := by
  walk_at "ez open"
  intro news dp un gd cn cs a ccd cl outer A₀ base h₀ L m s Q E B F X N T hk hd hu hret
  walk_at "ez enter"
  k_steps
  · exact hret _ _ _ ⟨_, rfl⟩ (by assumption) (cb_drop (by assumption) (fun p hp => List.mem_cons_of_mem _ hp))
  · have e : ((ks.length : Int) * 8 - n).toNat = Int.toNat 0 := by omega
    rw [e] at hret
    exact hret _ _ _ ⟨_, rfl⟩ (by assumption) (cb_drop (by assumption) (fun p hp => List.mem_cons_of_mem _ hp))
end
section
local macro_rules | `(tactic| walk_at "ez open") => `(tactic| (dsimp only [CB, KK, PG, LO]; k_fill))
local macro_rules | `(tactic| walk_at "callWith ref") => `(tactic| (k_here; (with_reducible show wpAny _ _ (callWith _ (Value.ref _) _ (backTo _ (starEach (_ :: _) _)) (backToKw _ (keywordEach (_ :: _) _))) _ _ _); kfb_any; k_dflt (refine' callWith_boundKw ?kfbN ?kfbM ?kfbA ?_; (case kfbN => k_asm); (case kfbM => k_mem); (case kfbA => exact rfl); k_whole)))
local macro_rules | `(tactic| walk_at "callWith") => `(tactic| (k_here; (with_reducible show wpAny _ _ (callWith _ (Value.builtin _) _ (backTo _ (starEach (_ :: _) _)) (backToKw _ (keywordEach (_ :: _) _))) _ _ _); k_dflt (refine' callWith_methKw ?kfbA ?_; (case kfbA => exact rfl); k_whole)))
local macro_rules | `(tactic| walk_at "call ref") => `(tactic| (k_here; kfb_any; k_dflt (first | (refine fb_kw_little (by k_asm) (by k_mem) (by assumption) (by kfb_size) ?_; intro _ _) | (refine fb_kw_big (by k_asm) (by k_mem) (by assumption) (by kfb_size) ?_; intro _ _) | (refine fb_pos_big (by k_asm) (by k_mem) (by assumption) (by kfb_size) ?_; intro _ _))))
local macro_rules | `(tactic| walk_at "ez enter") => `(tactic| (refine wpAny_call ?_; k_dflt (refine' code_def ?k1 ?k2 ?k3 ?k4 ?k5 ?kA ?kF ?kK ?k6 ?k7 ?k8 ?k9 ?kB ?_ ?c2 ?c3 ?c4 ?c5; (case kA => exact rfl); (case kF => exact rfl); (case kK => first | assumption | exact rfl); (case k1 => k_asm); (case k2 => k_asm); (case k3 => k_asm); (case k4 => k_asm); (case k5 => k_asm); (case k6 => k_is); (case k7 => k_is); (case k8 => ktr_room); (case k9 => first | exact BindsTo.of_eq rfl | exact binds_K (by k_in) rfl (by k_is) rfl rfl rfl); (case c5 => decide); (case kB => exact locs rfl); (case c2 => exact rfl); (case c3 => exact rfl); (case c4 => exact rfl); k_whole; intro g' L' h' FG' F' N' B' X' T'; (try dsimp only); (try k_lift B'); (try k_fold))))
local macro_rules | `(tactic| walk_at "ez enterD") => `(tactic| (refine wpAny_call ?_; k_dflt (refine' code_def ?k1 ?k2 ?k3 ?k4 ?k5 ?kA ?kF ?kK ?k6 ?k7 ?k8 ?k9 ?kB ?_ ?c2 ?c3 ?c4 ?c5; (case kA => exact rfl); (case kF => exact rfl); (case kK => first | assumption | exact rfl); (case k1 => k_asm); (case k2 => k_asm); (case k3 => k_asm); (case k4 => k_asm); (case k5 => k_asm); (case k6 => k_is); (case k7 => k_is); (case k8 => ktr_room); (case k9 => first | exact BindsTo.of_eq rfl | exact binds_K (by k_in) rfl (by k_is) rfl rfl rfl); (case c5 => decide); (case kB => exact locs rfl); (case c2 => exact rfl); (case c3 => exact rfl); (case c4 => exact rfl); k_whole; intro g' L' h' FG' F' N' B' X' T'; (try dsimp only); (try k_lift B'); (try k_fold))))
local macro_rules | `(tactic| walk_at "call type:bytes") => `(tactic| (k_here; (with_reducible show wpAny _ _ (call (Value.type "bytes") [Value.bytes _ _]) _ _ _); refine bytes_of_bytes ?_))
local macro_rules | `(tactic| walk_at "ez enterC") => `(tactic| (refine wpAny_call ?_; k_dflt (refine' code_defC ?k1 ?k2 ?k3 ?k4 ?k5 ?kA ?kF ?kK ?k6 ?k7 ?k8 ?k9 ?kB ?kD ?_ ?c2 ?c3 ?c4; (case kA => exact rfl); (case kF => exact rfl); (case kK => first | assumption | exact rfl); (case k1 => k_asm); (case k2 => k_asm); (case k3 => k_asm); (case k4 => k_asm); (case k5 => k_asm); (case k6 => k_is); (case k7 => k_is); (case k8 => ktr_room); (case k9 => first | exact BindsTo.of_eq rfl | exact binds_K (by k_in) rfl (by k_is) rfl rfl rfl | fail "k_enter: no rule for these arguments"); (case kB => exact rfl); (case kD => decide +kernel); (case c2 => exact rfl); (case c3 => exact rfl); (case c4 => exact rfl); k_whole; intro g' L' h' tk' cells' FG' F' N' Y' B' X' T' l1; (try k_lt l1); k_cells Y'; (try simp only [List.cons_append, List.nil_append] at N'); (try dsimp only); (try k_lift B'); (try k_fold))))
local macro_rules | `(tactic| walk_at "compareOp Eq bytes bytes") => `(tactic| (k_here; (with_reducible show wpAny _ _ (compareOp CmpOp.Eq (Value.bytes _ _) (Value.bytes (List.toArray []) _)) _ _ _); refine eq_bytes_nil (by assumption) ?_))
local macro_rules | `(tactic| k_all) => `(tactic| exact all_ne (by assumption) (by omega))
local macro_rules | `(tactic| walk_at "exec While") => `(tactic| (k_here; refine halt ?_))
set_option maxHeartbeats 3000000 in
theorem lawg (w mean mg mb) (n : Int) (hn : 0 ≤ n ∧ n < 4722366482869645213696) (t : Tok)  : CB w mean mg mb 2 132 [.int n t] (fun v => ∃ t, v = .str (hexTold n.natAbs) t) := by
  walk_at "ez open"
  intro news dp un gd cn cs a ccd cl outer A₀ base h₀ L m s Q E B F X N T hk hd hu hret
  walk_at "ez enter"
  k_steps
  refine Halt.go ?_
  rename Fr _ _ _ _ => F1
  obtain ⟨u, F2⟩ := fr_three (x₁ := PySem.Str.ofString "left") (x₂ := PySem.Str.ofString "signs") (x₃ := PySem.Str.ofString "number") F1 (by exact rfl) (by exact rfl) (by exact rfl)
  clear F1
  refine digits_while F2 (by assumption) hn.1 rfl ?hE ?turn
  case hE => first | passes_own | with_unfolding_all passes_own
  case turn =>
    intro x1 tx1 z1 tz1 h1 tk1 p1 p2 p3 F1 N1
    k_steps
    · exact digits_turn hn.2 hn.1 p1 p3 (.inl (by assumption)) (by assumption) (by assumption)
    · exact digits_turn hn.2 hn.1 p1 p3 (.inr (.inl (nil_of_beq (by assumption)))) (by assumption) (by assumption)
    · exact digits_turn hn.2 hn.1 p1 p3 (.inr (.inr (odd_of (by assumption)))) (by assumption) (by assumption)
    · have hS := digits_end p3 p1 (by assumption) (by assumption) (by assumption)
      have hl : x1.length ≤ 24 := by omega
      refine Halt.go ?_
      (with_reducible rename Fr _ _ _ _ => F1)
      obtain ⟨u1, F2⟩ := fr_two (x₁ := PySem.Str.ofString "signs") (x₂ := PySem.Str.ofString "found") F1 (by exact rfl) (by exact rfl)
      clear F1
      refine groups_while F2 (by assumption) hl rfl (congrArg grp hS) ?hE ?turn
      case hE => first | passes_own | with_unfolding_all passes_own
      case turn =>
        intro x2 tx2 f2 tf2 h2 tk2 q1 q2 q3 F3 N3
        k_steps
        · exact groups_turn q1 q2 q3 (by omega) (by assumption) (by assumption)
        · have he := groups_end q3 (by omega) rfl
          exact hret _ _ _ ⟨_, by rw [he]⟩ (by assumption) (by assumption)
end
section
def R64 (x : Int) : Prop := -9223372036854775808 ≤ x ∧ x ≤ 9223372036854775807
theorem guard64 {x : Int} (h1 : -(2 ^ Int.toNat 63) ≤ x) (h2 : x < 2 ^ Int.toNat 63) : R64 x := by
  rw [p63] at h1 h2
  exact ⟨h1, by omega⟩
theorem small64 {x : Int} (h : R64 x) : Small x := by
  unfold R64 at h
  unfold Small
  have e : (256 : Nat) ^ 20 = 1461501637330902918203684832716283019655932542976 := by decide
  rw [e]; omega
theorem bits64 {x : Int} (h : R64 x) : 0 ≤ (Builtin.Int.intBits x : Int) ∧ (Builtin.Int.intBits x : Int) ≤ 64 := by
  unfold R64 at h
  have e64 : (2 : Nat) ^ 64 = 18446744073709551616 := by decide
  have hb : Builtin.Int.intBits x ≤ 64 := intBits_le_iff.mpr (by rw [e64]; omega)
  omega
theorem len64 {x : Int} (h : R64 x) : (octs x).length ≤ 9 := by
  have hb := (bits64 h).2
  unfold octs
  split
  · exact Nat.zero_le _
  · rw [KTBy.little_length]; omega
theorem enc64 (w mean mg mb) (x : Int) (t : Tok) (h : R64 x) : CB w mean mg mb 4 106 [.int x t] (fun v => ∃ b u, v = .bytes b u ∧ KBw.bInts b = octs x) := enc w mean mg mb x t h (bits64 h)
theorem lawo64 (w mean mg mb) (x : Int) (t : Tok) (h : R64 x) : CB w mean mg mb 2 113 [.int x t] (fun v => ∃ b u, v = .bytes b u ∧ KBw.bInts b = octs x) := lawo w mean mg mb x (small64 h) t
theorem dec64 (w mean mg mb) (b : Array UInt8) (x : Int) (t : Tok) (hb : KBw.bInts b = octs x) (h : R64 x) : CB w mean mg mb 2 99 [.bytes b t] (fun v => ∃ t, v = .int x t) := by
  have c := dec w mean mg mb b (octs x) t hb (len64 h)
  rw [val_octs] at c
  exact c
theorem size_ints {b : Array UInt8} {ks : List Int} (h : KBw.bInts b = ks) : b.size = ks.length := by rw [← h, KBw.ints_length]
section
variable {prog : Program} {w : World} {A : Around} {E : Value → Shared → Prop} {s : Shared} {h₀ : Heap} {L D : Addr} {news : List (Addr × Obj)} {m : PySem.Str → Option Value}
theorem bytes_made {vs : List Value} {ks : List Int} {Q : Value → Shared → Prop} (F : Fr h₀ L s.heap m) (N : News h₀ L s.heap news) (hm : (D, LCg.lst vs) ∈ news) (hi : IntsAre vs ks) (hin : KBa.In ks) (hl : ks.length ≤ 9) (hh : A.handled = none)
    (h : ∀ b h' t' k, Fr h₀ L h' m → News h₀ L h' news → KBw.bInts b = ks → Q (.bytes b t') { s with heap := h', toks := k }) : wpAny (model prog w) A (call (.type "bytes") [.ref D]) Q E s :=
  KBa.make_K F N hh (PySem.IsL.isList (n := vs.length) (N _ hm).1) hi hin (by omega) fun h' t' k' F' N' hin => h _ h' t' k' F' N' (KBa.ints_make hin)
end
theorem value_bound {ks : List Int} (hin : KBa.In ks) (hl : ks.length ≤ 9) : 0 ≤ KFB.value ks ∧ KFB.value ks < 4722366482869645213696 := by
  have e := le_rev ks.reverse
  rw [List.reverse_reverse] at e
  have b := le_bound ks.reverse (fun k hk => hin k (List.mem_reverse.mp hk))
  rw [← e, List.length_reverse] at b
  refine ⟨b.1, Int.lt_of_lt_of_le b.2 ?_⟩
  have h : (256 : Nat) ^ ks.length ≤ 256 ^ 9 := Nat.pow_le_pow_right (by decide) hl
  have h9 : (256 : Nat) ^ 9 = 4722366482869645213696 := by decide +kernel
  rw [h9] at h
  have h' : ((256 ^ ks.length : Nat) : Int) ≤ ((4722366482869645213696 : Nat) : Int) := Int.ofNat_le.mpr h
  rw [Int.natCast_pow] at h'
  exact h'
end
section
/-- As CB, of a call from the law itself (no caller beyond it). -/
abbrev CB0 (w : World) (mean : ExcName → Option Value) (mg mb : Str → Option Value) (n : Nat) (f : Addr) (vs : List Value) (R : Value → Prop) : Prop :=
  ∀ (news : List (Addr × Obj)) (dp un : Nat) (gd : Option (List Code)) (cn : Str) (cs : Scope) (a : Addr) (ccd : Value) (A₀ : Around) (base h₀ : Heap) (L : Addr) (m : Str → Option Value) (s : Shared) (Q E : Value → Shared → Prop),
    Below A₀ base [] h₀ → Fr h₀ L s.heap m → (KK w).In h₀ → News h₀ L s.heap news → Top hd.view_39 LO mean mg mb h₀ → cs.kind = .function → (KK w).In base → Top hd.view_39 LO mean mg mb base → dp + n < recursionLimit → un + 16 * n < cLine →
      (∀ (v : Value) (h' : Heap) (tk' : Nat), R v → Fr h₀ L h' m → News h₀ L h' news → Q v { s with heap := h', toks := tk' }) →
      wpAny (model PG w) (ktrTop dp un gd cn cs L a ccd [] []) (call (.ref f) vs) Q E s
theorem CB0.use {w : World} {mean : ExcName → Option Value} {mg mb : Str → Option Value} {n : Nat} {f : Addr} {vs : List Value} {R : Value → Prop} (C : CB0 w mean mg mb n f vs R)
    {news : List (Addr × Obj)} {dp un : Nat} {gd : Option (List Code)} {cn : Str} {cs : Scope} {a : Addr} {ccd : Value} {A₀ : Around} {base h₀ : Heap} {L : Addr} {m : Str → Option Value} {s : Shared} {Q E : Value → Shared → Prop}
    (B : Below A₀ base [] h₀) (F : Fr h₀ L s.heap m) (X : (hd.heap_39 w.params).In h₀) (N : News h₀ L s.heap news)
    (T : Top hd.view_39 (looseW hd.view_39 [Str.ofString "BTClibValueError", Str.ofString "BTClibTypeError", Str.ofString "bytes_from_octets"]) mean mg mb h₀) (hk : cs.kind = .function) (XB : (hd.heap_39 w.params).In base)
    (TB : Top hd.view_39 (looseW hd.view_39 [Str.ofString "BTClibValueError", Str.ofString "BTClibTypeError", Str.ofString "bytes_from_octets"]) mean mg mb base) (hd : dp + n < recursionLimit) (hu : un + 16 * n < cLine)
    (k : ∀ (v : Value) (h' : Heap) (tk' : Nat), R v → Fr h₀ L h' m → News h₀ L h' news → Q v { s with heap := h', toks := tk' }) :
    wpAny (model PySem.Challenge.rw_ez0010_01.row.prog w) (ktrTop dp un gd cn cs L a ccd [] []) (call (.ref f) vs) Q E s := C _ _ _ _ _ _ _ _ _ _ _ _ _ _ _ _ B F X N T hk XB TB hd hu k
local macro_rules | `(tactic| walk_at "ez open") => `(tactic| (dsimp only [CB, CB0, KK, PG, LO]; k_fill))
local macro_rules | `(tactic| walk_at "ez enter") => `(tactic| (refine wpAny_call ?_; k_dflt (refine' code_def ?k1 ?k2 ?k3 ?k4 ?k5 ?kA ?kF ?kK ?k6 ?k7 ?k8 ?k9 ?kB ?_ ?c2 ?c3 ?c4 ?c5; (case kA => exact rfl); (case kF => exact rfl); (case kK => first | assumption | exact rfl); (case k1 => k_asm); (case k2 => k_asm); (case k3 => k_asm); (case k4 => k_asm); (case k5 => k_asm); (case k6 => k_is); (case k7 => k_is); (case k8 => ktr_room); (case k9 => first | exact BindsTo.of_eq rfl | exact binds_K (by k_in) rfl (by k_is) rfl rfl rfl); (case c5 => decide); (case kB => exact locs rfl); (case c2 => exact rfl); (case c3 => exact rfl); (case c4 => exact rfl); k_whole; intro g' L' h' FG' F' N' B' X' T'; (try dsimp only); (try k_lift B'); (try k_fold))))
local macro_rules | `(tactic| walk_at "ez raise") => `(tactic| (k_here; (with_reducible show wpAny _ _ (exec (Stmt.Raise (some (Expr.Call (Expr.Name _ _) (_ :: _) [] _)) none _) _) _ _ _); k_dflt (first
  | (refine' Raise_own2 ?F ?g ?O PySem.F.excBase_Exception ?n PySem.F.excBase_ValueError ?h ?_ ?a ?b ?c ?d ?e; (case F => k_asm); (case g => exact TopRead.g (by k_asm)); (case O => exact own_of_in (by k_asm) (by k_asm) (by k_is) (by k_exc)); (case n => decide); (case h => first | rfl | assumption); (case a => rfl); (case b => rfl); (case c => rfl); (case d => rfl); (case e => decide); k_whole)
  | (refine' Raise_own2 ?F ?g ?O PySem.F.excBase_Exception ?n PySem.F.excBase_TypeError ?h ?_ ?a ?b ?c ?d ?e; (case F => k_asm); (case g => exact TopRead.g (by k_asm)); (case O => exact own_of_in (by k_asm) (by k_asm) (by k_is) (by k_exc)); (case n => decide); (case h => first | rfl | assumption); (case a => rfl); (case b => rfl); (case c => rfl); (case d => rfl); (case e => decide); k_whole))))
local macro_rules | `(tactic| walk_at "ez enterS") => `(tactic| (refine wpAny_call ?_; k_dflt (refine' code_defS0 ?k1 ?k2 ?k3 ?k4 ?k5 ?kA ?k6 ?k7 ?k8 ?k9 ?kB ?_ ?cK ?c2 ?c3 ?c4 ?c5; (case kA => exact rfl); (case k2 => k_asm); (case k1 => k_asm); (case k3 => k_asm); (case k4 => k_asm); (case k5 => k_asm); (case k6 => k_is); (case k7 => k_is); (case k8 => ktr_room); (case k9 => first | exact binds_K (by k_in) rfl (by k_is) rfl rfl rfl | exact BindsTo.of_eq rfl); (case kB => exact locs rfl); (case cK => first | assumption | exact rfl); (case c2 => exact rfl); (case c3 => exact rfl); (case c4 => exact rfl); (case c5 => decide); k_whole; intro g' L' h' FG' F' N' B' X' T' D'; (try dsimp only); (try k_lift B'); (try k_fold))))
local macro_rules | `(tactic| walk_at "call ref") => `(tactic| (k_here; (with_reducible show wpAny _ _ (call (Value.ref 73) [Value.int _ _]) _ _ _); k_dflt (refine' (isint_int _ _ _ _ _ _).use ?k1 ?k2 ?k3 ?k4 ?k5 ?kK ?kd ?ku ?_); (case k1 => k_asm); (case k2 => k_asm); (case k3 => k_asm); (case k4 => k_asm); (case k5 => k_asm); (case kK => first | exact rfl | assumption); (case kd => ktr_room); (case ku => ktr_units); k_whole; intro v9 h9 tk9 e9 F9 N9; subst e9))
local macro_rules | `(tactic| walk_at "call ref") => `(tactic| (k_here; (with_reducible show wpAny _ _ (call (Value.ref 73) [Value.bool _]) _ _ _); k_dflt (refine' (isint_bool _ _ _ _ _).use ?k1 ?k2 ?k3 ?k4 ?k5 ?kK ?kd ?ku ?_); (case k1 => k_asm); (case k2 => k_asm); (case k3 => k_asm); (case k4 => k_asm); (case k5 => k_asm); (case kK => first | exact rfl | assumption); (case kd => ktr_room); (case ku => ktr_units); k_whole; intro v9 h9 tk9 e9 F9 N9; subst e9))
local macro_rules | `(tactic| walk_at "call ref") => `(tactic| (k_here; (with_reducible show wpAny _ _ (call (Value.ref 73) [Value.str _ _]) _ _ _); k_dflt (refine' (isint_str _ _ _ _ _ _).use ?k1 ?k2 ?k3 ?k4 ?k5 ?kK ?kd ?ku ?_); (case k1 => k_asm); (case k2 => k_asm); (case k3 => k_asm); (case k4 => k_asm); (case k5 => k_asm); (case kK => first | exact rfl | assumption); (case kd => ktr_room); (case ku => ktr_units); k_whole; intro v9 h9 tk9 e9 F9 N9; subst e9))
local macro_rules | `(tactic| walk_at "call ref") => `(tactic| (k_here; (first | (with_reducible show wpAny _ _ (call (Value.ref 106) _) _ _ _) | (with_reducible show wpAny _ _ (call (Value.ref 66) _) _ _ _)); refine halt ?_))
local macro_rules | `(tactic| walk_at "exec Raise some none") => `(tactic| (k_here; refine halt ?_))
set_option maxHeartbeats 1000000 in
theorem tld1 (w mean mg mb) (t : Tok) : CB0 w mean mg mb 8 125 [.int 9223372036854775808 t] (fun v => ∃ t, v = .str (PySem.Str.ofString "refused") t) := by
  walk_at "ez open"
  intro news dp un gd cn cs a ccd A₀ base h₀ L m s Q E B F X N T hk XB TB hd hu hret
  walk_at "ez enterS"
  k_steps
  refine Halt.go ?_
  walk_at "ez enter"
  k_steps
  refine Halt.go ?_
  walk_at "ez enter"
  k_steps
  refine Halt.go ?_
  walk_at "ez raise"
  k_steps
  exact hret _ _ _ ⟨_, rfl⟩ (by assumption) (by assumption)
set_option maxHeartbeats 1000000 in
theorem tld2 (w mean mg mb) (t : Tok) : CB0 w mean mg mb 8 125 [.int (-9223372036854775809) t] (fun v => ∃ t, v = .str (PySem.Str.ofString "refused") t) := by
  walk_at "ez open"
  intro news dp un gd cn cs a ccd A₀ base h₀ L m s Q E B F X N T hk XB TB hd hu hret
  walk_at "ez enterS"
  k_steps
  refine Halt.go ?_
  walk_at "ez enter"
  k_steps
  refine Halt.go ?_
  walk_at "ez enter"
  k_steps
  refine Halt.go ?_
  walk_at "ez raise"
  k_steps
  exact hret _ _ _ ⟨_, rfl⟩ (by assumption) (by assumption)
set_option maxHeartbeats 1000000 in
theorem tld3 (w mean mg mb) : CB0 w mean mg mb 8 125 [.bool true] (fun v => ∃ t, v = .str (PySem.Str.ofString "kind") t) := by
  walk_at "ez open"
  intro news dp un gd cn cs a ccd A₀ base h₀ L m s Q E B F X N T hk XB TB hd hu hret
  walk_at "ez enterS"
  k_steps
  refine Halt.go ?_
  walk_at "ez enter"
  k_steps
  refine Halt.go ?_
  walk_at "ez raise"
  k_steps
  exact hret _ _ _ ⟨_, rfl⟩ (by assumption) (by assumption)
set_option maxHeartbeats 1000000 in
theorem tld4 (w mean mg mb) (x : PySem.Str) (t : Tok) : CB0 w mean mg mb 8 125 [.str x t] (fun v => ∃ t, v = .str (PySem.Str.ofString "kind") t) := by
  walk_at "ez open"
  intro news dp un gd cn cs a ccd A₀ base h₀ L m s Q E B F X N T hk XB TB hd hu hret
  walk_at "ez enterS"
  k_steps
  refine Halt.go ?_
  walk_at "ez enter"
  k_steps
  refine Halt.go ?_
  walk_at "ez raise"
  k_steps
  exact hret _ _ _ ⟨_, rfl⟩ (by assumption) (by assumption)
theorem tldR (w mean mg mb) (x : Int) (t : Tok) (h : x = 9223372036854775808 ∨ x = -9223372036854775809) : CB0 w mean mg mb 8 125 [.int x t] (fun v => ∃ t, v = .str (PySem.Str.ofString "refused") t) := by
  rcases h with rfl | rfl
  · exact tld1 w mean mg mb t
  · exact tld2 w mean mg mb t
theorem tldK (w mean mg mb) (v : Value) (h : v = .bool true ∨ ∃ x t, v = .str x t) : CB0 w mean mg mb 8 125 [v] (fun v => ∃ t, v = .str (PySem.Str.ofString "kind") t) := by
  rcases h with rfl | ⟨x, t, rfl⟩
  · exact tld3 w mean mg mb
  · exact tld4 w mean mg mb x t
end
section
local macro_rules | `(tactic| walk_at "pyIter ref") => `(tactic| (k_here; (with_reducible show wpAny _ _ (pyIter (Value.ref _)) (fun it s₂ => TurnsAt _ _ _ _ _ _ _ _ _ it s₂) _ _); refine halt ?_))
local macro_rules | `(tactic| walk_at "CompSrc") => `(tactic| (k_here; refine halt ?_))
local macro_rules | `(tactic| walk_at "CompEnd") => `(tactic| (k_here; k_dflt (refine' comp_end ?k1 ?k2 ?k4 ?k5 ?_; (case k1 => assumption); (case k2 => assumption); (case k4 => (first | assumption | (simp only [LCg.Off3]; assumption) | (simp only [LCg.Off3, and_true]; assumption))); (case k5 => lcg_src); k_whole); refine halt ?_))
local macro_rules | `(tactic| walk_at "eval IfExp") => `(tactic| (k_here; (fail_if_success (with_reducible rename CutMark => mk9)); refine halt ?_))
local macro_rules | `(tactic| walk_at "binaryOp Pow int int") => `(tactic| (k_here; (with_reducible show wpAny _ _ (binaryOp _ (Value.int 256 _) _) _ _ _); (fail_if_success (with_reducible rename CutMark => mk9)); refine halt ?_))
local macro_rules | `(tactic| walk_at "exec For Name Tuple cons nil") => `(tactic| (k_here; refine halt ?_))
local macro_rules | `(tactic| walk_at "eval BinOp") => `(tactic| (k_here; (with_reducible show wpAny _ (Around.deeper callerA _) _ _ _ _); (fail_if_success (with_reducible rename CutMark => mk9)); refine halt ?_))
local macro_rules | `(tactic| walk_at "ez cut") => `(tactic| (refine Halt.go ?_; refine cut_int (fun _ => True) (by assumption) (by assumption) ?_ ?_; (focus (have mk := cutMark; k_steps; exact CutQ.go (by assumption) (by assumption) trivial)); intro n2 t2 h2 tk2 nx F2 N2; clear nx; k_steps))
local macro_rules | `(tactic| walk_at "binaryOp Mod int int") => `(tactic| (k_here; (with_reducible show wpAny _ _ (binaryOp _ (Value.int (HMul.hMul _ _) _) _) _ _ _); (with_reducible refine PyProof.Rows.mod_int' (by rw [p63]; decide) ?_)))
local macro_rules | `(tactic| walk_at "call ref") => `(tactic| (k_here; (with_reducible show wpAny _ _ (call (Value.ref 113) [Value.int _ _]) _ _ _); k_dflt (refine' (lawo64 _ _ _ _ _ _ (by first | assumption | exact guard64 (by assumption) (by assumption))).use ?k1 ?k2 ?k3 ?k4 ?k5 ?kK ?kd ?ku ?_); (case k1 => k_asm); (case k2 => k_asm); (case k3 => k_asm); (case k4 => k_asm); (case k5 => k_asm); (case kK => first | exact rfl | assumption); (case kd => first | ktr_room | decide); (case ku => first | ktr_units | decide); k_whole; intro v9 h9 tk9 e9 F9 N9; obtain ⟨b9, u9, e9, hb9⟩ := e9; subst e9; (have hz9 := size_ints hb9)))
local macro_rules | `(tactic| walk_at "call ref") => `(tactic| (k_here; (with_reducible show wpAny _ _ (call (Value.ref 106) [Value.int _ _]) _ _ _); k_dflt (refine' (enc64 _ _ _ _ _ _ (by first | assumption | exact guard64 (by assumption) (by assumption))).use ?k1 ?k2 ?k3 ?k4 ?k5 ?kK ?kd ?ku ?_); (case k1 => k_asm); (case k2 => k_asm); (case k3 => k_asm); (case k4 => k_asm); (case k5 => k_asm); (case kK => first | exact rfl | assumption); (case kd => first | ktr_room | decide); (case ku => first | ktr_units | decide); k_whole; intro v9 h9 tk9 e9 F9 N9; obtain ⟨b9, u9, e9, hb9⟩ := e9; subst e9; (have hz9 := size_ints hb9)))
local macro_rules | `(tactic| walk_at "call ref") => `(tactic| (k_here; (with_reducible show wpAny _ _ (call (Value.ref 99) [Value.bytes _ _]) _ _ _); k_dflt (refine' (dec64 _ _ _ _ _ _ _ (by assumption) (by first | assumption | exact guard64 (by assumption) (by assumption))).use ?k1 ?k2 ?k3 ?k4 ?k5 ?kK ?kd ?ku ?_); (case k1 => k_asm); (case k2 => k_asm); (case k3 => k_asm); (case k4 => k_asm); (case k5 => k_asm); (case kK => first | exact rfl | assumption); (case kd => first | ktr_room | decide); (case ku => first | ktr_units | decide); k_whole; intro v9 h9 tk9 e9 F9 N9; obtain ⟨u9, e9⟩ := e9; subst e9))
local macro_rules | `(tactic| walk_at "compareOp NotEq bytes bytes") => `(tactic| (k_here; (with_reducible show wpAny _ _ (compareOp CmpOp.NotEq (Value.bytes _ _) (Value.bytes _ _)) _ _ _); refine ne_bytes_ints (by assumption) (by assumption) ?_))
local macro_rules | `(tactic| walk_at "call ref") => `(tactic| (k_here; (with_reducible show wpAny _ _ (call (Value.ref 118) [Value.bytes _ _]) _ _ _); k_dflt (refine' (lawv _ _ _ _ _ _ _ (by assumption) (by assumption)).use ?k1 ?k2 ?k3 ?k4 ?k5 ?kK ?kd ?ku ?_); (case k1 => k_asm); (case k2 => k_asm); (case k3 => k_asm); (case k4 => k_asm); (case k5 => k_asm); (case kK => first | exact rfl | assumption); (case kd => first | ktr_room | decide); (case ku => first | ktr_units | decide); k_whole; intro v9 h9 tk9 e9 F9 N9; obtain ⟨u9, e9⟩ := e9; subst e9))
local macro_rules | `(tactic| walk_at "call ref") => `(tactic| (k_here; (with_reducible show wpAny _ _ (call (Value.ref 99) [Value.bytes _ _]) _ _ _); k_dflt (refine' (dec _ _ _ _ _ _ _ (by assumption) (by assumption)).use ?k1 ?k2 ?k3 ?k4 ?k5 ?kK ?kd ?ku ?_); (case k1 => k_asm); (case k2 => k_asm); (case k3 => k_asm); (case k4 => k_asm); (case k5 => k_asm); (case kK => first | exact rfl | assumption); (case kd => first | ktr_room | decide); (case ku => first | ktr_units | decide); k_whole; intro v9 h9 tk9 e9 F9 N9; obtain ⟨u9, e9⟩ := e9; subst e9))
local macro_rules | `(tactic| walk_at "call type:bytes") => `(tactic| (k_here; (with_reducible show wpAny _ _ (call (Value.type "bytes") [Value.ref _]) _ _ _); refine halt ?_))
local macro_rules | `(tactic| walk_at "isTrue BoolOp") => `(tactic| (k_here; (fail_if_success (with_reducible rename CutMark => mk9)); refine halt ?_))
local macro_rules | `(tactic| walk_at "call ref") => `(tactic| (k_here; kfb_any; k_dflt (first | (refine fb_kw_little (by k_asm) (by k_mem) (by assumption) (by kfb_size) ?_; intro _ _) | (refine fb_kw_big (by k_asm) (by k_mem) (by assumption) (by kfb_size) ?_; intro _ _) | (refine fb_pos_big (by k_asm) (by k_mem) (by assumption) (by kfb_size) ?_; intro _ _))))
local macro_rules | `(tactic| walk_at "call ref") => `(tactic| (k_here; (with_reducible show wpAny _ _ (call (Value.ref 80) [Value.bytes _ _, Value.int _ _]) _ _ _); k_dflt (refine' (ifb _ _ _ _ _ _ _ _ _ (by assumption) (by assumption) (by assumption)).use ?k1 ?k2 ?k3 ?k4 ?k5 ?kK ?kd ?ku ?_); (case k1 => k_asm); (case k2 => k_asm); (case k3 => k_asm); (case k4 => k_asm); (case k5 => k_asm); (case kK => first | exact rfl | assumption); (case kd => first | ktr_room | decide); (case ku => first | ktr_units | decide); k_whole; intro v9 h9 tk9 e9 F9 N9; obtain ⟨u9, e9⟩ := e9; subst e9))
local macro_rules | `(tactic| walk_at "call ref") => `(tactic| (k_here; (with_reducible show wpAny _ _ (call (Value.ref 92) [Value.int _ _]) _ _ _); k_dflt (refine' (hexs _ _ _ _ _ (by first | assumption | omega) _).use ?k1 ?k2 ?k3 ?k4 ?k5 ?kK ?kd ?ku ?_); (case k1 => k_asm); (case k2 => k_asm); (case k3 => k_asm); (case k4 => k_asm); (case k5 => k_asm); (case kK => first | exact rfl | assumption); (case kd => first | ktr_room | decide); (case ku => first | ktr_units | decide); k_whole; intro v9 h9 tk9 e9 F9 N9; obtain ⟨u9, e9⟩ := e9; subst e9))
local macro_rules | `(tactic| walk_at "call ref") => `(tactic| (k_here; (with_reducible show wpAny _ _ (call (Value.ref 132) [Value.int _ _]) _ _ _); k_dflt (refine' (lawg _ _ _ _ _ (by first | assumption | omega) _).use ?k1 ?k2 ?k3 ?k4 ?k5 ?kK ?kd ?ku ?_); (case k1 => k_asm); (case k2 => k_asm); (case k3 => k_asm); (case k4 => k_asm); (case k5 => k_asm); (case kK => first | exact rfl | assumption); (case kd => first | ktr_room | decide); (case ku => first | ktr_units | decide); k_whole; intro v9 h9 tk9 e9 F9 N9; obtain ⟨u9, e9⟩ := e9; subst e9))
local macro_rules | `(tactic| walk_at "call ref") => `(tactic| (k_here; (with_reducible show wpAny _ _ (call (Value.ref 125) [Value.int _ _]) _ _ _); k_dflt (refine' (tldR _ _ _ _ _ _ (by rw [p63]; decide)).use ?k1 ?k2 ?k3 ?k4 ?k5 ?kK ?kX ?kT ?kd ?ku ?_); (case k1 => k_asm); (case k2 => k_asm); (case k3 => k_asm); (case k4 => k_asm); (case k5 => k_asm); (case kK => first | exact rfl | assumption); (case kX => k_asm); (case kT => k_asm); (case kd => first | ktr_room | decide); (case ku => first | ktr_units | decide); k_whole; intro v9 h9 tk9 e9 F9 N9; obtain ⟨u9, e9⟩ := e9; subst e9))
local macro_rules | `(tactic| walk_at "call ref") => `(tactic| (k_here; (first | (with_reducible show wpAny _ _ (call (Value.ref 125) [Value.bool true]) _ _ _) | (with_reducible show wpAny _ _ (call (Value.ref 125) [Value.str _ _]) _ _ _)); k_dflt (refine' (tldK _ _ _ _ _ (by first | exact Or.inl rfl | exact Or.inr ⟨_, _, rfl⟩)).use ?k1 ?k2 ?k3 ?k4 ?k5 ?kK ?kX ?kT ?kd ?ku ?_); (case k1 => k_asm); (case k2 => k_asm); (case k3 => k_asm); (case k4 => k_asm); (case k5 => k_asm); (case kK => first | exact rfl | assumption); (case kX => k_asm); (case kT => k_asm); (case kd => first | ktr_room | decide); (case ku => first | ktr_units | decide); k_whole; intro v9 h9 tk9 e9 F9 N9; obtain ⟨u9, e9⟩ := e9; subst e9))
local macro_rules | `(tactic| walk_at "compareOp Eq bytes bytes") => `(tactic| (k_here; (with_reducible show wpAny _ _ (compareOp CmpOp.Eq (Value.bytes _ _) (Value.bytes _ _)) _ _ _); refine eq_bytes_ints (by assumption) (by assumption) ?_))
local macro_rules | `(tactic| walk_at "call ref") => `(tactic| (k_here; (with_reducible show wpAny _ _ (call (Value.ref 125) [Value.int _ _]) _ _ _); k_dflt (refine' (tldR _ _ _ _ _ _ (by rw [p63]; decide)).use ?k1 ?k2 ?k3 ?k4 ?k5 ?kK ?kX ?kT ?kd ?ku ?_); (case k1 => k_asm); (case k2 => k_asm); (case k3 => k_asm); (case k4 => k_asm); (case k5 => k_asm); (case kK => first | exact rfl | assumption); (case kX => k_asm); (case kT => k_asm); (case kd => first | ktr_room | decide); (case ku => first | ktr_units | decide); k_whole; intro v9 h9 tk9 e9 F9 N9; obtain ⟨u9, e9⟩ := e9; subst e9))
local macro_rules | `(tactic| walk_at "call ref") => `(tactic| (k_here; (first | (with_reducible show wpAny _ _ (call (Value.ref 125) [Value.bool true]) _ _ _) | (with_reducible show wpAny _ _ (call (Value.ref 125) [Value.str _ _]) _ _ _)); k_dflt (refine' (tldK _ _ _ _ _ (by first | exact Or.inl rfl | exact Or.inr ⟨_, _, rfl⟩)).use ?k1 ?k2 ?k3 ?k4 ?k5 ?kK ?kX ?kT ?kd ?ku ?_); (case k1 => k_asm); (case k2 => k_asm); (case k3 => k_asm); (case k4 => k_asm); (case k5 => k_asm); (case kK => first | exact rfl | assumption); (case kX => k_asm); (case kT => k_asm); (case kd => first | ktr_room | decide); (case ku => first | ktr_units | decide); k_whole; intro v9 h9 tk9 e9 F9 N9; obtain ⟨u9, e9⟩ := e9; subst e9))
local macro_rules | `(tactic| walk_at "compareOp Eq bytes bytes") => `(tactic| (k_here; (with_reducible show wpAny _ _ (compareOp CmpOp.Eq (Value.bytes _ _) (Value.bytes _ _)) _ _ _); refine eq_bytes_ints (by assumption) (by assumption) ?_))
set_option maxHeartbeats 4000000 in
theorem whole : PySem.Challenge.rw_ez0010_01.Holds := Mine.hd (by
  w_strict (
    k_go0
    all_goals try k_fold
    k_steps
    refine Halt.go ?_
    (with_reducible rename IntsAre _ (List.take _ _) => hI')
    (with_reducible rename Eq (List.length (List.take 12 _)) _ => hl12)
    k_dflt refine LCg.CompSrc.ledger (by rfl) (by k_asm) (by k_asm) (by k_mem) (by (have hb9 := hI'.length); simp only [List.size_toArray]; rw [PySem.sizeLine_eq]; omega) ?_
    intro g'
    refine' kcf_list (fun k => if k < 0 then -k else k) hI' (fun k' t' I' oI' C' oC' D' m' ys' h' tk' E' hk' hC' hx' F' N' off' ne' hMark' => ?_) ?_
    · k_steps
      refine Halt.go ?_
      exact kcf_el rfl rfl rfl
    unfold KPfDone
    intro ys hys
    have hns : ∃ ns : List Int, IntsAre ys ns ∧ ns.length ≤ 12 ∧ ∀ k ∈ ns, 0 ≤ k := by
      refine ⟨_, hys, by rw [List.length_map]; omega, fun k hk => ?_⟩
      obtain ⟨x, _, rfl⟩ := List.mem_map.mp hk
      split <;> omega
    clear hys
    obtain ⟨ns, hys, hnl, hnn⟩ := hns
    k_steps
    refine Halt.go ?_
    refine cut_int (fun x => 0 ≤ x ∧ x < 1180591620717411303424) (by assumption) (by assumption) ?_ ?_
    · have mk := cutMark
      k_steps
      · exact CutQ.go (by assumption) (by assumption) head_bound
      · exact CutQ.go (by assumption) (by assumption) (by decide)
    intro head th hh tkh hhead Fh Nh
    k_steps
    refine Halt.go ?_
    refine cut_int (fun _ => True) (by assumption) (by assumption) ?_ ?_
    · have mk := cutMark
      k_steps
      exact CutQ.go (by assumption) (by assumption) trivial
    intro power tp hp tkp hpower Fp Np
    clear hpower
    k_steps
    refine Halt.go ?_
    (with_reducible rename Fr _ _ _ _ => F9)
    refine For_turns F9 ?_ (by intro _; rfl) (by passes_own)
    k_steps
    walk_at "ez cut"
    walk_at "ez cut"
    walk_at "ez cut"
    walk_at "ez cut"
    walk_at "ez cut"
    refine Halt.go ?_
    refine cut_int (fun _ => True) (by assumption) (by assumption) ?_ ?_
    · have mk := cutMark
      k_steps
      exact CutQ.go (by assumption) (by assumption) trivial
    intro n2 t2 h2 tk2 nx F2 N2
    clear nx
    k_steps
    refine Halt.go ?_
    (with_reducible rename Fr _ _ _ _ => F9)
    (with_reducible rename News _ _ _ _ => N9)
    obtain ⟨u, F8⟩ := fr_two (x₁ := PySem.Str.ofString "numbers") (x₂ := PySem.Str.ofString "head") F9 (by exact rfl) (by exact rfl)
    refine tup_two (fun v => ∃ k t, v = .int k t) F8 N9 (by k_mem) (by rfl) (by rfl) (by rfl) ?_ ?_ ?_
    · simp
    · intro I v u h tk o hv ho F7 N7 hlt
      obtain ⟨number, tn, e⟩ := hv
      subst e
      k_steps
      refine Halt.go ?_
      (with_reducible rename Fr _ _ _ _ => F6)
      refine For_turns F6 ?_ (by intro _; rfl) (by passes_own)
      k_steps
      refine Halt.go ?_
      (with_reducible rename Fr _ _ _ _ => F5)
      (with_reducible rename News _ _ _ _ => N5)
      obtain ⟨u5, F4⟩ := fr_two (x₁ := PySem.Str.ofString "numbers") (x₂ := PySem.Str.ofString "head") F5 (by exact rfl) (by exact rfl)
      refine tup_two (fun v => ∃ k t, v = .int k t) F4 N5 (by k_mem) (by rfl) (by rfl) (by rfl) ?_ ?_ ?_
      · simp
      · intro I2 v2 u2 h2 tk2 o2 hv2 ho2 F3 N3 hlt2
        obtain ⟨one, t1, e⟩ := hv2
        subst e
        clear F5 N5 F4
        have mk := cutMark
        k_steps
        all_goals first
          | exact TEnd.two (by assumption) (by exact rfl) (by exact rfl) (by assumption)
          | exact absurd (rfl : one = one) (by assumption)
          | exact absurd (rfl : octs one = octs one) (by assumption)
      · intro u3 h3 tk3 F3 N3
        k_steps
        exact TEnd.two (by assumption) (by exact rfl) (by exact rfl) (cb_drop (by assumption) (fun p hp => List.mem_cons_of_mem _ hp))
    · intro u3 h3 tk3 F3 N3
      dsimp only [envOf] at F3 N3
      k_steps
      refine Halt.go ?_
      (with_reducible rename IntsAre _ (List.take _ (List.drop _ _)) => hJ')
      k_dflt refine LCg.CompSrc.ledger (by rfl) (by k_asm) (by k_asm) (by k_mem) (by (have hb9 := hJ'.length); simp only [List.size_toArray]; rw [PySem.sizeLine_eq]; simp only [List.length_take, List.length_drop] at hb9; omega) ?_
      intro g'
      refine' kcf_list (fun k => k.fmod 256) hJ' (fun k' t' I' oI' C' oC' D' m' ys' h' tk' E' hk' hC' hx' F' N' off' ne' hMark' => ?_) ?_
      · have mk := cutMark
        k_steps
        refine Halt.go ?_
        exact kcf_el rfl rfl rfl
      unfold KPfDone
      intro zs hzs
      have hks : ∃ ks : List Int, IntsAre zs ks ∧ ks.length ≤ 9 ∧ KBa.In ks := by
        refine ⟨_, hzs, by simp only [List.length_map, List.length_take, List.length_drop]; omega, fun k hk => ?_⟩
        obtain ⟨x, _, rfl⟩ := List.mem_map.mp hk
        exact fmod_bound (by decide)
      clear hzs
      obtain ⟨ks, hzs, hkl, hkin⟩ := hks
      have hshort := octs_short hkin
      k_steps
      refine Halt.go ?_
      refine bytes_made (by assumption) (by assumption) (by k_mem) hzs hkin hkl (by rfl) ?_
      intro b h4 t4 tk4 F4 N4 hb
      have hbz := size_ints hb
      k_steps
      refine Halt.go ?_
      refine cut_bool (by assumption) (by assumption) ?_ ?_
      · have mk := cutMark
        k_steps
        all_goals first
          | exact CutB.go (by assumption) (by assumption)
          | exact absurd (rfl : val ks = val ks) (by assumption)
          | exact absurd (rfl : octs (val ks) = octs (val ks)) (by assumption)
          | (exfalso; omega)
      intro h5 tk5 F5 N5
      k_steps
      refine Halt.go ?_
      (with_reducible rename Fr _ _ _ _ => F6)
      refine For_turns F6 ?_ (by intro _; rfl) (by passes_own)
      have mk := cutMark
      k_steps
      clear mk
      refine Halt.go ?_
      (with_reducible rename Fr _ _ _ _ => F5)
      (with_reducible rename News _ _ _ _ => N5)
      obtain ⟨u6, F4⟩ := fr_three (x₁ := PySem.Str.ofString "whole") (x₂ := PySem.Str.ofString "octets") (x₃ := PySem.Str.ofString "head") F5 (by exact rfl) (by exact rfl) (by exact rfl)
      refine tup_three (fun v => ∃ k t, v = .int k t ∧ 0 ≤ k ∧ k ≤ 200) F4 N5 (by k_mem) (by rfl) (by rfl) (by rfl) ?_ ?_ ?_
      · have hb80 := fmod_bound (a := head) (b := 80) (by decide)
        intro v hv
        simp only [List.mem_cons, List.not_mem_nil, or_false] at hv
        rcases hv with rfl | rfl | rfl | rfl | rfl
        all_goals exact ⟨_, _, rfl, by omega⟩
      · intro I2 v2 u2 h2 tk2 o2 hv2 ho2 F3 N3 hlt2
        obtain ⟨bits, t1, e, hbits⟩ := hv2
        subst e
        have mk := cutMark
        k_steps
        all_goals first
          | exact TEnd.three (by assumption) (by exact rfl) (by exact rfl) (by exact rfl) (by assumption)
          | (exfalso; (with_reducible rename (Ne (Int.fdiv _ _) (Int.fdiv _ _)) => hne); refine hne (congrArg (fun e : Nat => Int.fdiv _ (2 ^ e)) ?_); first | omega | (split <;> omega))
      intro u7 h7 tk7 F7 N7
      dsimp only [envOf] at F7 N7
      have hwb : 0 ≤ KFB.value ks ∧ KFB.value ks < 4722366482869645213696 := value_bound hkin hkl
      k_steps
      refine Halt.go ?_
      refine cut_bool (by assumption) (by assumption) ?_ ?_
      · have mk := cutMark
        k_steps
        all_goals first
          | exact CutB.go (by assumption) (by assumption)
          | (exfalso; (have hne : (hexTold (KFB.value ks).natAbs != hexTold (KFB.value ks).natAbs) = true := by assumption); simp at hne)
          | (exfalso; (have hne : (hexTold head.natAbs != hexTold head.natAbs) = true := by assumption); simp at hne)
      intro h8 tk8 F8 N8
      have h64 : R64 (-(2 ^ Int.toNat 63)) := by unfold R64; rw [p63]; decide
      have mk := cutMark
      k_steps
      ))
end
end Mine
theorem PySem.Challenge.cw_ez0010_01_holds : PySem.Challenge.rw_ez0010_01.Holds :=
  Mine.whole
